/-
  DERIVED. GIVEN WITH THE SEED: THE CARDS: each row of YtdolnkknlflmeaaGreatDoorRows.lean that lists a variable, with what it lists TIED to the program's text (the seventh form; the later family's looks); each row that meets fmt, with fmt's text TOLD by the authors' own Lean function (tested against real Go, not proved from fmt's source: count such statements apart). THE CARD IS WHAT COUNTS. Prove the row's statement (the work); the ties are given (YtdolnkknlflmeaaGreatDoorTie.lean); close each card by the builder's one call (the guide's Derived/Test/ToyasCard.lean, 'card_holds'). Laid BY PROGRAM, IN A SANDBOX (cutbox-door.mjs). By AI agents, Wed Nov 11 2026. No macro, syntax, notation, axiom, sorry.
-/
import Derived.Test.YtdolnkknlflmeaaGreatDoorRows
import GoSem.ClaimSeven
namespace Go.Proofs.YtdolnkknlflmeaaGreatDoor
namespace Rows

/-- THE TIED CARD OF 'laws.FnGjQueryHas'. -/
def fnGjQueryHasCard : Claim7 := { stood := { row := fnGjQueryHasRow, standIns := [], harness := (true, "2ab266443e06022d950497242c2a686eae74593254206fc8492e89a030bb81fa"), looks := true }, kinds := [], alts := [], laidByText := true, laidKinds := [.data, .data, .widerDeep, .widerDeep, .data, .data, .data, .data, .data, .data, .sentinel, .sentinel, .data, .data, .pinned, .pinned, .pinned], laidTests := true, laidLooks := .later }
def FnGjQueryHasCardSaid : Prop := Claim7.holds Tryz.pinned (.plain (OpenSpec.ofChange fnGjQueryHasSpec)) fnGjQueryHasCard

/-- THE TIED CARD OF 'laws.FnGjArrayPathKey'. -/
def fnGjArrayPathKeyCard : Claim7 := { stood := { row := fnGjArrayPathKeyRow, standIns := [], harness := (true, "2ab266443e06022d950497242c2a686eae74593254206fc8492e89a030bb81fa"), looks := true }, kinds := [], alts := [], laidByText := true, laidKinds := [.data, .data, .widerDeep, .widerDeep, .data, .data, .data, .data, .data, .data, .sentinel, .sentinel, .data, .data, .pinned, .pinned, .pinned], laidTests := true, laidLooks := .later }
def FnGjArrayPathKeyCardSaid : Prop := Claim7.holds Tryz.pinned (.plain (OpenSpec.ofChange fnGjArrayPathKeySpec)) fnGjArrayPathKeyCard

/-- THE TIED CARD OF 'laws.FnGjEscapeOne'. -/
def fnGjEscapeOneCard : Claim7 := { stood := { row := fnGjEscapeOneRow, standIns := [], harness := (true, "2ab266443e06022d950497242c2a686eae74593254206fc8492e89a030bb81fa"), looks := true }, kinds := [], alts := [], laidByText := true, laidKinds := [.data, .data, .widerDeep, .widerDeep, .data, .data, .data, .data, .data, .data, .sentinel, .sentinel, .data, .data, .pinned, .pinned, .pinned], laidTests := true, laidLooks := .later }
def FnGjEscapeOneCardSaid : Prop := Claim7.holds Tryz.pinned (.plain (OpenSpec.ofChange fnGjEscapeOneSpec)) fnGjEscapeOneCard

/-- THE TIED CARD OF 'laws.FnGjPathsQuery'. -/
def fnGjPathsQueryCard : Claim7 := { stood := { row := fnGjPathsQueryRow, standIns := [], harness := (true, "2ab266443e06022d950497242c2a686eae74593254206fc8492e89a030bb81fa"), looks := true }, kinds := [], alts := [], laidByText := true, laidKinds := [.data, .data, .widerDeep, .widerDeep, .data, .data, .data, .data, .data, .data, .sentinel, .sentinel, .data, .data, .pinned, .pinned, .pinned], laidTests := true, laidLooks := .later }
def FnGjPathsQueryCardSaid : Prop := Claim7.holds Tryz.pinned (.plain (OpenSpec.ofChange fnGjPathsQuerySpec)) fnGjPathsQueryCard

/-- THE TIED CARD OF 'laws.FnGjMapGet'. -/
def fnGjMapGetCard : Claim7 := { stood := { row := fnGjMapGetRow, standIns := [], harness := (true, "2ab266443e06022d950497242c2a686eae74593254206fc8492e89a030bb81fa"), looks := true }, kinds := [], alts := [], laidByText := true, laidKinds := [.data, .data, .widerDeep, .widerDeep, .data, .data, .data, .data, .data, .data, .sentinel, .sentinel, .data, .data, .pinned, .pinned, .pinned], laidTests := true, laidLooks := .later }
def FnGjMapGetCardSaid : Prop := Claim7.holds Tryz.pinned (.plain (OpenSpec.ofChange fnGjMapGetSpec)) fnGjMapGetCard

/-- THE SECOND FORM's CARD OF 'laws.FnGjQueryHas'. -/
def fnGjQueryHasUptoCard : Claim7 := { stood := { row := fnGjQueryHasUptoRow, standIns := [], harness := (true, "2ab266443e06022d950497242c2a686eae74593254206fc8492e89a030bb81fa"), looks := true }, kinds := [], alts := [], laidByText := true, laidKinds := [.data, .data, .widerDeep, .widerDeep, .data, .data, .data, .data, .data, .data, .sentinel, .sentinel, .data, .data, .pinned, .pinned, .pinned], laidTests := true, laidLooks := .later }
def FnGjQueryHasUptoCardSaid : Prop := Claim7.holds Tryz.pinned (.plain (OpenSpec.upto fnGjQueryHasSpec)) fnGjQueryHasUptoCard

/-- THE SECOND FORM's CARD OF 'laws.FnGjArrayPathKey'. -/
def fnGjArrayPathKeyUptoCard : Claim7 := { stood := { row := fnGjArrayPathKeyUptoRow, standIns := [], harness := (true, "2ab266443e06022d950497242c2a686eae74593254206fc8492e89a030bb81fa"), looks := true }, kinds := [], alts := [], laidByText := true, laidKinds := [.data, .data, .widerDeep, .widerDeep, .data, .data, .data, .data, .data, .data, .sentinel, .sentinel, .data, .data, .pinned, .pinned, .pinned], laidTests := true, laidLooks := .later }
def FnGjArrayPathKeyUptoCardSaid : Prop := Claim7.holds Tryz.pinned (.plain (OpenSpec.upto fnGjArrayPathKeySpec)) fnGjArrayPathKeyUptoCard

/-- THE SECOND FORM's CARD OF 'laws.FnGjEscapeOne'. -/
def fnGjEscapeOneUptoCard : Claim7 := { stood := { row := fnGjEscapeOneUptoRow, standIns := [], harness := (true, "2ab266443e06022d950497242c2a686eae74593254206fc8492e89a030bb81fa"), looks := true }, kinds := [], alts := [], laidByText := true, laidKinds := [.data, .data, .widerDeep, .widerDeep, .data, .data, .data, .data, .data, .data, .sentinel, .sentinel, .data, .data, .pinned, .pinned, .pinned], laidTests := true, laidLooks := .later }
def FnGjEscapeOneUptoCardSaid : Prop := Claim7.holds Tryz.pinned (.plain (OpenSpec.upto fnGjEscapeOneSpec)) fnGjEscapeOneUptoCard

/-- THE SECOND FORM's CARD OF 'laws.FnGjPathsQuery'. -/
def fnGjPathsQueryUptoCard : Claim7 := { stood := { row := fnGjPathsQueryUptoRow, standIns := [], harness := (true, "2ab266443e06022d950497242c2a686eae74593254206fc8492e89a030bb81fa"), looks := true }, kinds := [], alts := [], laidByText := true, laidKinds := [.data, .data, .widerDeep, .widerDeep, .data, .data, .data, .data, .data, .data, .sentinel, .sentinel, .data, .data, .pinned, .pinned, .pinned], laidTests := true, laidLooks := .later }
def FnGjPathsQueryUptoCardSaid : Prop := Claim7.holds Tryz.pinned (.plain (OpenSpec.upto fnGjPathsQuerySpec)) fnGjPathsQueryUptoCard

/-- THE SECOND FORM's CARD OF 'laws.FnGjMapGet'. -/
def fnGjMapGetUptoCard : Claim7 := { stood := { row := fnGjMapGetUptoRow, standIns := [], harness := (true, "2ab266443e06022d950497242c2a686eae74593254206fc8492e89a030bb81fa"), looks := true }, kinds := [], alts := [], laidByText := true, laidKinds := [.data, .data, .widerDeep, .widerDeep, .data, .data, .data, .data, .data, .data, .sentinel, .sentinel, .data, .data, .pinned, .pinned, .pinned], laidTests := true, laidLooks := .later }
def FnGjMapGetUptoCardSaid : Prop := Claim7.holds Tryz.pinned (.plain (OpenSpec.upto fnGjMapGetSpec)) fnGjMapGetUptoCard
end Rows
end Go.Proofs.YtdolnkknlflmeaaGreatDoor
