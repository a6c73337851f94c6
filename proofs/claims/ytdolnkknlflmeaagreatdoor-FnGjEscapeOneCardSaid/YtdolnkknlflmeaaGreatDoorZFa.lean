/-
  Parts of the proof: ExoF3, ExoF4.
-/
import Derived.Test.YtdolnkknlflmeaaGreatDoorRows
import Derived.SevenTiedAt
section
/-
  Closed facts of the cards.
-/
namespace Go.Proofs.YtdolnkknlflmeaaGreatDoor
open Go
theorem cf_main : Tryz.prog.mainIs = some (true, "2ab266443e06022d950497242c2a686eae74593254206fc8492e89a030bb81fa".toList) := by kernel_rfl
theorem cf_looks : true = Tryz.prog.looks [] := by kernel_rfl
theorem cf_stand : ([4, 9].all fun u => !Tryz.prog.wantsStandIn u) = true := by kernel_rfl
end Go.Proofs.YtdolnkknlflmeaaGreatDoor
end
section
/-
  FnGjEscapeOne: closed facts of its card.
-/
namespace Go.Proofs.YtdolnkknlflmeaaGreatDoor
open Go
theorem cf5_goes : false = Rows.fnGjEscapeOneRow.goesBy Tryz.prog := by kernel_rfl
theorem cf5_named : Tryz.prog.funcNamed "pub-tetrapla/laws.FnGjEscapeOne" = some 5 := by kernel_rfl
end Go.Proofs.YtdolnkknlflmeaaGreatDoor
end
