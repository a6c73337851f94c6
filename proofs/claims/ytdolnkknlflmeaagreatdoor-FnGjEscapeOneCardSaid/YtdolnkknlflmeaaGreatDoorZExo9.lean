/-
  PROVED: for every key and other the law FnGjEscapeOne returns true, and its arguments read afterwards as before; conditions: the listed package-level variables read as the program lays them (tied by the card), each text takes at most 2^47 - 4096 bytes.
-/
import Derived.Test.YtdolnkknlflmeaaGreatDoorZRo
import Derived.Test.YtdolnkknlflmeaaGreatDoorZFa
namespace Go.Proofs.YtdolnkknlflmeaaGreatDoor
open Go
theorem escapeOne_holds : Rows.FnGjEscapeOneCardSaid :=
  Claim7.holds_tied_plain_at .later [] [.data, .data, .widerDeep, .widerDeep, .data, .data, .data, .data, .data, .data, .sentinel, .sentinel, .data, .data, .pinned, .pinned, .pinned] true (true, "2ab266443e06022d950497242c2a686eae74593254206fc8492e89a030bb81fa") true
    escapeOne_row (fun _ h => by cases h) (by kernel_rfl) (fun _ h => by cases h) fnGjEscapeOne_row_tie rfl ⟨rfl, rfl⟩ cf_main rfl
    (fun f fn hf hfn => by
      obtain rfl : f = 5 := Option.some.inj (cf5_named.symm.trans hf) |>.symm
      obtain rfl : fn = Tryz.f5 := (Option.some.inj (Tryz.func5.symm.trans hfn)).symm
      exact ⟨cf_looks, fun j t ht => by
        rw [Tryz.params5] at ht
        have hm : t ∈ [9, 9] := by simpa using Array.mem_of_getElem? ht
        have hm' : t ∈ [4, 9] := by simp at hm ⊢; simp [hm]
        exact (show Tryz.prog.wantsStandIn t = false by simpa using List.all_eq_true.1 cf_stand t hm')⟩)
    cf5_goes
#print axioms escapeOne_holds
end Go.Proofs.YtdolnkknlflmeaaGreatDoor
