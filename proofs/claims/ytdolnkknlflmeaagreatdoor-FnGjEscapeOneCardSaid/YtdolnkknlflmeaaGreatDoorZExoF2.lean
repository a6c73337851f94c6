/-
  FnGjEscapeOne: closed facts of the row, second part.
-/
import Derived.Test.YtdolnkknlflmeaaGreatDoorZExoF1
namespace Go.Proofs.YtdolnkknlflmeaaGreatDoor
open Go
theorem jf5_named : (Rows.fnGjEscapeOneRow.named == Tryz.prog.varsNamed 5) = true := by kernel_rfl
theorem jf_laidOut : laidOutB Tryz.prog = true := by kernel_rfl
theorem jf_mapsRowed : mapsRowed Tryz.prog = true := by kernel_rfl
theorem and_tt {a b : Bool} (h : a = true) (k : b = true) : (a && b) = true := by rw [h, k]; rfl
theorem jf5 : joinedFacts Tryz.prog 5 Tryz.f5 Rows.fnGjEscapeOneSpec Rows.fnGjEscapeOneRow = true := by
  unfold joinedFacts
  repeat' (with_reducible refine and_tt ?_ ?_)
  all_goals first | with_reducible exact jf5_inPlace | with_reducible exact jf5_unfollowed | with_reducible exact jf5_recurses | with_reducible exact jf5_named | with_reducible exact jf_laidOut | with_reducible exact jf_mapsRowed | kernel_rfl
end Go.Proofs.YtdolnkknlflmeaaGreatDoor
