/-
  FnGjArrayPathKey: closed facts of the row, second part.
-/
import Derived.Test.YtdolnkknlflmeaaGreatDoorApkF1
namespace Go.Proofs.YtdolnkknlflmeaaGreatDoor
open Go
theorem jf4_named : (Rows.fnGjArrayPathKeyRow.named == Tryz.prog.varsNamed 4) = true := by kernel_rfl
theorem jf_laidOut : laidOutB Tryz.prog = true := by kernel_rfl
theorem jf_mapsRowed : mapsRowed Tryz.prog = true := by kernel_rfl
theorem and_tt {a b : Bool} (h : a = true) (k : b = true) : (a && b) = true := by rw [h, k]; rfl
theorem jf4 : joinedFacts Tryz.prog 4 Tryz.f4 Rows.fnGjArrayPathKeySpec Rows.fnGjArrayPathKeyRow = true := by
  unfold joinedFacts
  repeat' (with_reducible refine and_tt ?_ ?_)
  all_goals first | with_reducible exact jf4_inPlace | with_reducible exact jf4_unfollowed | with_reducible exact jf4_recurses | with_reducible exact jf4_named | with_reducible exact jf_laidOut | with_reducible exact jf_mapsRowed | kernel_rfl
end Go.Proofs.YtdolnkknlflmeaaGreatDoor
