/-
  FnGjArrayPathKey: closed facts of the row, first part.
-/
import Derived.Test.YtdolnkknlflmeaaGreatDoorRows
import Derived.JoinedOf
namespace Go.Proofs.YtdolnkknlflmeaaGreatDoor
open Go
theorem jf4_inPlace : (Rows.fnGjArrayPathKeyRow.inPlace == Tryz.prog.inPlace 4) = true := by kernel_rfl
theorem jf4_unfollowed : (Rows.fnGjArrayPathKeyRow.unfollowed == Tryz.prog.unfollowed 4) = true := by kernel_rfl
theorem jf4_recurses : (Rows.fnGjArrayPathKeyRow.recurses == Tryz.prog.recurses 4) = true := by kernel_rfl
end Go.Proofs.YtdolnkknlflmeaaGreatDoor
