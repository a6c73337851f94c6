/-
  FnGjEscapeOne: closed facts of the row, first part.
-/
import Derived.Test.YtdolnkknlflmeaaGreatDoorRows
import Derived.JoinedOf
namespace Go.Proofs.YtdolnkknlflmeaaGreatDoor
open Go
theorem jf5_inPlace : (Rows.fnGjEscapeOneRow.inPlace == Tryz.prog.inPlace 5) = true := by kernel_rfl
theorem jf5_unfollowed : (Rows.fnGjEscapeOneRow.unfollowed == Tryz.prog.unfollowed 5) = true := by kernel_rfl
theorem jf5_recurses : (Rows.fnGjEscapeOneRow.recurses == Tryz.prog.recurses 5) = true := by kernel_rfl
end Go.Proofs.YtdolnkknlflmeaaGreatDoor
