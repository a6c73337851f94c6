/-
  Closed facts of the cards.
-/
import Derived.Test.YtdolnkknlflmeaaGreatDoorRows
import Derived.SevenTiedAt
namespace Go.Proofs.YtdolnkknlflmeaaGreatDoor
open Go
theorem cf_main : Tryz.prog.mainIs = some (true, "2ab266443e06022d950497242c2a686eae74593254206fc8492e89a030bb81fa".toList) := by kernel_rfl
theorem cf_looks : true = Tryz.prog.looks [] := by kernel_rfl
theorem cf_stand : ([4, 9].all fun u => !Tryz.prog.wantsStandIn u) = true := by kernel_rfl
end Go.Proofs.YtdolnkknlflmeaaGreatDoor
