/-
  FnGjArrayPathKey: closed facts of its card.
-/
import Derived.Test.YtdolnkknlflmeaaGreatDoorRows
import Derived.SevenTiedAt
namespace Go.Proofs.YtdolnkknlflmeaaGreatDoor
open Go
theorem cf4_goes : false = Rows.fnGjArrayPathKeyRow.goesBy Tryz.prog := by kernel_rfl
theorem cf4_named : Tryz.prog.funcNamed "pub-tetrapla/laws.FnGjArrayPathKey" = some 4 := by kernel_rfl
end Go.Proofs.YtdolnkknlflmeaaGreatDoor
