/-
  FnGjArrayPathKey: the row.
-/
import Derived.Test.YtdolnkknlflmeaaGreatDoorApk7
import Derived.Test.YtdolnkknlflmeaaGreatDoorApkF2
namespace Go.Proofs.YtdolnkknlflmeaaGreatDoor
theorem arrayPathKey_row : Rows.FnGjArrayPathKeySaid :=
  OpenClaim.holds_of_wide 4 Tryz.f4 rfl rfl rfl rfl rfl rfl rfl ⟨rfl, rfl, rfl, rfl, rfl⟩ rfl rfl rfl rfl rfl (by kernel_rfl) Tryz.func4 jf4
    (of_decide_eq_true (by kernel_rfl)) (by unfold Func.isWrapper; first | (rw [if_pos (by decide +kernel)]; kernel_rfl) | (rw [if_neg (by decide +kernel)]; exact ⟨rfl, rfl⟩))
    (fun os started H enc _ => lifted4 os started H enc)

end Go.Proofs.YtdolnkknlflmeaaGreatDoor
