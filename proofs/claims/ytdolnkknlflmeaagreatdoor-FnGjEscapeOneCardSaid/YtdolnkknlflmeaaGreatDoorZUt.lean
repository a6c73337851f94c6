/-
  spec.UTF8 ends for every text.
-/
import Derived.Test.YtdolnkknlflmeaaGreatDoorZPs
import Derived.Test.YtdolnkknlflmeaaGreatDoorZLx1
namespace Go.Proofs.YtdolnkknlflmeaaGreatDoor.L
open Go.RowKit Go.Proofs.YtdolnkknlflmeaaGreatDoorW.PrintWords Go.Proofs.YtdolnkknlflmeaaGreatDoorW.PrintLast Go.Proofs.YtdolnkknlflmeaaGreatDoorW.PrintMore
set_option linter.unusedVariables false
set_option linter.unusedSimpArgs false

theorem high_tot (x : Int) : ∃ b, spec_high.f x = some b := by unfold spec_high.f; split <;> exact ⟨_, rfl⟩
theorem low_tot (x : Int) : ∃ b, spec_low.f x = some b := by unfold spec_low.f; split <;> exact ⟨_, rfl⟩
theorem char_l0_tot (s : ByteArray) (hs : s.size ≤ 1000000) (i m : Nat) (hm : m ≤ 3) (hi : i + m < s.size) (x9 : Int) : ∀ (n k : Nat) (x7 : Int) (j : Nat), j + n = m + 1 → n < k →
    ∃ r, spec_Character.l0 k s i x7 m x9 j = some r ∧ (r.2.2 = true → r.2.1 = ((m + 1 : Nat) : Int))
  | _, 0, _, _, _, h => by omega
  | 0, k + 1, x7, j, hj, hk => by
    rw [spec_Character.l0, if_neg (by omega)]
    split
    · exact ⟨_, rfl, fun h => by simp at h⟩
    split
    · exact ⟨_, rfl, fun h => by simp at h⟩
    obtain ⟨b, hb⟩ := high_tot x7
    obtain ⟨c, hc⟩ := low_tot x7
    rw [hb]
    simp only [Option.bind_some]
    split
    · exact ⟨_, rfl, fun h => by simp at h⟩
    rw [hc]
    simp only [Option.bind_some]
    split
    · exact ⟨_, rfl, fun h => by simp at h⟩
    · exact ⟨_, rfl, fun _ => by simp only; rw [w64 (by omega)]; omega⟩
  | n + 1, k + 1, x7, j, hj, hk => by
    have e1 : wrap64 ((i : Int) + (j : Int)) = ((i + j : Nat) : Int) := by rw [w64 (by omega)]; omega
    have e2 : wrap64 ((j : Int) + 1) = ((j + 1 : Nat) : Int) := by rw [w64 (by omega)]; omega
    rw [spec_Character.l0, if_pos (by omega), e1, if_pos (by omega), if_pos (by omega), e2]
    split
    · exact ⟨_, rfl, fun h => by simp at h⟩
    split
    · exact ⟨_, rfl, fun h => by simp at h⟩
    · exact char_l0_tot s hs i m hm hi x9 n k _ (j + 1) (by omega) (by omega)
theorem char_j2_tot (s : ByteArray) (hs : s.size ≤ 1000000) (i m : Nat) (hi : i < s.size) (hm : m ≤ 3) (hm1 : 1 ≤ m) (x7 x9 : Int) (k : Nat) (hk : 6 ≤ k) :
    ∃ r, spec_Character.j2 k s i x7 m x9 = some r ∧ (r.2.2 = true → 1 ≤ r.2.1 ∧ (i : Int) + r.2.1 ≤ s.size) := by
  obtain ⟨k, rfl⟩ : ∃ n, k = n + 1 := ⟨k - 1, by omega⟩
  rw [spec_Character.j2, w64 (by omega)]
  split
  · exact ⟨_, rfl, fun h => by simp at h⟩
  · obtain ⟨r, h1, h2⟩ := char_l0_tot s hs i m hm (by omega) x9 m k x7 1 (by omega) (by omega)
    refine ⟨r, h1, fun h => ?_⟩
    rw [h2 h]
    omega
theorem char_tot (s : ByteArray) (hs : s.size ≤ 1000000) (i : Nat) (hi : i < s.size) (k : Nat) (hk : 8 ≤ k) : ∃ r, spec_Character.f k s i = some r ∧ (r.2.2 = true → 1 ≤ r.2.1 ∧ (i : Int) + r.2.1 ≤ s.size) := by
  have j1 : ∀ x7 b k, 7 ≤ k → ∃ r, spec_Character.j1 k s i x7 b = some r ∧ (r.2.2 = true → 1 ≤ r.2.1 ∧ (i : Int) + r.2.1 ≤ s.size) := by
    intro x7 b k hk
    obtain ⟨k, rfl⟩ : ∃ n, k = n + 1 := ⟨k - 1, by omega⟩
    rw [spec_Character.j1]
    split
    · exact char_j2_tot s hs i 2 hi (by omega) (by omega) _ _ k (by omega)
    split
    · split
      · exact char_j2_tot s hs i 3 hi (by omega) (by omega) _ _ k (by omega)
      · exact ⟨_, rfl, fun h => by simp at h⟩
    · exact ⟨_, rfl, fun h => by simp at h⟩
  have j0 : ∀ x7 b, ∃ r, spec_Character.j0 k s i x7 b = some r ∧ (r.2.2 = true → 1 ≤ r.2.1 ∧ (i : Int) + r.2.1 ≤ s.size) := by
    intro x7 b
    obtain ⟨k, rfl⟩ : ∃ n, k = n + 1 := ⟨k - 1, by omega⟩
    rw [spec_Character.j0]
    split
    · exact char_j2_tot s hs i 1 hi (by omega) (by omega) _ _ k (by omega)
    split
    · exact j1 _ _ k (by omega)
    · exact j1 _ _ k (by omega)
  unfold spec_Character.f
  rw [if_pos (by omega), if_pos (by omega)]
  split
  · exact ⟨_, rfl, fun _ => by simp only; omega⟩
  split
  · exact j0 _ _
  · exact j0 _ _
theorem utf8_l0_tot (s : ByteArray) (hs : s.size ≤ 1000000) : ∀ (n k i : Nat), s.size ≤ i + n → n + 10 ≤ k → i ≤ s.size → ∃ r, spec_UTF8.l0 k s i = some r
  | _, 0, _, _, h, _ => by omega
  | 0, k + 1, i, h1, h2, h3 => by rw [spec_UTF8.l0, if_neg (by omega)]; exact ⟨_, rfl⟩
  | n + 1, k + 1, i, h1, h2, h3 => by
    rw [spec_UTF8.l0]
    split
    · obtain ⟨r, h4, h5⟩ := char_tot s hs i (by omega) k (by omega)
      rw [h4]
      simp only [Option.bind_some]
      split
      · rename_i h6
        obtain ⟨h7, h8⟩ := h5 h6
        obtain ⟨m, hm⟩ : ∃ m : Nat, r.2.1 = m := ⟨r.2.1.toNat, by omega⟩
        rw [hm] at h7 h8 ⊢
        have e : wrap64 ((i : Int) + (m : Int)) = ((i + m : Nat) : Int) := by rw [w64 (by omega)]; omega
        rw [e]
        exact utf8_l0_tot s hs n k (i + m) (by omega) (by omega) (by omega)
      · exact ⟨_, rfl⟩
    · exact ⟨_, rfl⟩
theorem utf8_calls (s : ByteArray) (hs : s.size ≤ 1000000) : ∃ b : Bool, ∀ w, Calls Tryz.prog 17 #[.string s] w fun e w' => e = .returned (.bool b) ∧ Drawn0 w w' := by
  obtain ⟨r, hr⟩ := utf8_l0_tot s hs s.size (s.size + 10) 0 (by omega) (by omega) (by omega)
  exact ⟨r, fun w => spec_UTF8.calls (s.size + 10) s r w hr⟩
end Go.Proofs.YtdolnkknlflmeaaGreatDoor.L
