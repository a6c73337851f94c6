/-
  Plain facts on joined texts; walks of FnGjArrayPathKey outside its guards.
-/
import Derived.Test.YtdolnkknlflmeaaGreatDoorApk4
import Derived.Deep.RegionWith
namespace Go.Proofs.YtdolnkknlflmeaaGreatDoor
open Go.RowKit

theorem wc_clean {c : Int} (h : wc c) : c ≠ 124 ∧ c ≠ 46 ∧ c ≠ 35 ∧ c ≠ 64 ∧ c ≠ 91 ∧ c ≠ 123 := by unfold wc at h; omega
theorem word_clean {s : ByteArray} (h : wordP s) : clean s s.size := fun j hj hl => by
  have := wc_clean (h.2 j hj hl); exact ⟨this.1, this.2.1, this.2.2.1⟩

theorem ext_end (x : ByteArray) (n m : Nat) (h : x.size ≤ n) : x.extract n m = ByteArray.empty := by
  apply ByteArray.ext
  rw [ByteArray.data_extract]
  apply Array.eq_empty_of_size_eq_zero
  rw [Array.size_extract]
  have : x.size = x.data.size := rfl
  omega
theorem ext_all (x : ByteArray) (m : Nat) (h : x.size ≤ m) : x.extract 0 m = x := by
  apply ByteArray.ext
  rw [ByteArray.data_extract]
  have : x.size = x.data.size := rfl
  rw [Array.extract_eq_self_of_le (by omega)]
section
variable (a b : ByteArray) (c : UInt8)
theorem j_size : (a ++ ⟨#[c]⟩ ++ b).size = a.size + 1 + b.size := by simp only [ByteArray.size_append]; rfl
theorem j_left (j : Nat) (hj : j < a.size) : (a ++ ⟨#[c]⟩ ++ b)[j]'(by rw [j_size]; omega) = a[j] := by
  rw [ByteArray.getElem_append_left (by rw [ByteArray.size_append]; omega), ByteArray.getElem_append_left hj]
theorem j_mid : (a ++ ⟨#[c]⟩ ++ b)[a.size]'(by rw [j_size]; omega) = c := by
  rw [ByteArray.getElem_append_left (by rw [ByteArray.size_append]; exact Nat.lt_succ_self _), ByteArray.getElem_append_right (Nat.le_refl _)]
  simp only [Nat.sub_self]; rfl
theorem j_right (j : Nat) (hj : j < b.size) : (a ++ ⟨#[c]⟩ ++ b)[a.size + 1 + j]'(by rw [j_size]; omega) = b[j] := by
  have h1 : (a ++ ⟨#[c]⟩).size = a.size + 1 := by rw [ByteArray.size_append]; rfl
  rw [ByteArray.getElem_append_right (by rw [h1]; omega)]
  simp only [h1, Nat.add_sub_cancel_left]
theorem j_ext0 : (a ++ ⟨#[c]⟩ ++ b).extract 0 a.size = a := by
  rw [ByteArray.append_assoc, ByteArray.extract_append]
  simp
theorem j_ext1 : (a ++ ⟨#[c]⟩ ++ b).extract (a.size + 1) (a ++ ⟨#[c]⟩ ++ b).size = b := by
  have h1 : (a ++ ⟨#[c]⟩).size = a.size + 1 := by rw [ByteArray.size_append]; rfl
  rw [j_size, ByteArray.extract_append, h1, ext_end _ _ _ (by omega), Nat.sub_self, ext_all _ _ (by omega), ByteArray.empty_append]
end

theorem door_alone (s : ByteArray) (w : World) (hs : s.size ≤ 4096) (h : wordP s) : Calls Tryz.prog 14 #[.string s] w (ValPost (doorV s ⟨#[]⟩ ⟨#[]⟩ false false) w) :=
  impl_of _ _ _ _ _ _ w fun w => pap_alone s w (by omega) (word_clean h)
theorem door_pipe (s r : ByteArray) (w : World) (hs : s.size + r.size ≤ 4096) (h : wordP s) : Calls Tryz.prog 14 #[.string (s ++ ⟨#[124]⟩ ++ r)] w (ValPost (doorV s ⟨#[]⟩ r true false) w) :=
  impl_of _ _ _ _ _ _ w fun w => by
    have hz := j_size s r 124
    have hc : clean (s ++ ⟨#[124]⟩ ++ r) s.size := fun j hj hl => by
      rw [j_left s r 124 j hl]; exact word_clean h j hl hl
    have hp := pap_pipe (s ++ ⟨#[124]⟩ ++ r) s.size w (by omega) hc (by omega) (by rw [j_mid]; rfl)
    rw [j_ext0, j_ext1] at hp
    exact hp
theorem door_dot (s r : ByteArray) (w : World) (hs : s.size + r.size ≤ 4096) (h : wordP s) (h2 : wordP r) : Calls Tryz.prog 14 #[.string (s ++ ⟨#[46]⟩ ++ r)] w (ValPost (doorV s r ⟨#[]⟩ false true) w) :=
  impl_of _ _ _ _ _ _ w fun w => by
    have hz := j_size s r 46
    have h0 := h2.1
    have hw := wc_clean (h2.2 0 h0 h0)
    have hc : clean (s ++ ⟨#[46]⟩ ++ r) s.size := fun j hj hl => by
      rw [j_left s r 46 j hl]; exact word_clean h j hl hl
    have e : (s ++ ⟨#[46]⟩ ++ r)[s.size + 1]'(by omega) = r[0] := j_right s r 46 0 h0
    have hp := pap_dot (s ++ ⟨#[46]⟩ ++ r) s.size w (by omega) hc (by omega) (by rw [j_mid]; rfl)
      (by rw [e, beq_eq_false_iff_ne]; exact hw.2.2.2.1) (by rw [e, beq_eq_false_iff_ne]; exact hw.2.2.2.2.1) (by rw [e, beq_eq_false_iff_ne]; exact hw.2.2.2.2.2)
    rw [j_ext0, j_ext1] at hp
    exact hp

theorem word_tt (s : ByteArray) (w : World) (hs : s.size ≤ 2147483647) (h : wordP s) : Calls Tryz.prog 9 #[.string s] w fun e w' => e = .returned (.bool true) ∧ w = w' :=
  (word_any s w hs).mono fun e w' ⟨b, he, hb, hw⟩ => ⟨by rw [he, hb.2 h], hw⟩
theorem word_ff (s : ByteArray) (w : World) (hs : s.size ≤ 2147483647) (h : ¬ wordP s) : Calls Tryz.prog 9 #[.string s] w fun e w' => e = .returned (.bool false) ∧ w = w' :=
  (word_any s w hs).mono fun e w' ⟨b, he, hb, hw⟩ => ⟨by rw [he]; cases b; rfl; exact absurd (hb.1 rfl) h, hw⟩

theorem law4_big (k r : ByteArray) (p : Bool) (w : World) (hk : k.size ≤ 140737488351232) (hr : r.size ≤ 140737488351232) (h : 2147483647 < k.size ∨ 2147483647 < r.size) :
    Calls Tryz.prog 4 #[.string k, .string r, .bool p] w (ValPost (.bool true) w) := by
  by_cases h1 : 2147483647 < k.size
  · clear h
    go_enter Tryz.func4, Tryz.ntmps4
    go_wp2_with fail
    go_ret
    exact ⟨rfl, Below.refl _ _⟩
  · have h2 : 2147483647 < r.size := by omega
    clear h
    go_enter Tryz.func4, Tryz.ntmps4
    go_wp2_with fail
    go_ret
    exact ⟨rfl, Below.refl _ _⟩

theorem law4_guard (k r : ByteArray) (p : Bool) (w : World) (hk : k.size ≤ 2147483647) (hr : r.size ≤ 2147483647) (h : ¬ wordP k ∨ (0 < r.size ∧ ¬ wordP r) ∨ 4096 < k.size + r.size) :
    Calls Tryz.prog 4 #[.string k, .string r, .bool p] w (ValPost (.bool true) w) := by
  by_cases h1 : wordP k
  · have W1 := fun w => Lib.hid (word_tt k w hk h1)
    by_cases h0 : 0 < r.size
    · have hne := ne_isEmpty r h0
      by_cases h2 : wordP r
      · have h3 : 4096 < k.size + r.size := by
          rcases h with h | h | h
          · exact absurd h1 h
          · exact absurd h2 h.2
          · exact h
        have W2 := fun w => Lib.hid (word_tt r w hr h2)
        clear h h1 h2
        go_enter Tryz.func4, Tryz.ntmps4
        go_wp2_with (first | (go_at_call_of 9 k; refine ((W1 _).out).mono ?_; rintro e w' ⟨rfl, rfl⟩) | (go_at_call_of 9 r; refine ((W2 _).out).mono ?_; rintro e w' ⟨rfl, rfl⟩))
        go_ret
        exact ⟨rfl, Below.refl _ _⟩
      · have W2 := fun w => Lib.hid (word_ff r w hr h2)
        clear h h1 h2
        go_enter Tryz.func4, Tryz.ntmps4
        go_wp2_with (first | (go_at_call_of 9 k; refine ((W1 _).out).mono ?_; rintro e w' ⟨rfl, rfl⟩) | (go_at_call_of 9 r; refine ((W2 _).out).mono ?_; rintro e w' ⟨rfl, rfl⟩))
        go_ret
        exact ⟨rfl, Below.refl _ _⟩
    · have hne := eq_isEmpty r (by omega)
      have h3 : 4096 < k.size := by
          rcases h with h | h | h
          · exact absurd h1 h
          · exact absurd h.1 h0
          · omega
      clear h h1
      go_enter Tryz.func4, Tryz.ntmps4
      go_wp2_with (first | (go_at_call_of 9 k; refine ((W1 _).out).mono ?_; rintro e w' ⟨rfl, rfl⟩))
      go_ret
      exact ⟨rfl, Below.refl _ _⟩
  · have W1 := fun w => Lib.hid (word_ff k w hk h1)
    clear h h1
    go_enter Tryz.func4, Tryz.ntmps4
    go_wp2_with (first | (go_at_call_of 9 k; refine ((W1 _).out).mono ?_; rintro e w' ⟨rfl, rfl⟩))
    go_ret
    exact ⟨rfl, Below.refl _ _⟩
end Go.Proofs.YtdolnkknlflmeaaGreatDoor
