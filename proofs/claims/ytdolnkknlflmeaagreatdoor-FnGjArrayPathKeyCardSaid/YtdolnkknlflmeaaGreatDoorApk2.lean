/-
  Walk of gjWord: it answers true just if the text is not empty and made of letters, digits and the underscore.
-/
import Derived.Test.YtdolnkknlflmeaaGreatDoorApk1
namespace Go.Proofs.YtdolnkknlflmeaaGreatDoor
open Go.RowKit

/-- gjWord's class of bytes. -/
def wc (c : Int) : Prop := (97 ≤ c ∧ c ≤ 122) ∨ (65 ≤ c ∧ c ≤ 90) ∨ (48 ≤ c ∧ c ≤ 57) ∨ c = 95
theorem not_wc {c : Int} (h : ¬ wc c) : c < 48 ∨ (57 < c ∧ c < 65) ∨ (90 < c ∧ c < 95) ∨ (95 < c ∧ c < 97) ∨ 122 < c := by
  unfold wc at h; omega
def allW (s : ByteArray) (k : Nat) : Prop := ∀ (j : Nat) (h : j < s.size), j < k → wc (s[j].toNat : Int)
def wordP (s : ByteArray) : Prop := 0 < s.size ∧ allW s s.size
theorem ne_isEmpty (s : ByteArray) (h : 0 < s.size) : s.toList.isEmpty = false := by
  rw [ByteArray.toList_eq, List.isEmpty_eq_false_iff]
  intro e
  have : s.data.toList.length = 0 := by rw [e]; rfl
  rw [Array.length_toList] at this
  have h2 : s.size = s.data.size := rfl
  omega
theorem eq_isEmpty (s : ByteArray) (h : s.size = 0) : s.toList.isEmpty = true := by
  rw [ByteArray.toList_eq, List.isEmpty_iff]
  apply List.eq_nil_of_length_eq_zero
  rw [Array.length_toList]; exact h

theorem not_tt {P : Prop} (h : ¬ P) : false = true ↔ P := ⟨fun e => (by cases e), fun p => absurd p h⟩
theorem tt_of {P : Prop} (h : P) : true = true ↔ P := ⟨fun _ => h, fun _ => rfl⟩
def BoolPost (P : Bool → Prop) (w : World) (e : Ending) (w' : World) : Prop := ∃ b : Bool, e = .returned (.bool b) ∧ P b ∧ w = w'

theorem word_any (s : ByteArray) (w : World) (hs : s.size ≤ 2147483647) :
    Calls Tryz.prog 9 #[.string s] w (BoolPost (fun b => b = true ↔ wordP s) w) := by
  go_enter Tryz.func9, Tryz.ntmps9
  go_wp2
  go_loop [3] (fun i => ∃ k : Nat, k ≤ s.size ∧ i = .int .i64 k ∧ Hid (allW s k)) (fun i => s.size - (intOf i).toNat)
  case atStart => exact ⟨0, Nat.zero_le _, rfl, fun j _ h => absurd h (by omega)⟩
  case round =>
    obtain ⟨k, hk, rfl, HW⟩ := hrel
    by_cases hlt : k < s.size
    · by_cases hc : wc (s[k].toNat : Int)
      · have HW' : Hid (allW s (k + 1)) := by
          have H := HW.out
          intro j hj hlt
          by_cases e : j = k
          · subst e; exact hc
          · exact H j hj (by omega)
        clear HW
        rcases hc with ⟨h1, h2⟩ | ⟨h1, h2⟩ | ⟨h1, h2⟩ | h1
        · go_wp2
          go_round
          case rel => exact ⟨k + 1, by omega, by go_num, HW'⟩
          case measure => simp [intOf]; omega
        · go_wp2
          go_round
          case rel => exact ⟨k + 1, by omega, by go_num, HW'⟩
          case measure => simp [intOf]; omega
        · go_wp2
          go_round
          case rel => exact ⟨k + 1, by omega, by go_num, HW'⟩
          case measure => simp [intOf]; omega
        · go_wp2
          go_round
          case rel => exact ⟨k + 1, by omega, by go_num, HW'⟩
          case measure => simp [intOf]; omega
      · have HN : Hid (¬ wordP s) := Lib.hid fun hw => hc (hw.2 k hlt hlt)
        clear HW
        have hcc := not_wc hc
        clear hc
        have h95 : ((s[k].toNat : Int) == 95) = false := by rw [beq_eq_false_iff_ne]; omega
        have d57 : 57 < (s[k].toNat : Int) → decide ((s[k].toNat : Int) ≤ 57) = false := fun h => by simp; omega
        have d90 : 90 < (s[k].toNat : Int) → decide ((s[k].toNat : Int) ≤ 90) = false := fun h => by simp; omega
        have d122 : 122 < (s[k].toNat : Int) → decide ((s[k].toNat : Int) ≤ 122) = false := fun h => by simp; omega
        rcases hcc with h1 | ⟨h1, h2⟩ | ⟨h1, h2⟩ | ⟨h1, h2⟩ | h1
        · clear d57 d90 d122
          go_wp2
          go_ret
          exact ⟨false, rfl, not_tt HN.out, rfl⟩
        · have e57 := d57 h1
          clear d57 d90 d122
          go_wp2
          go_ret
          exact ⟨false, rfl, not_tt HN.out, rfl⟩
        · have e57 := d57 (by omega)
          have e90 := d90 h1
          clear d57 d90 d122
          go_wp2
          go_ret
          exact ⟨false, rfl, not_tt HN.out, rfl⟩
        · have e57 := d57 (by omega)
          have e90 := d90 (by omega)
          clear d57 d90 d122
          go_wp2
          go_ret
          exact ⟨false, rfl, not_tt HN.out, rfl⟩
        · have e57 := d57 (by omega)
          have e90 := d90 (by omega)
          have e122 := d122 (by omega)
          clear d57 d90 d122
          go_wp2
          go_ret
          exact ⟨false, rfl, not_tt HN.out, rfl⟩
    · have e : k = s.size := by omega
      by_cases h0 : 0 < s.size
      · have hne := ne_isEmpty s h0
        have HN : Hid (wordP s) := Lib.hid ⟨h0, e ▸ HW.out⟩
        clear HW e
        go_wp2
        go_ret
        exact ⟨true, rfl, tt_of HN.out, rfl⟩
      · have hne := eq_isEmpty s (by omega)
        have HN : Hid (¬ wordP s) := Lib.hid fun hw => absurd hw.1 h0
        clear HW e
        go_wp2
        go_ret
        exact ⟨false, rfl, not_tt HN.out, rfl⟩
end Go.Proofs.YtdolnkknlflmeaaGreatDoor
