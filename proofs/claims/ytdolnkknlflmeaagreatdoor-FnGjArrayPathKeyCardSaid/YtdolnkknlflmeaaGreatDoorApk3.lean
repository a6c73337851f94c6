/-
  Walk of parseArrayPath at a path without the hash sign ahead of its first dot or pipe.
-/
import Derived.Test.YtdolnkknlflmeaaGreatDoorApk2
namespace Go.Proofs.YtdolnkknlflmeaaGreatDoor
open Go.RowKit

def papV (part path pipe : ByteArray) (piped more : Bool) : Value := .agg #[.string part, .string path, .string pipe, .bool piped, .bool more, .bool false, .bool false, .string ⟨#[]⟩, .bool false, .bool false, .string ⟨#[]⟩, .string ⟨#[]⟩, .string ⟨#[]⟩]
def clean (s : ByteArray) (n : Nat) : Prop := ∀ (j : Nat) (h : j < s.size), j < n → (s[j].toNat : Int) ≠ 124 ∧ (s[j].toNat : Int) ≠ 46 ∧ (s[j].toNat : Int) ≠ 35
def ValPost (v : Value) (w : World) (e : Ending) (w' : World) : Prop := e = .returned v ∧ Below w.heap.size w w'

set_option maxRecDepth 100000 in
theorem pap_alone (s : ByteArray) (w : World) (hs : s.size ≤ 8193) (h : clean s s.size) :
    Calls Tryz.prog 72 #[.string s] w (ValPost (papV s ⟨#[]⟩ ⟨#[]⟩ false false) w) := by
  have H := Lib.hid h
  clear h
  go_enter Tryz.func72, Tryz.ntmps72
  go_wp2
  go_loop [3] (fun i => ∃ k : Nat, k ≤ s.size ∧ i = .int .i64 k) (fun i => s.size - (intOf i).toNat)
  case atStart => exact ⟨0, Nat.zero_le _, rfl⟩
  case round =>
    obtain ⟨k, hk, rfl⟩ := hrel
    by_cases hlt : k < s.size
    · obtain ⟨c1, c2, c3⟩ := H.out k hlt hlt
      have d1 : ((s[k].toNat : Int) == 124) = false := by rw [beq_eq_false_iff_ne]; exact c1
      have d2 : ((s[k].toNat : Int) == 46) = false := by rw [beq_eq_false_iff_ne]; exact c2
      have d3 : ((s[k].toNat : Int) == 35) = false := by rw [beq_eq_false_iff_ne]; exact c3
      clear c1 c2 c3
      go_wp2
      go_round
      case rel => exact ⟨k + 1, by omega, by go_num⟩
      case measure => simp [intOf]; omega
    · go_wp2
      refine bodyPost_ret (v := papV s ⟨#[]⟩ ⟨#[]⟩ false false) (by simp [results, Tryz.results72, go_sem, papV]) rfl ⟨rfl, ?_⟩
      exact (Below.refl _ _).alloc (Nat.le_refl _) _

set_option maxRecDepth 100000 in
theorem pap_pipe (s : ByteArray) (n : Nat) (w : World) (hs : s.size ≤ 8193) (h : clean s n) (hn : n < s.size) (hb : ((s[n].toNat : Int) == 124) = true) :
    Calls Tryz.prog 72 #[.string s] w (ValPost (papV (s.extract 0 n) ⟨#[]⟩ (s.extract (n + 1) s.size) true false) w) := by
  have H := Lib.hid h
  clear h
  go_enter Tryz.func72, Tryz.ntmps72
  go_wp2
  go_loop [3] (fun i => ∃ k : Nat, k ≤ n ∧ i = .int .i64 k) (fun i => s.size - (intOf i).toNat)
  case atStart => exact ⟨0, Nat.zero_le _, rfl⟩
  case round =>
    obtain ⟨k, hk, rfl⟩ := hrel
    by_cases hlt : k < n
    · have hks : k < s.size := by omega
      obtain ⟨c1, c2, c3⟩ := H.out k hks hlt
      have d1 : ((s[k].toNat : Int) == 124) = false := by rw [beq_eq_false_iff_ne]; exact c1
      have d2 : ((s[k].toNat : Int) == 46) = false := by rw [beq_eq_false_iff_ne]; exact c2
      have d3 : ((s[k].toNat : Int) == 35) = false := by rw [beq_eq_false_iff_ne]; exact c3
      clear c1 c2 c3 hb
      go_wp2
      go_round
      case rel => exact ⟨k + 1, by omega, by go_num⟩
      case measure => simp [intOf]; omega
    · obtain rfl : k = n := by omega
      go_wp2
      refine bodyPost_ret (v := papV (s.extract 0 k) ⟨#[]⟩ (s.extract (k + 1) s.size) true false) (by simp [results, Tryz.results72, go_sem, papV]) rfl ⟨rfl, ?_⟩
      exact (Below.refl _ _).alloc (Nat.le_refl _) _

set_option maxRecDepth 100000 in
theorem pap_dot (s : ByteArray) (n : Nat) (w : World) (hs : s.size ≤ 8193) (h : clean s n) (hn : n + 1 < s.size) (hb : (((s[n]'(by omega)).toNat : Int) == 46) = true)
    (g1 : ((s[n + 1].toNat : Int) == 64) = false) (g2 : ((s[n + 1].toNat : Int) == 91) = false) (g3 : ((s[n + 1].toNat : Int) == 123) = false) :
    Calls Tryz.prog 72 #[.string s] w (ValPost (papV (s.extract 0 n) (s.extract (n + 1) s.size) ⟨#[]⟩ false true) w) := by
  have H := Lib.hid h
  clear h
  have HD : ∀ w, Hid (Calls Tryz.prog 111 #[.string (s.extract (n + 1) s.size)] w fun e w' => e = .returned (.bool false) ∧ w = w') := fun w => Lib.hid (by
    have hz : (s.extract (n + 1) s.size).size = s.size - (n + 1) := by simp
    have he : (s.extract (n + 1) s.size)[0]'(by omega) = s[n + 1] := by rw [ByteArray.getElem_extract]
    exact isDot_word _ w (by omega) (by rw [he]; exact g1) (by rw [he]; exact g2) (by rw [he]; exact g3))
  clear g1 g2 g3
  go_enter Tryz.func72, Tryz.ntmps72
  go_wp2
  go_loop [3] (fun i => ∃ k : Nat, k ≤ n ∧ i = .int .i64 k) (fun i => s.size - (intOf i).toNat)
  case atStart => exact ⟨0, Nat.zero_le _, rfl⟩
  case round =>
    obtain ⟨k, hk, rfl⟩ := hrel
    by_cases hlt : k < n
    · have hks : k < s.size := by omega
      obtain ⟨c1, c2, c3⟩ := H.out k hks hlt
      have d1 : ((s[k].toNat : Int) == 124) = false := by rw [beq_eq_false_iff_ne]; exact c1
      have d2 : ((s[k].toNat : Int) == 46) = false := by rw [beq_eq_false_iff_ne]; exact c2
      have d3 : ((s[k].toNat : Int) == 35) = false := by rw [beq_eq_false_iff_ne]; exact c3
      clear c1 c2 c3 hb
      go_wp2
      go_round
      case rel => exact ⟨k + 1, by omega, by go_num⟩
      case measure => simp [intOf]; omega
    · obtain rfl : k = n := by omega
      have hks : k < s.size := by omega
      have d1 : ((s[k].toNat : Int) == 124) = false := by rw [beq_eq_false_iff_ne]; rw [beq_iff_eq] at hb; omega
      have hb' : ((s[k].toNat : Int) == 46) = true := hb
      clear hb
      go_wp2_with (go_at_call 111; refine ((HD _).out).mono ?_; rintro e w' ⟨rfl, rfl⟩)
      refine bodyPost_ret (v := papV (s.extract 0 k) (s.extract (k + 1) s.size) ⟨#[]⟩ false true) (by simp [results, Tryz.results72, go_sem, papV]) rfl ⟨rfl, ?_⟩
      exact (Below.refl _ _).alloc (Nat.le_refl _) _
end Go.Proofs.YtdolnkknlflmeaaGreatDoor
