/-
  gjson.parseString at a string's body.
-/
import Derived.Test.YtdolnkknlflmeaaGreatDoorZOs
import Derived.Test.YtdolnkknlflmeaaGreatDoorZLx11
namespace Go.Proofs.YtdolnkknlflmeaaGreatDoor.L
open Go.RowKit Go.Proofs.YtdolnkknlflmeaaGreatDoorW.PrintWords Go.Proofs.YtdolnkknlflmeaaGreatDoorW.PrintLast Go.Proofs.YtdolnkknlflmeaaGreatDoorW.PrintMore
set_option linter.unusedVariables false

theorem w64 {x : Int} (h : -4000000000000000000 ≤ x ∧ x ≤ 4000000000000000000) : wrap64 x = x := by unfold wrap64; omega
def Ends {α : Type} (g : Nat → Option α) (r : α) : Prop := ∃ k, g k = some r
theorem Ends.step {α : Type} {g f : Nat → Option α} {r : α} (h : ∀ k, g (k + 1) = f k) (k : Ends f r) : Ends g r := by
  obtain ⟨n, hn⟩ := k
  exact ⟨n + 1, by rw [h, hn]⟩
theorem Ends.of_eq {α : Type} {g f : Nat → Option α} {r : α} (h : ∀ k, g k = f k) (k : Ends f r) : Ends g r := by
  obtain ⟨n, hn⟩ := k
  exact ⟨n, by rw [h, hn]⟩
/-- What the count leads to. -/
def psEnd (k : Nat) (s : ByteArray) (q a : Nat) (n : Nat) : Option (Int × ByteArray × Bool × Bool) :=
  if n % 2 = 0 then gjson_parseString.l1 k s ((q + 1 : Nat) : Int) a else some (((q + 1 : Nat) : Int), s.extract (a - 1) (q + 1), true, true)
theorem l2_at (s : ByteArray) (a q j n k : Nat) (hs : s.size < 1000000000) (ha : 0 < a) (hq : q < s.size) (haq : a ≤ q) (hj : j + 1 < q) (hn : n < 1000000000) :
    gjson_parseString.l2 (k + 1) s q a n j = if 0 < j ∧ bt s j = 92 then gjson_parseString.l2 k s q a ((n + 1 : Nat) : Int) ((j : Int) - 1) else psEnd k s q a n := by
  have e1 : wrap64 ((a : Int) - 1) = ((a - 1 : Nat) : Int) := by rw [w64 (by omega)]; omega
  have e2 : wrap64 ((q : Int) + 1) = ((q + 1 : Nat) : Int) := by rw [w64 (by omega)]; omega
  have e3 : (Int.tmod (n : Int) 2 = 0) ↔ n % 2 = 0 := by rw [Int.tmod_eq_emod_of_nonneg (by omega)]; omega
  have e4 : wrap64 ((n : Int) + 1) = ((n + 1 : Nat) : Int) := by rw [w64 (by omega)]; omega
  have e5 : wrap64 ((j : Int) - 1) = (j : Int) - 1 := w64 (by omega)
  have stop : (if (Int.tmod (n : Int) 2) = 0 then (gjson_parseString.l1 k s ((q + 1 : Nat) : Int) a) else (if 0 ≤ ((a - 1 : Nat) : Int) then (if ((a - 1 : Nat) : Int) ≤ ((q + 1 : Nat) : Int) then (if ((q + 1 : Nat) : Int) ≤ (s.size : Int) then (some (((q + 1 : Nat) : Int), s.extract ((a - 1 : Nat) : Int).toNat ((q + 1 : Nat) : Int).toNat, true, true)) else (none)) else (none)) else (none))) = psEnd k s q a n := by
    unfold psEnd
    simp only [e3, Int.toNat_natCast]
    rw [if_pos (show (0 : Int) ≤ ((a - 1 : Nat) : Int) by omega), if_pos (show ((a - 1 : Nat) : Int) ≤ ((q + 1 : Nat) : Int) by omega), if_pos (show ((q + 1 : Nat) : Int) ≤ (s.size : Int) by omega)]
  rw [gjson_parseString.l2, e1, e2, e4, e5, stop]
  by_cases hj0 : 0 < j
  · rw [if_pos (show (j : Int) > 0 by omega), if_pos (show (0 : Int) ≤ (j : Int) by omega), if_pos (show (j : Int) < (s.size : Int) by omega)]
    by_cases hb : bt s j = 92
    · rw [if_pos hb, if_pos ⟨hj0, hb⟩]
    · rw [if_neg hb, if_neg (fun h => hb h.2)]
  · rw [if_neg (show ¬ (j : Int) > 0 by omega), if_neg (fun h => hj0 h.1)]
theorem cnt_succ_eq (s : ByteArray) (q : Nat) (h : bt s q = 92) : cnt s (q + 1) = cnt s q + 1 := by simp [cnt, h]
theorem cnt_succ_ne (s : ByteArray) (q : Nat) (h : bt s q ≠ 92) : cnt s (q + 1) = 0 := by simp [cnt, h]
theorem l2_ends (s : ByteArray) (a q : Nat) (r : Int × ByteArray × Bool × Bool) (hs : s.size < 1000000000) (ha : 0 < a) (h34 : bt s ((a - 1 : Nat) : Int) = 34) (hq : q < s.size) (haq : a ≤ q) : ∀ (j n : Nat), a ≤ j + 1 → j + 1 < q → n + j < 1000000000 →
    Ends (fun k => psEnd k s q a (n + cnt s (j + 1))) r → Ends (fun k => gjson_parseString.l2 k s q a n j) r
  | 0, n, h1, h2, hn, h => by
    have e : bt s ((0 : Nat) : Int) ≠ 92 := by
      have : a - 1 = 0 := by omega
      rw [this] at h34
      rw [h34]; decide
    rw [cnt_succ_ne s 0 e] at h
    refine Ends.step (f := fun k => psEnd k s q a (n + 0)) (fun k => ?_) h
    have := l2_at s a q 0 n k hs ha hq haq h2 (by omega)
    rw [this, if_neg (by simp)]
    rfl
  | j + 1, n, h1, h2, hn, h => by
    by_cases hb : bt s ((j + 1 : Nat) : Int) = 92
    · have hj : a ≤ j + 1 := by
        rcases Nat.lt_or_ge (j + 1) a with h3 | h3
        · have : a - 1 = j + 1 := by omega
          rw [this, hb] at h34
          cases h34
        · exact h3
      rw [cnt_succ_eq s (j + 1) hb] at h
      have ih := l2_ends s a q r hs ha h34 hq haq j (n + 1) hj (by omega) (by omega) (by
        have e : n + 1 + cnt s (j + 1) = n + (cnt s (j + 1) + 1) := by omega
        rw [e]; exact h)
      refine Ends.step (fun k => ?_) ih
      have := l2_at s a q (j + 1) n k hs ha hq haq h2 (by omega)
      rw [this, if_pos ⟨by omega, hb⟩]
      congr 1
      omega
    · rw [cnt_succ_ne s (j + 1) hb] at h
      refine Ends.step (f := fun k => psEnd k s q a (n + 0)) (fun k => ?_) h
      have := l2_at s a q (j + 1) n k hs ha hq haq h2 (by omega)
      rw [this, if_neg (fun h => hb h.2)]
      rfl
/-- The round of the scan behind a backslash. -/
theorem l1_at (s : ByteArray) (a q k : Nat) (hs : s.size < 1000000000) (ha : 0 < a) (hq : q < s.size) (haq : a < q) :
    gjson_parseString.l1 (k + 1) s q a = if bt s q = 34 then (if bt s ((q - 1 : Nat) : Int) = 92 then gjson_parseString.l2 k s q a ((0 : Nat) : Int) ((q : Int) - 2) else some (((q + 1 : Nat) : Int), s.extract (a - 1) (q + 1), true, true)) else gjson_parseString.l1 k s ((q + 1 : Nat) : Int) a := by
  have e1 : wrap64 ((a : Int) - 1) = ((a - 1 : Nat) : Int) := by rw [w64 (by omega)]; omega
  have e2 : wrap64 ((q : Int) + 1) = ((q + 1 : Nat) : Int) := by rw [w64 (by omega)]; omega
  have e3 : wrap64 ((q : Int) - 1) = ((q - 1 : Nat) : Int) := by rw [w64 (by omega)]; omega
  have e4 : wrap64 ((q : Int) - 2) = (q : Int) - 2 := w64 (by omega)
  rw [gjson_parseString.l1, e1, e2, e3, e4]
  rw [if_pos (show (q : Int) < (s.size : Int) by omega), if_pos (show (0 : Int) ≤ (q : Int) by omega)]
  rw [if_pos (show (0 : Int) ≤ ((q - 1 : Nat) : Int) by omega), if_pos (show ((q - 1 : Nat) : Int) < (s.size : Int) by omega)]
  rw [if_pos (show (0 : Int) ≤ ((a - 1 : Nat) : Int) by omega), if_pos (show ((a - 1 : Nat) : Int) ≤ ((q + 1 : Nat) : Int) by omega), if_pos (show ((q + 1 : Nat) : Int) ≤ (s.size : Int) by omega)]
  simp only [Int.toNat_natCast]
  by_cases h : bt s q = 34
  · rw [if_neg (show ¬ bt s q > 92 by omega), if_pos h, if_pos h]
    rfl
  · rw [if_neg h]
    split <;> first | rfl | (rw [if_neg h])
theorem l1_ends (s : ByteArray) (a e : Nat) (hs : s.size < 1000000000) (ha : 0 < a) (h34 : bt s ((a - 1 : Nat) : Int) = 34) (he : e < s.size) (hbe : bt s e = 34) (hce : cnt s e % 2 = 0) :
    ∀ (m q : Nat), q + m = e → a < q → (∀ p, q ≤ p → p < e → bt s p = 34 → cnt s p % 2 = 1) → Ends (fun k => gjson_parseString.l1 k s q a) (((e + 1 : Nat) : Int), s.extract (a - 1) (e + 1), true, true)
  | 0, q, hm, haq, ho => by
    obtain rfl : q = e := by omega
    by_cases hb : bt s ((q - 1 : Nat) : Int) = 92
    · have hq1 : q - 1 + 1 = q := by omega
      have hc : cnt s q = cnt s (q - 1) + 1 := by have := cnt_succ_eq s (q - 1) hb; rw [hq1] at this; exact this
      have hc1 : cnt s (q - 1) % 2 = 1 := by omega
      have h2 : a ≤ q - 1 := by omega
      have h3 : q - 2 + 1 = q - 1 := by
        have := cnt_le s a ha h34 (q - 1) h2
        omega
      have h4 : a ≤ q - 2 + 1 := by omega
      refine Ends.step (f := fun k => gjson_parseString.l2 k s q a ((0 : Nat) : Int) ((q - 2 : Nat) : Int)) (fun k => ?_) (l2_ends s a q _ hs ha h34 he (by omega) (q - 2) 0 h4 (by omega) (by omega) ?_)
      · rw [l1_at s a q k hs ha he haq, if_pos hbe, if_pos hb]
        congr 1
        omega
      · rw [h3, Nat.zero_add]
        refine ⟨0, ?_⟩
        show psEnd 0 s q a (cnt s (q - 1)) = _
        unfold psEnd
        rw [if_neg (by omega)]
    · refine ⟨1, ?_⟩
      show gjson_parseString.l1 (0 + 1) s q a = _
      rw [l1_at s a q 0 hs ha he haq, if_pos hbe, if_neg hb]
  | m + 1, q, hm, haq, ho => by
    have ih := l1_ends s a e hs ha h34 he hbe hce m (q + 1) (by omega) (by omega) (fun p h1 h2 h3 => ho p (by omega) h2 h3)
    have hq : q < s.size := by omega
    by_cases h : bt s q = 34
    · have hc := ho q (Nat.le_refl _) (by omega) h
      have hq1 : q - 1 + 1 = q := by omega
      have hb : bt s ((q - 1 : Nat) : Int) = 92 := by
        refine Decidable.byContradiction fun hb => ?_
        have := cnt_succ_ne s (q - 1) hb
        rw [hq1] at this
        omega
      have hcc : cnt s q = cnt s (q - 1) + 1 := by have := cnt_succ_eq s (q - 1) hb; rw [hq1] at this; exact this
      have hle := cnt_le s a ha h34 q (by omega)
      have h2 : a ≤ q - 1 := by omega
      by_cases h5 : q - 1 = a
      · -- the backslash stands right behind the first quotation mark
        have h6 : q - 2 = a - 1 := by omega
        refine Ends.step (f := fun k => gjson_parseString.l2 k s q a ((0 : Nat) : Int) ((q - 2 : Nat) : Int)) (fun k => ?_) (l2_ends s a q _ hs ha h34 hq (by omega) (q - 2) 0 (by omega) (by omega) (by omega) ?_)
        · rw [l1_at s a q k hs ha hq haq, if_pos h, if_pos hb]
          congr 1
          omega
        · have h3 : q - 2 + 1 = q - 1 := by omega
          rw [h3, Nat.zero_add]
          refine Ends.of_eq (f := fun k => gjson_parseString.l1 k s ((q + 1 : Nat) : Int) a) (fun k => ?_) ih
          unfold psEnd
          rw [if_pos (by omega)]
      · refine Ends.step (f := fun k => gjson_parseString.l2 k s q a ((0 : Nat) : Int) ((q - 2 : Nat) : Int)) (fun k => ?_) (l2_ends s a q _ hs ha h34 hq (by omega) (q - 2) 0 (by omega) (by omega) (by omega) ?_)
        · rw [l1_at s a q k hs ha hq haq, if_pos h, if_pos hb]
          congr 1
          omega
        · have h3 : q - 2 + 1 = q - 1 := by omega
          rw [h3, Nat.zero_add]
          refine Ends.of_eq (f := fun k => gjson_parseString.l1 k s ((q + 1 : Nat) : Int) a) (fun k => ?_) ih
          unfold psEnd
          rw [if_pos (by omega)]
    · refine Ends.step (f := fun k => gjson_parseString.l1 k s ((q + 1 : Nat) : Int) a) (fun k => ?_) ih
      rw [l1_at s a q k hs ha hq haq, if_neg h]
theorem l0_at (s : ByteArray) (a q k : Nat) (hs : s.size < 1000000000) (ha : 0 < a) (hq : q < s.size) (haq : a ≤ q) :
    gjson_parseString.l0 (k + 1) s q a = if bt s q = 34 then some (((q + 1 : Nat) : Int), s.extract (a - 1) (q + 1), false, true) else if bt s q = 92 then gjson_parseString.l1 k s ((q + 1 : Nat) : Int) a else gjson_parseString.l0 k s ((q + 1 : Nat) : Int) a := by
  have e1 : wrap64 ((a : Int) - 1) = ((a - 1 : Nat) : Int) := by rw [w64 (by omega)]; omega
  have e2 : wrap64 ((q : Int) + 1) = ((q + 1 : Nat) : Int) := by rw [w64 (by omega)]; omega
  rw [gjson_parseString.l0, e1, e2]
  rw [if_pos (show (q : Int) < (s.size : Int) by omega), if_pos (show (0 : Int) ≤ (q : Int) by omega)]
  rw [if_pos (show (0 : Int) ≤ ((a - 1 : Nat) : Int) by omega), if_pos (show ((a - 1 : Nat) : Int) ≤ ((q + 1 : Nat) : Int) by omega), if_pos (show ((q + 1 : Nat) : Int) ≤ (s.size : Int) by omega)]
  simp only [Int.toNat_natCast]
  by_cases h : bt s q = 34
  · rw [if_neg (show ¬ bt s q > 92 by omega)]
  · by_cases h2 : bt s q = 92
    · rw [if_neg (show ¬ bt s q > 92 by omega), if_neg h, if_pos h2]
    · by_cases h3 : bt s q > 92
      · rw [if_pos h3, if_neg h, if_neg h2]
      · rw [if_neg h3, if_neg h, if_neg h2]
/-- Does a backslash stand in [a, e)? -/
def hasBs (s : ByteArray) (a e : Nat) : Bool := (List.range (e - a)).any fun j => decide (bt s ((a + j : Nat) : Int) = 92)
theorem hasBs_iff (s : ByteArray) (a e : Nat) : hasBs s a e = true ↔ ∃ q : Nat, a ≤ q ∧ q < e ∧ bt s q = 92 := by
  unfold hasBs
  simp only [List.any_eq_true, List.mem_range, decide_eq_true_eq]
  constructor
  · rintro ⟨j, h1, h2⟩; exact ⟨a + j, by omega, by omega, h2⟩
  · rintro ⟨q, h1, h2, h3⟩; exact ⟨q - a, by omega, by rw [show a + (q - a) = q by omega]; exact h3⟩
theorem hasBs_false (s : ByteArray) (a e : Nat) : hasBs s a e = false ↔ ∀ q : Nat, a ≤ q → q < e → bt s q ≠ 92 := by
  rw [← Bool.not_eq_true, hasBs_iff]
  constructor
  · intro h q h1 h2 h3; exact h ⟨q, h1, h2, h3⟩
  · rintro h ⟨q, h1, h2, h3⟩; exact h q h1 h2 h3
theorem l0_ends (s : ByteArray) (a e : Nat) (hs : s.size < 1000000000) (ha : 0 < a) (h34 : bt s ((a - 1 : Nat) : Int) = 34) (hce : cnt s e % 2 = 0) (hq34 : ∀ p, a ≤ p → p < e → bt s p = 34 → cnt s p % 2 = 1) {q : Nat} (hS : SB s q e) :
    a ≤ q → (∀ p : Nat, a ≤ p → p < q → bt s p ≠ 92) → Ends (fun k => gjson_parseString.l0 k s q a) (((e + 1 : Nat) : Int), s.extract (a - 1) (e + 1), hasBs s a e, true) := by
  induction hS with
  | @done e h1 h2 =>
    intro haq hn
    have hb : hasBs s a e = false := (hasBs_false s a e).2 hn
    refine ⟨1, ?_⟩
    show gjson_parseString.l0 (0 + 1) s e a = _
    rw [l0_at s a e 0 hs ha h1 haq, if_pos h2, hb]
  | @plain q e h1 h2 h3 ih =>
    intro haq hn
    have hle := h3.le
    refine Ends.step (f := fun k => gjson_parseString.l0 k s ((q + 1 : Nat) : Int) a) (fun k => ?_) (ih hce hq34 (by omega) (fun p h4 h5 => ?_))
    · rw [l0_at s a q k hs ha (by omega) haq, if_neg h1, if_neg h2]
    · rcases Nat.lt_or_ge p q with h6 | h6
      · exact hn p h4 h6
      · obtain rfl : p = q := by omega
        exact h2
  | @esc q e h1 h2 ih =>
    intro haq hn
    have hle := h2.le
    have hb : hasBs s a e = true := (hasBs_iff s a e).2 ⟨q, haq, by omega, h1⟩
    rw [hb]
    refine Ends.step (f := fun k => gjson_parseString.l1 k s ((q + 1 : Nat) : Int) a) (fun k => ?_) (l1_ends s a e hs ha h34 hle.2.1 hle.2.2 hce (e - (q + 1)) (q + 1) (by omega) (by omega) (fun p h4 h5 h6 => hq34 p (by omega) h5 h6))
    rw [l0_at s a q k hs ha (by omega) haq, if_neg (by omega), if_pos h1]
/-- What parseString gives of a string. -/
theorem parseString_calls (s : ByteArray) (a e : Nat) (hs : s.size < 1000000000) (ha : 0 < a) (h34 : bt s ((a - 1 : Nat) : Int) = 34) (hS : SB s a e) (w : World) :
    Calls Tryz.prog 102 #[.string s, .int .i64 (a : Int)] w fun en w' => en = .returned (.tuple #[.int .i64 ((e + 1 : Nat) : Int), .string (s.extract (a - 1) (e + 1)), .bool (hasBs s a e), .bool true]) ∧ Drawn0 w w' := by
  obtain ⟨h1, h2⟩ := hS.quotes (by rw [cnt_start s a ha h34])
  obtain ⟨k, hk⟩ := l0_ends s a e hs ha h34 h1 h2 hS (Nat.le_refl _) (fun p h3 h4 => by omega)
  exact gjson_parseString.calls k s a _ _ _ _ w hk
end Go.Proofs.YtdolnkknlflmeaaGreatDoor.L
