/-
  How gjson's scans go over the parts of a JSON text.
-/
import Derived.Test.YtdolnkknlflmeaaGreatDoorZJd
import Derived.Test.YtdolnkknlflmeaaGreatDoorZLx12
namespace Go.Proofs.YtdolnkknlflmeaaGreatDoor.L
open Go.RowKit Go.Proofs.YtdolnkknlflmeaaGreatDoorW.PrintWords Go.Proofs.YtdolnkknlflmeaaGreatDoorW.PrintLast Go.Proofs.YtdolnkknlflmeaaGreatDoorW.PrintMore
set_option linter.unusedVariables false
set_option linter.unusedSimpArgs false

/-- What stands behind a value: a blank, a comma, a bracket or a brace. -/
def EndC (c : Int) : Prop := Blc c ∨ c = 44 ∨ c = 93 ∨ c = 125
theorem Bl.head {s : ByteArray} {p j : Nat} (h : Bl s p j) (c : Int) (hj : bt s j = c) : Blc (bt s p) ∨ bt s p = c := by
  rcases Nat.lt_or_ge p j with h1 | h1
  · exact .inl (h.2.2 p (Nat.le_refl _) h1)
  · have := h.1
    obtain rfl : p = j := by omega
    exact .inr hj
theorem MR.endc {s : ByteArray} {p e : Nat} {ns : List S84} {ks : List S48} (h : MR s false p e ns ks) : p < s.size ∧ EndC (bt s p) := by
  cases h with
  | done h1 h2 h3 => exact ⟨by have := h1.1; omega, by have := h1.head 125 h3; unfold EndC; rcases this with h | h <;> simp [h]⟩
  | more h1 h2 h3 =>
    obtain ⟨c, b1, b2, b3, b4⟩ := h1
    exact ⟨by have := b1.1; omega, by have := b1.head 44 b3; unfold EndC; rcases this with h | h <;> simp [h]⟩
theorem ER.endc {s : ByteArray} {p e : Nat} {ks : List S48} (h : ER s false p e ks) : p < s.size ∧ EndC (bt s p) := by
  cases h with
  | done h1 h2 h3 => exact ⟨by have := h1.1; omega, by have := h1.head 93 h3; unfold EndC; rcases this with h | h <;> simp [h]⟩
  | more h1 h2 =>
    obtain ⟨c, b1, b2, b3, b4⟩ := h1
    exact ⟨by have := b1.1; omega, by have := b1.head 44 b3; unfold EndC; rcases this with h | h <;> simp [h]⟩
theorem EndC.stop {c : Int} (h : EndC c) : c ≤ 32 ∨ c = 44 ∨ c = 93 ∨ c = 125 := by unfold EndC Blc at h; omega
theorem EndC.nolet {c : Int} (h : EndC c) : c < 97 ∨ 122 < c := by unfold EndC Blc at h; omega

/-- How a squash counts a character. -/
def vch (c : Int) : Int := if c = 34 then 2 else if c = 123 ∨ c = 40 ∨ c = 91 then 3 else if c = 125 ∨ c = 41 ∨ c = 93 then 1 else 0
/-- From place i, at depth d, a squash ends at j. -/
inductive Sq (s : ByteArray) : Nat → Nat → Nat → Prop
  | skip {i d j : Nat} : i < s.size → vch (bt s i) = 0 → Sq s (i + 1) d j → Sq s i d j
  | str {i e d j : Nat} : i < s.size → bt s i = 34 → SB s (i + 1) e → Sq s (e + 1) d j → Sq s i d j
  | up {i d j : Nat} : i < s.size → vch (bt s i) = 3 → Sq s (i + 1) (d + 1) j → Sq s i d j
  | down {i d j : Nat} : i < s.size → vch (bt s i) = 1 → Sq s (i + 1) (d + 1) j → Sq s i (d + 2) j
  | last {i : Nat} : i < s.size → vch (bt s i) = 1 → Sq s i 1 (i + 1)
/-- What is left behind a value within a squash: nothing, or more of it. -/
def SqR (s : ByteArray) (e d j : Nat) : Prop := (d = 0 ∧ j = e) ∨ (∃ n, d = n + 1 ∧ Sq s e (n + 1) j)
theorem Sq.close {s : ByteArray} {i d j : Nat} (h1 : i < s.size) (h2 : vch (bt s i) = 1) (h : SqR s (i + 1) d j) : Sq s i (d + 1) j := by
  rcases h with ⟨rfl, rfl⟩ | ⟨n, rfl, h⟩
  · exact .last h1 h2
  · exact .down h1 h2 h
theorem Sq.skips {s : ByteArray} {d k : Nat} {j : Nat} : ∀ (n i : Nat), i + n = j → j ≤ s.size → (∀ q : Nat, i ≤ q → q < j → vch (bt s q) = 0) → Sq s j d k → Sq s i d k
  | 0, i, h1, h2, h3, h => by obtain rfl : i = j := by omega
                              exact h
  | n + 1, i, h1, h2, h3, h => .skip (by omega) (h3 i (Nat.le_refl _) (by omega)) (Sq.skips n (i + 1) (by omega) h2 (fun q h4 h5 => h3 q (by omega) h5) h)
theorem vch_zero {c : Int} (h : c ≠ 34 ∧ c ≠ 123 ∧ c ≠ 40 ∧ c ≠ 91 ∧ c ≠ 125 ∧ c ≠ 41 ∧ c ≠ 93) : vch c = 0 := by
  unfold vch
  rw [if_neg (by omega), if_neg (by omega), if_neg (by omega)]
theorem Bl.sq {s : ByteArray} {d k i j : Nat} (h : Bl s i j) (g : Sq s j d k) : Sq s i d k :=
  Sq.skips (j - i) i (by have := h.1; omega) h.2.1 (fun q h1 h2 => vch_zero (by have := h.2.2 q h1 h2; unfold Blc at this; omega)) g
theorem Sep.sq {s : ByteArray} {f : Bool} {d k i j : Nat} (h : Sep s f i j) (g : Sq s j d k) : Sq s i d k := by
  cases f with
  | true => exact Bl.sq h g
  | false =>
    obtain ⟨c, h1, h2, h3, h4⟩ := h
    exact h1.sq (.skip h2 (vch_zero (by omega)) (h4.sq g))
theorem Digs.vch0 {s : ByteArray} {i j : Nat} (h : Digs s i j) : ∀ q : Nat, i ≤ q → q < j → vch (bt s q) = 0 := fun q h1 h2 => vch_zero (by have := h.2.2 q h1 h2; omega)
/-- The characters of a number. -/
def NumC (c : Int) : Prop := (48 ≤ c ∧ c ≤ 57) ∨ c = 43 ∨ c = 45 ∨ c = 46 ∨ c = 69 ∨ c = 101
theorem NumW.chars {s : ByteArray} {b e : Nat} (h : NumW s b e) : ∀ q : Nat, b ≤ q → q < e → NumC (bt s q) := by
  obtain ⟨i, j, m, h1, h2, h3, h4⟩ := h
  intro q q1 q2
  have dig : ∀ {x y : Nat}, Digs s x y → x ≤ q → q < y → NumC (bt s q) := fun h a b => .inl (h.2.2 q a b)
  have e1 : b ≤ i := by omega
  have e2 : i ≤ j := by unfold NumI Digs at h2; omega
  have e3 : j ≤ m := by unfold NumF Digs at h3; omega
  have e4 : m ≤ e := by unfold NumE Digs at h4; omega
  rcases Nat.lt_or_ge q i with c | c
  · rcases h1 with rfl | ⟨_, g, rfl⟩
    · omega
    · obtain rfl : q = b := by omega
      unfold NumC; omega
  rcases Nat.lt_or_ge q j with c2 | c2
  · rcases h2 with ⟨_, g, rfl⟩ | ⟨g, _⟩
    · obtain rfl : q = i := by omega
      unfold NumC; omega
    · exact dig g c c2
  rcases Nat.lt_or_ge q m with c3 | c3
  · rcases h3 with rfl | ⟨_, g, g2⟩
    · omega
    · rcases Nat.lt_or_ge q (j + 1) with c4 | c4
      · obtain rfl : q = j := by omega
        unfold NumC; omega
      · exact dig g2 c4 c3
  · rcases h4 with rfl | ⟨_, g, n, g2, g3⟩
    · omega
    · rcases Nat.lt_or_ge q n with c4 | c4
      · rcases g2 with rfl | ⟨_, g4, rfl⟩
        · obtain rfl : q = m := by omega
          unfold NumC; omega
        · rcases Nat.lt_or_ge q (m + 1) with c5 | c5
          · obtain rfl : q = m := by omega
            unfold NumC; omega
          · obtain rfl : q = m + 1 := by omega
            unfold NumC; omega
      · exact dig g3 c4 q2
theorem NumW.first {s : ByteArray} {b e : Nat} (h : NumW s b e) : bt s b = 45 ∨ (48 ≤ bt s b ∧ bt s b ≤ 57) := by
  obtain ⟨i, j, m, h1, h2, h3, h4⟩ := h
  rcases h1 with rfl | ⟨_, g, rfl⟩
  · unfold NumI Digs at h2
    rcases h2 with ⟨_, g, _⟩ | ⟨⟨g1, g2, g3⟩, _⟩
    · omega
    · have := g3 i (Nat.le_refl _) g1; omega
  · exact .inl g
theorem NumC.vch0 {c : Int} (h : NumC c) : vch c = 0 := vch_zero (by unfold NumC at h; omega)
theorem At.vch0 {s : ByteArray} {b : Nat} {L : List Int} (h : At s b L) (hL : ∀ c, c ∈ L → 97 ≤ c ∧ c ≤ 122) : ∀ q : Nat, b ≤ q → q < b + L.length → vch (bt s q) = 0 := by
  intro q h1 h2
  have h3 := h (q - b) (by omega)
  rw [show b + (q - b) = q by omega] at h3
  rw [h3.2]
  have := hL _ (List.getElem_mem (show q - b < L.length by omega))
  exact vch_zero (by omega)
theorem At.low {s : ByteArray} {b : Nat} {L : List Int} (h : At s b L) (hL : ∀ c, c ∈ L → 97 ≤ c ∧ c ≤ 122) : ∀ q : Nat, b ≤ q → q < b + L.length → 97 ≤ bt s q ∧ bt s q ≤ 122 := by
  intro q h1 h2
  have h3 := h (q - b) (by omega)
  rw [show b + (q - b) = q by omega] at h3
  rw [h3.2]
  exact hL _ (List.getElem_mem (show q - b < L.length by omega))
theorem low_null : ∀ c, c ∈ ([110, 117, 108, 108] : List Int) → 97 ≤ c ∧ c ≤ 122 := by decide
theorem low_false : ∀ c, c ∈ ([102, 97, 108, 115, 101] : List Int) → 97 ≤ c ∧ c ≤ 122 := by decide
theorem low_true : ∀ c, c ∈ ([116, 114, 117, 101] : List Int) → 97 ≤ c ∧ c ≤ 122 := by decide

mutual
theorem JV.sq {s : ByteArray} {b e : Nat} {P : S48} : JV s b e P → ∀ (n j : Nat), Sq s e (n + 1) j → Sq s b (n + 1) j
  | .null h, n, j, g => Sq.skips 4 _ rfl h.le (h.vch0 low_null) g
  | .false h, n, j, g => Sq.skips 5 _ rfl h.le (h.vch0 low_false) g
  | .true h, n, j, g => Sq.skips 4 _ rfl h.le (h.vch0 low_true) g
  | .num h, n, j, g => Sq.skips (e - b) b (by have := h.le; omega) h.le.2 (fun q h1 h2 => (h.chars q h1 h2).vch0) g
  | .str h1 h2 h3, n, j, g => .str h1 h2 h3.SB g
  | .arr h1 h2 h3, n, j, g => .up h1 (by rw [h2]; rfl) (ER.sq h3 (n + 1) j (.inr ⟨n, rfl, g⟩))
  | .obj h1 h2 h3, n, j, g => .up h1 (by rw [h2]; rfl) (MR.sq h3 (n + 1) j (.inr ⟨n, rfl, g⟩))
theorem MR.sq {s : ByteArray} {f : Bool} {p e : Nat} {ns : List S84} {ks : List S48} : MR s f p e ns ks → ∀ (d j : Nat), SqR s e d j → Sq s p (d + 1) j
  | .done h1 h2 h3, d, j, g => h1.sq (Sq.close h2 (by rw [h3]; rfl) g)
  | .more h1 h2 h3 h4 h5 h6 h7 h8 h9 h10, d, j, g =>
    h1.sq (.str h2 h3 h4.SB (h5.sq (.skip h6 (vch_zero (by omega)) (h8.sq (JV.sq h9 d j (MR.sq h10 d j g))))))
theorem ER.sq {s : ByteArray} {f : Bool} {p e : Nat} {ks : List S48} : ER s f p e ks → ∀ (d j : Nat), SqR s e d j → Sq s p (d + 1) j
  | .done h1 h2 h3, d, j, g => h1.sq (Sq.close h2 (by rw [h3]; rfl) g)
  | .more h1 h2 h3, d, j, g => h1.sq (JV.sq h2 d j (ER.sq h3 d j g))
end
theorem MR.sq1 {s : ByteArray} {f : Bool} {p e : Nat} {ns : List S84} {ks : List S48} (h : MR s f p e ns ks) : Sq s p 1 e := h.sq 0 e (.inl ⟨rfl, rfl⟩)
theorem ER.sq1 {s : ByteArray} {f : Bool} {p e : Nat} {ks : List S48} (h : ER s f p e ks) : Sq s p 1 e := h.sq 0 e (.inl ⟨rfl, rfl⟩)
theorem Sq.le {s : ByteArray} {i d j : Nat} (h : Sq s i d j) : i < j ∧ j ≤ s.size := by
  induction h with
  | skip h1 h2 h3 ih => omega
  | str h1 h2 h3 h4 ih => have := h3.le; omega
  | up h1 h2 h3 ih => omega
  | down h1 h2 h3 ih => omega
  | last h1 h2 => omega
theorem JV.le {s : ByteArray} {b e : Nat} {P : S48} (h : JV s b e P) : b < e ∧ e ≤ s.size := by
  cases h with
  | null h => have := h.le; simp at this; omega
  | false h => have := h.le; simp at this; omega
  | true h => have := h.le; simp at this; omega
  | num h => exact h.le
  | str h1 h2 h3 => have := h3.le; omega
  | arr h1 h2 h3 => have := h3.sq1.le; omega
  | obj h1 h2 h3 => have := h3.sq1.le; omega

/-! ### numbers and words -/
theorem ln_lit_l0 (s : ByteArray) (hs : s.size < 1000000000) (b e : Nat) (he : e ≤ s.size) (hend : e < s.size → bt s e < 97 ∨ 122 < bt s e) : ∀ (n i : Nat), i + n = e → b ≤ i → (∀ q : Nat, i ≤ q → q < e → 97 ≤ bt s q ∧ bt s q ≤ 122) →
    Ends (fun k => gjson_parseLiteral.l0 k s i b) ((e : Int), s.extract b e)
  | 0, i, h1, h2, h3 => by
    obtain rfl : i = e := by omega
    refine ⟨1, ?_⟩
    show gjson_parseLiteral.l0 (0 + 1) s i b = _
    rw [gjson_parseLiteral.l0]
    by_cases hlt : i < s.size
    · have := hend hlt
      rw [if_pos (show (i : Int) < (s.size : Int) by omega), if_pos (show (0 : Int) ≤ (i : Int) by omega), if_pos (show (0 : Int) ≤ (b : Int) by omega), if_pos (show (b : Int) ≤ (i : Int) by omega), if_pos (show (i : Int) ≤ (s.size : Int) by omega)]
      simp only [Int.toNat_natCast]
      by_cases h97 : bt s i < 97
      · rw [if_pos h97]
      · rw [if_neg h97, if_pos (by omega)]
    · obtain rfl : i = s.size := by omega
      rw [if_neg (by omega), if_pos (by omega), if_pos (by omega)]
      simp only [Int.toNat_natCast]
  | n + 1, i, h1, h2, h3 => by
    refine Ends.step (f := fun k => gjson_parseLiteral.l0 k s ((i + 1 : Nat) : Int) b) (fun k => ?_) (ln_lit_l0 s hs b e he hend n (i + 1) (by omega) (by omega) (fun q h4 h5 => h3 q (by omega) h5))
    have := h3 i (Nat.le_refl _) (by omega)
    rw [gjson_parseLiteral.l0, if_pos (by omega), if_pos (by omega), if_neg (by omega), if_neg (by omega), w64 (by omega)]
    congr 1
theorem parseLiteral_calls (s : ByteArray) (hs : s.size < 1000000000) (b e : Nat) (hb : b < e) (he : e ≤ s.size) (hend : e < s.size → bt s e < 97 ∨ 122 < bt s e) (hl : ∀ q : Nat, b ≤ q → q < e → 97 ≤ bt s q ∧ bt s q ≤ 122) (w : World) :
    Calls Tryz.prog 104 #[.string s, .int .i64 (b : Int)] w fun en w' => en = .returned (.tuple #[.int .i64 (e : Int), .string (s.extract b e)]) ∧ Drawn0 w w' := by
  obtain ⟨k, hk⟩ := ln_lit_l0 s hs b e he hend (e - (b + 1)) (b + 1) (by omega) (by omega) (fun q h1 h2 => hl q (by omega) h2)
  refine gjson_parseLiteral.calls k s b _ _ w ?_
  unfold gjson_parseLiteral.f
  rw [w64 (by omega)]
  exact hk
theorem ln_num_l0 (s : ByteArray) (hs : s.size < 1000000000) (b e : Nat) (he : e ≤ s.size) (hend : e < s.size → bt s e ≤ 32 ∨ bt s e = 44 ∨ bt s e = 93 ∨ bt s e = 125) : ∀ (n i : Nat), i + n = e → b ≤ i → (∀ q : Nat, i ≤ q → q < e → NumC (bt s q)) →
    Ends (fun k => gjson_parseNumber.l0 k s i b) ((e : Int), s.extract b e)
  | 0, i, h1, h2, h3 => by
    obtain rfl : i = e := by omega
    refine ⟨1, ?_⟩
    show gjson_parseNumber.l0 (0 + 1) s i b = _
    rw [gjson_parseNumber.l0]
    by_cases hlt : i < s.size
    · have := hend hlt
      rw [if_pos (show (i : Int) < (s.size : Int) by omega), if_pos (show (0 : Int) ≤ (i : Int) by omega), if_pos (show (0 : Int) ≤ (b : Int) by omega), if_pos (show (b : Int) ≤ (i : Int) by omega), if_pos (show (i : Int) ≤ (s.size : Int) by omega)]
      simp only [Int.toNat_natCast]
      by_cases c1 : bt s i ≤ 32
      · rw [if_pos c1]
      rw [if_neg c1]
      by_cases c2 : bt s i = 44
      · rw [if_pos c2]
      rw [if_neg c2]
      by_cases c3 : bt s i = 93
      · rw [if_pos c3]
      rw [if_neg c3, if_pos (by omega)]
    · obtain rfl : i = s.size := by omega
      rw [if_neg (by omega), if_pos (by omega), if_pos (by omega)]
      simp only [Int.toNat_natCast]
  | n + 1, i, h1, h2, h3 => by
    refine Ends.step (f := fun k => gjson_parseNumber.l0 k s ((i + 1 : Nat) : Int) b) (fun k => ?_) (ln_num_l0 s hs b e he hend n (i + 1) (by omega) (by omega) (fun q h4 h5 => h3 q (by omega) h5))
    have := h3 i (Nat.le_refl _) (by omega)
    unfold NumC at this
    rw [gjson_parseNumber.l0, if_pos (by omega), if_pos (by omega), if_neg (by omega), if_neg (by omega), if_neg (by omega), if_neg (by omega), w64 (by omega)]
    congr 1
theorem parseNumber_calls (s : ByteArray) (hs : s.size < 1000000000) (b e : Nat) (hb : b < e) (he : e ≤ s.size) (hend : e < s.size → bt s e ≤ 32 ∨ bt s e = 44 ∨ bt s e = 93 ∨ bt s e = 125) (hl : ∀ q : Nat, b ≤ q → q < e → NumC (bt s q)) (w : World) :
    Calls Tryz.prog 107 #[.string s, .int .i64 (b : Int)] w fun en w' => en = .returned (.tuple #[.int .i64 (e : Int), .string (s.extract b e)]) ∧ Drawn0 w w' := by
  obtain ⟨k, hk⟩ := ln_num_l0 s hs b e he hend (e - (b + 1)) (b + 1) (by omega) (by omega) (fun q h1 h2 => hl q (by omega) h2)
  refine gjson_parseNumber.calls k s b _ _ w ?_
  unfold gjson_parseNumber.f
  rw [w64 (by omega)]
  exact hk
end Go.Proofs.YtdolnkknlflmeaaGreatDoor.L
