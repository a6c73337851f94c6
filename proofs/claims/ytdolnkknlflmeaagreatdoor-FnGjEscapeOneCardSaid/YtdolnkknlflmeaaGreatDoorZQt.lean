/-
  The text that Quote writes: what a scan and what unescape find in it.
-/
import Derived.Test.YtdolnkknlflmeaaGreatDoorZOs
import Derived.Test.YtdolnkknlflmeaaGreatDoorZLx7
import Derived.Test.YtdolnkknlflmeaaGreatDoorZPs
namespace Go.Proofs.YtdolnkknlflmeaaGreatDoor.L
open Go.RowKit Go.Proofs.YtdolnkknlflmeaaGreatDoorW.PrintWords Go.Proofs.YtdolnkknlflmeaaGreatDoorW.PrintLast Go.Proofs.YtdolnkknlflmeaaGreatDoorW.PrintMore
set_option linter.unusedVariables false
set_option linter.unusedSimpArgs false

/-- The bytes of L stand in s from a on. -/
def At (s : ByteArray) (a : Nat) (L : List Int) : Prop := ∀ j (h : j < L.length), a + j < s.size ∧ bt s ((a + j : Nat) : Int) = L[j]
theorem At.nil (s : ByteArray) (a : Nat) : At s a [] := fun j h => by simp at h
theorem At.append {s : ByteArray} {a : Nat} {L M : List Int} (h : At s a (L ++ M)) : At s a L ∧ At s (a + L.length) M := by
  constructor
  · intro j hj
    have := h j (by simp; omega)
    rw [List.getElem_append_left hj] at this
    exact this
  · intro j hj
    have := h (L.length + j) (by simp; omega)
    rw [List.getElem_append_right (by omega)] at this
    simp only [Nat.add_sub_cancel_left] at this
    rw [← Nat.add_assoc] at this
    exact this
theorem At.cons {s : ByteArray} {a : Nat} {c : Int} {M : List Int} (h : At s a (c :: M)) : (a < s.size ∧ bt s (a : Int) = c) ∧ At s (a + 1) M := by
  have h' : At s a ([c] ++ M) := h
  obtain ⟨h1, h2⟩ := h'.append
  have := h1 0 (by simp)
  exact ⟨by simpa using this, h2⟩
theorem At.of (L : List Int) (h : Byt L) : At (strOfNums L) 0 L := by
  intro j hj
  rw [Nat.zero_add]
  exact ⟨by rw [strOfNums_size]; exact hj, bt_strOfNums L h j hj⟩
theorem At.mk_cons {s : ByteArray} {a : Nat} {c : Int} {M : List Int} (h : a < s.size) (hb : bt s (a : Int) = c) (h2 : At s (a + 1) M) : At s a (c :: M) := by
  intro j hj
  match j with
  | 0 => exact ⟨h, hb⟩
  | j + 1 =>
    have := h2 j (by simpa using hj)
    rw [show a + (j + 1) = a + 1 + j by omega]
    exact this
theorem bytesOf_at (s : ByteArray) (j : Nat) (h : j < (bytesOf s).length) : (bytesOf s)[j] = bt s (j : Int) := by
  unfold bt
  simp only [Int.toNat_natCast]
  rw [dif_pos (by rw [bytesOf_length] at h; exact h)]
  simp [bytesOf]
  rfl
/-- The part of a text that reads as L. -/
theorem At.extract {s : ByteArray} {a : Nat} {L : List Int} (h : At s a L) (hl : a + L.length ≤ s.size) : bytesOf (s.extract a (a + L.length)) = L := by
  have hsz : (s.extract a (a + L.length)).size = L.length := by simp; omega
  apply List.ext_getElem
  · rw [bytesOf_length, hsz]
  · intro j h1 h2
    have hb := bt_extract s a (a + L.length) j (by omega) hl
    rw [(h j h2).2] at hb
    rw [bytesOf_at, hb]
theorem At.extract_eq {s : ByteArray} {a : Nat} {L : List Int} (h : At s a L) (hl : a + L.length ≤ s.size) : s.extract a (a + L.length) = strOfNums L := by
  rw [← h.extract hl, strOfNums_bytesOf, h.extract hl]
theorem At.sub {s : ByteArray} {a i : Nat} {L : List Int} (h : At s (a + i) L) (b : Nat) (hb : a + i + L.length ≤ b) (hs : b ≤ s.size) : At (s.extract a b) i L := by
  intro j hj
  have hsz : (s.extract a b).size = b - a := by simp; omega
  have h1 := bt_extract s a b (i + j) (by omega) hs
  rw [← Nat.add_assoc, (h j hj).2] at h1
  exact ⟨by rw [hsz]; omega, h1⟩

def hexd (d : Int) : Int := if d < 10 then 48 + d else 87 + d
/-- How Quote writes a byte. -/
def qc (c : Int) : List Int :=
  if c = 8 then [92, 98] else if c = 12 then [92, 102] else if c = 10 then [92, 110] else if c = 13 then [92, 114] else if c = 9 then [92, 116]
  else if c = 34 then [92, 34] else if c = 92 then [92, 92] else if c < 32 then [92, 117, 48, 48, 48 + c / 16, hexd (c % 16)] else [c]
def qL : List Int → List Int
  | [] => []
  | c :: t => qc c ++ qL t

inductive QC : Int → List Int → Prop
  | short (c l : Int) : Esc1 l c → c ≠ 47 → QC c [92, l]
  | hex (c : Int) : 0 ≤ c → c < 32 → QC c [92, 117, 48, 48, 48 + c / 16, hexd (c % 16)]
  | plain (c : Int) : 32 ≤ c → c < 256 → c ≠ 34 → c ≠ 92 → QC c [c]
theorem qc_QC (c : Int) (h0 : 0 ≤ c) (h1 : c < 256) : QC c (qc c) := by
  unfold qc
  split
  · subst c; exact .short 8 98 (by simp [Esc1]) (by decide)
  split
  · subst c; exact .short 12 102 (by simp [Esc1]) (by decide)
  split
  · subst c; exact .short 10 110 (by simp [Esc1]) (by decide)
  split
  · subst c; exact .short 13 114 (by simp [Esc1]) (by decide)
  split
  · subst c; exact .short 9 116 (by simp [Esc1]) (by decide)
  split
  · subst c; exact .short 34 34 (by simp [Esc1]) (by decide)
  split
  · subst c; exact .short 92 92 (by simp [Esc1]) (by decide)
  split
  · exact .hex c h0 (by assumption)
  · exact .plain c (by omega) h1 (by assumption) (by assumption)
theorem qc_length (c : Int) (h0 : 0 ≤ c) (h1 : c < 256) : 1 ≤ (qc c).length ∧ (qc c).length ≤ 6 := by
  have := qc_QC c h0 h1
  revert this
  generalize qc c = L
  intro h
  cases h <;> simp
theorem hexd_range (d : Int) (h0 : 0 ≤ d) (h1 : d < 16) : IsHex (hexd d) ∧ hexv (hexd d) = d ∧ hexd d < 256 := by
  unfold hexd IsHex hexv
  split
  · refine ⟨by omega, ?_, by omega⟩
    rw [if_pos (by omega)]; omega
  · refine ⟨by omega, ?_, by omega⟩
    rw [if_neg (by omega), if_neg (by omega)]; omega

theorem byt_cons {c : Int} {t : List Int} (h : Byt (c :: t)) : (0 ≤ c ∧ c < 256) ∧ Byt t := ⟨h c (by simp), fun x hx => h x (by simp [hx])⟩
theorem byt_append {a b : List Int} (h : Byt a) (k : Byt b) : Byt (a ++ b) := by
  intro c hc
  rcases List.mem_append.1 hc with h1 | h1
  · exact h c h1
  · exact k c h1
theorem byt_qc (c : Int) (h0 : 0 ≤ c) (h1 : c < 256) : Byt (qc c) := by
  have := qc_QC c h0 h1
  revert this
  generalize qc c = L
  intro h
  cases h with
  | short l h2 h3 => intro x hx; unfold Esc1 at h2; simp at hx; rcases hx with rfl | rfl <;> omega
  | hex h2 h3 =>
    intro x hx
    have := hexd_range (c % 16) (by omega) (by omega)
    simp at hx
    unfold hexd at *
    split at * <;> rcases hx with rfl | rfl | rfl | rfl | rfl <;> omega
  | plain h2 h3 h4 h5 => intro x hx; simp at hx; omega
theorem byt_qL {L : List Int} (h : Byt L) : Byt (qL L) := by
  induction L with
  | nil => exact h
  | cons c t ih => exact byt_append (byt_qc c (byt_cons h).1.1 (byt_cons h).1.2) (ih (byt_cons h).2)
theorem qL_length {L : List Int} (h : Byt L) : L.length ≤ (qL L).length ∧ (qL L).length ≤ 6 * L.length := by
  induction L with
  | nil => simp [qL]
  | cons c t ih =>
    have := qc_length c (byt_cons h).1.1 (byt_cons h).1.2
    have := ih (byt_cons h).2
    simp [qL]
    omega

theorem Un_q (s : ByteArray) : ∀ (L : List Int) (i : Nat), Byt L → At s i (qL L) → i + (qL L).length = s.size → Un s i L
  | [], i, _, _, h1 => by
    have : i = s.size := by simpa [qL] using h1
    subst this
    exact .done
  | c :: t, i, hb, hat, h1 => by
    obtain ⟨⟨h3, h4⟩, hb'⟩ := byt_cons hb
    obtain ⟨ha, hr⟩ := At.append (L := qc c) hat
    have e : i + (qL (c :: t)).length = i + (qc c).length + (qL t).length := by simp [qL]; omega
    rw [e] at h1
    have ih := Un_q s t (i + (qc c).length) hb' hr h1
    have hq := qc_QC c h3 h4
    revert ha ih h1
    generalize qc c = M at hq
    intro h1 ha ih
    cases hq with
    | short l h5 h6 => exact .esc ha.cons.2.cons.1.1 ha.cons.1.2 ha.cons.2.cons.1.2 h5 ih
    | hex h5 h6 =>
      have k1 := ha.cons.2.cons
      have k2 := k1.2.cons
      have k3 := k2.2.cons
      have k4 := k3.2.cons
      have k5 := k4.2.cons
      have hd := hexd_range (c % 16) (by omega) (by omega)
      have d0 : hexv 48 = 0 := rfl
      have d1 : hexv (48 + c / 16) = c / 16 := by unfold hexv; rw [if_pos (by omega)]; omega
      have hh : hexn s (i + 2) = c := by
        unfold hexn
        rw [k2.1.2, k3.1.2, k4.1.2, k5.1.2, d0, d1, hd.2.1]
        omega
      have h16 : IsHex (48 + c / 16) := by unfold IsHex; omega
      have hx4 : Hex4 s (i + 2) := by
        intro n hn
        have : n = 0 ∨ n = 1 ∨ n = 2 ∨ n = 3 := by omega
        rcases this with rfl | rfl | rfl | rfl
        · rw [Nat.add_zero, k2.1.2]; unfold IsHex; omega
        · rw [k3.1.2]; unfold IsHex; omega
        · rw [k4.1.2]; exact h16
        · rw [k5.1.2]; exact hd.1
      have hu := Un.uni (s := s) (i := i) (u := c) (r := t) (by have := k5.1.1; omega) ha.cons.1.2 k1.1.2 hx4 hh (by omega) ih
      have he : encL c = [c] := by unfold encL; rw [if_pos (by omega)]
      rw [he] at hu
      exact hu
    | plain h5 h6 h7 h8 => exact .plain ha.cons.1.1 ha.cons.1.2 h5 h8 ih

/-- A text without backslashes unescapes to itself. -/
theorem Un_plain {s : ByteArray} {i : Nat} {R : List Int} (h : Un s i R) (hn : ∀ q : Nat, i ≤ q → q < s.size → bt s q ≠ 92) : At s i R ∧ i + R.length = s.size := by
  induction h with
  | done => exact ⟨At.nil _ _, by simp⟩
  | plain h1 h2 h3 h4 h5 ih =>
    obtain ⟨i1, i2⟩ := ih (fun q hq hs => hn q (by omega) hs)
    exact ⟨At.mk_cons h1 h2 i1, by simp; omega⟩
  | esc h1 h2 h3 h4 h5 ih => exact absurd h2 (hn _ (Nat.le_refl _) (by omega))
  | uni h1 h2 h3 h4 h5 h6 h7 ih => exact absurd h2 (hn _ (Nat.le_refl _) (by omega))
  | pair h1 h2 => exact absurd h2 (hn _ (Nat.le_refl _) (by omega))
theorem Un_same {s x : ByteArray} (h : Un s 0 (bytesOf x)) (hn : ∀ q : Nat, q < s.size → bt s q ≠ 92) : x = s := by
  obtain ⟨h1, h2⟩ := Un_plain h (fun q _ hq => hn q hq)
  have h3 := h1.extract (by omega)
  have h4 : s.extract 0 (0 + (bytesOf x).length) = s := by
    rw [h2]
    exact ByteArray.extract_zero_size ..
  rw [h4] at h3
  rw [← strOfNums_bytesOf x, ← h3, strOfNums_bytesOf]

/-- What Quote writes. -/
theorem shortOf_or (c : Int) (h0 : 0 ≤ c) (h1 : c < 256) : (∃ l, spec_shortOf.f c = some (l, true) ∧ c ≠ 47 ∧ qc c = [92, l]) ∨ (∃ l b, spec_shortOf.f c = some (l, b) ∧ (b = true → c = 47) ∧ qc c = if c < 32 then [92, 117, 48, 48, 48 + c / 16, hexd (c % 16)] else [c]) := by
  unfold spec_shortOf.f qc
  split
  · subst c; exact .inl ⟨98, rfl, by decide, rfl⟩
  split
  · subst c; exact .inl ⟨102, rfl, by decide, rfl⟩
  split
  · subst c; exact .inl ⟨110, rfl, by decide, rfl⟩
  split
  · subst c; exact .inl ⟨114, rfl, by decide, rfl⟩
  split
  · subst c; exact .inl ⟨116, rfl, by decide, rfl⟩
  split
  · subst c; exact .inl ⟨34, rfl, by decide, rfl⟩
  split
  · subst c; exact .inl ⟨92, rfl, by decide, rfl⟩
  split
  · subst c; exact .inr ⟨47, true, rfl, fun _ => rfl, rfl⟩
  · exact .inr ⟨0, false, rfl, fun h => by simp at h, rfl⟩
theorem quote_l0 (s : ByteArray) (hs : s.size ≤ 1000000) : ∀ (n i : Nat) (acc : List Int), i + n = s.size → acc.length ≤ 1 + 6 * i →
    Ends (fun k => spec_Quote.l0 k s acc i) (strOfNums (acc ++ qL ((bytesOf s).drop i) ++ [34]))
  | 0, i, acc, hi, hl => by
    have e : (bytesOf s).drop i = [] := List.drop_eq_nil_of_le (by rw [bytesOf_length]; omega)
    refine ⟨1, ?_⟩
    show spec_Quote.l0 (0 + 1) s acc i = _
    rw [spec_Quote.l0, if_neg (by omega), if_pos (by omega), e]
    simp [qL]
  | n + 1, i, acc, hi, hl => by
    have hlt : i < (bytesOf s).length := by rw [bytesOf_length]; omega
    have hb : bt s (i : Int) = (bytesOf s)[i] := (bytesOf_at s i hlt).symm
    have hby := byt_bytesOf s _ (List.getElem_mem hlt)
    have hdrop : (bytesOf s).drop i = (bytesOf s)[i] :: (bytesOf s).drop (i + 1) := List.drop_eq_getElem_cons hlt
    rw [hdrop, qL]
    obtain ⟨c, hc⟩ : ∃ c, c = (bytesOf s)[i] := ⟨_, rfl⟩
    rw [← hc] at hb hby ⊢
    have hlq := qc_length c hby.1 hby.2
    have ih := quote_l0 s hs n (i + 1) (acc ++ qc c) (by omega) (by simp; omega)
    have ew : wrap64 ((i : Int) + 1) = ((i + 1 : Nat) : Int) := by rw [w64 (by omega)]; omega
    have e2 : acc ++ (qc c ++ qL ((bytesOf s).drop (i + 1))) ++ [34] = acc ++ qc c ++ qL ((bytesOf s).drop (i + 1)) ++ [34] := by simp
    rw [e2]
    obtain ⟨m, hm⟩ := ih
    refine ⟨m + 2, ?_⟩
    show spec_Quote.l0 (m + 2) s acc i = _
    rw [spec_Quote.l0, if_pos (by omega), if_pos (by omega), hb]
    rcases shortOf_or c hby.1 hby.2 with ⟨l, h1, h2, h3⟩ | ⟨l, b, h1, h2, h3⟩
    · have hne : (c != 47) = true := bne_iff_ne.mpr h2
      rw [h1]
      simp only [Option.bind_some, if_true, hne]
      rw [spec_Quote.j1]
      simp only [if_true, Option.bind_some]
      rw [if_pos (by simp; omega), ew, ← h3]
      exact hm
    · have hj : ∀ l, spec_Quote.j1 (m + 1) s acc i c l false = some (strOfNums (acc ++ qc c ++ qL ((bytesOf s).drop (i + 1)) ++ [34])) := by
        intro l
        rw [spec_Quote.j1]
        simp only [Bool.false_eq_true, if_false]
        by_cases h32 : c < 32
        · rw [if_pos h32] at h3 ⊢
          have e3 : wrap64 (Int.tmod c 16) = c % 16 := by rw [Int.tmod_eq_emod_of_nonneg hby.1, w64 (by omega)]
          have e4 : spec_digitOf.f (c % 16) false = some (hexd (c % 16)) := by
            unfold spec_digitOf.f hexd
            split
            · rw [w64 (by omega)]; congr 1; omega
            · simp only [Bool.false_eq_true, if_false]
              rw [w64 (x := 97 + c % 16) (by omega), w64 (by omega)]; congr 1; omega
          have e5 : (48 + ((Int.tdiv c 16) % 256)) % 256 = 48 + c / 16 := by rw [Int.tdiv_eq_ediv_of_nonneg hby.1]; omega
          rw [e3, e4]
          simp only [Option.bind_some]
          rw [if_pos (by simp; omega), ew, e5, ← h3]
          exact hm
        · rw [if_neg h32] at h3 ⊢
          rw [if_pos (by omega), ew, ← h3]
          exact hm
      rw [h1]
      simp only [Option.bind_some]
      cases b with
      | true =>
        have := h2 rfl
        subst this
        simp only [if_true]
        exact hj l
      | false =>
        simp only [Bool.false_eq_true, if_false]
        exact hj l
/-- A name in quotation marks, as Quote writes it. -/
def quoL (s : ByteArray) : List Int := 34 :: (qL (bytesOf s) ++ [34])
theorem quote_f (s : ByteArray) (hs : s.size ≤ 1000000) : ∃ k, spec_Quote.f k s = some (strOfNums (quoL s)) := by
  have h := quote_l0 s hs s.size 0 [34] (by omega) (by simp)
  obtain ⟨k, hk⟩ := h
  refine ⟨k, ?_⟩
  have hk' : spec_Quote.l0 k s [34] ((0 : Nat) : Int) = _ := hk
  unfold spec_Quote.f
  rw [show (0 : Int) = ((0 : Nat) : Int) from rfl, hk']
  simp [quoL]
theorem quote_calls (s : ByteArray) (hs : s.size ≤ 1000000) (w : World) : Calls Tryz.prog 73 #[.string s] w fun e w' => e = .returned (.string (strOfNums (quoL s))) ∧ Below w.heap.size w w' := by
  obtain ⟨k, hk⟩ := quote_f s hs
  exact spec_Quote.calls k s _ w hk
theorem byt_quoL (s : ByteArray) : Byt (quoL s) := by
  unfold quoL
  have h := byt_append (byt_qL (byt_bytesOf s)) (show Byt [34] by intro c hc; simp at hc; subst hc; decide)
  intro c hc
  rcases List.mem_cons.1 hc with rfl | hc
  · decide
  · exact h c hc
theorem quoL_length (s : ByteArray) : (quoL s).length ≤ 2 + 6 * s.size := by
  have := qL_length (byt_bytesOf s)
  rw [bytesOf_length] at this
  simp [quoL]
  omega
end Go.Proofs.YtdolnkknlflmeaaGreatDoor.L
