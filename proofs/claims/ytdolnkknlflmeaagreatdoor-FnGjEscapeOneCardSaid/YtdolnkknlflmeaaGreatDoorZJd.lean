/-
  The parts of a JSON text as relations; what the reader accepts has these parts.
-/
import Derived.Test.YtdolnkknlflmeaaGreatDoorZVd
import Derived.Test.YtdolnkknlflmeaaGreatDoorZQt
namespace Go.Proofs.YtdolnkknlflmeaaGreatDoor.L
open Go.RowKit Go.Proofs.YtdolnkknlflmeaaGreatDoorW.PrintWords Go.Proofs.YtdolnkknlflmeaaGreatDoorW.PrintLast Go.Proofs.YtdolnkknlflmeaaGreatDoorW.PrintMore
set_option linter.unusedVariables false
set_option linter.unusedSimpArgs false

def Blc (c : Int) : Prop := c = 32 ∨ c = 9 ∨ c = 10 ∨ c = 13
/-- Blanks from i to j. -/
def Bl (s : ByteArray) (i j : Nat) : Prop := i ≤ j ∧ j ≤ s.size ∧ ∀ q : Nat, i ≤ q → q < j → Blc (bt s q)
/-- What stands ahead of a member or an element: blanks; behind another one a comma among them. -/
def Sep (s : ByteArray) : Bool → Nat → Nat → Prop
  | true, p, j => Bl s p j
  | false, p, j => ∃ c : Nat, Bl s p c ∧ c < s.size ∧ bt s c = 44 ∧ Bl s (c + 1) j
/-- The characters of a string up to its quotation mark. -/
inductive SW (s : ByteArray) : Nat → Nat → Prop
  | done {e : Nat} : e < s.size → bt s e = 34 → SW s e e
  | plain {a e : Nat} : a < s.size → 32 ≤ bt s a → bt s a ≠ 34 → bt s a ≠ 92 → SW s (a + 1) e → SW s a e
  | esc {a e : Nat} {c : Int} : a + 1 < s.size → bt s a = 92 → Esc1 (bt s ((a + 1 : Nat) : Int)) c → SW s (a + 2) e → SW s a e
  | uni {a e : Nat} : a + 6 ≤ s.size → bt s a = 92 → bt s ((a + 1 : Nat) : Int) = 117 → Hex4 s (a + 2) → SW s (a + 6) e → SW s a e
def Digs (s : ByteArray) (i j : Nat) : Prop := i < j ∧ j ≤ s.size ∧ ∀ q : Nat, i ≤ q → q < j → 48 ≤ bt s q ∧ bt s q ≤ 57
def NumI (s : ByteArray) (i j : Nat) : Prop := (i < s.size ∧ bt s i = 48 ∧ j = i + 1) ∨ (Digs s i j ∧ bt s i ≠ 48)
def NumF (s : ByteArray) (i j : Nat) : Prop := j = i ∨ (i < s.size ∧ bt s i = 46 ∧ Digs s (i + 1) j)
def NumE (s : ByteArray) (i j : Nat) : Prop := j = i ∨ (i < s.size ∧ (bt s i = 101 ∨ bt s i = 69) ∧ ∃ m : Nat, (m = i + 1 ∨ (i + 1 < s.size ∧ (bt s ((i + 1 : Nat) : Int) = 43 ∨ bt s ((i + 1 : Nat) : Int) = 45) ∧ m = i + 2)) ∧ Digs s m j)
/-- A number from b to e. -/
def NumW (s : ByteArray) (b e : Nat) : Prop := ∃ i j m : Nat, (i = b ∨ (b < s.size ∧ bt s b = 45 ∧ i = b + 1)) ∧ NumI s i j ∧ NumF s j m ∧ NumE s m e

mutual
/-- A value from b to e; its place. -/
inductive JV (s : ByteArray) : Nat → Nat → S48 → Prop
  | null {b : Nat} : At s b [110, 117, 108, 108] → JV s b (b + 4) ⟨0, (b : Int), ((b + 4 : Nat) : Int), [], []⟩
  | false {b : Nat} : At s b [102, 97, 108, 115, 101] → JV s b (b + 5) ⟨1, (b : Int), ((b + 5 : Nat) : Int), [], []⟩
  | true {b : Nat} : At s b [116, 114, 117, 101] → JV s b (b + 4) ⟨2, (b : Int), ((b + 4 : Nat) : Int), [], []⟩
  | num {b e : Nat} : NumW s b e → JV s b e ⟨3, (b : Int), (e : Int), [], []⟩
  | str {b e : Nat} : b < s.size → bt s b = 34 → SW s (b + 1) e → JV s b (e + 1) ⟨4, (b : Int), ((e + 1 : Nat) : Int), [], []⟩
  | arr {b e : Nat} {ks : List S48} : b < s.size → bt s b = 91 → ER s true (b + 1) e ks → JV s b e ⟨5, (b : Int), (e : Int), [], ks⟩
  | obj {b e : Nat} {ns : List S84} {ks : List S48} : b < s.size → bt s b = 123 → MR s true (b + 1) e ns ks → JV s b e ⟨6, (b : Int), (e : Int), ns, ks⟩
/-- The members that are left of an object, from p to behind its brace. -/
inductive MR (s : ByteArray) : Bool → Nat → Nat → List S84 → List S48 → Prop
  | done {f : Bool} {p j : Nat} : Bl s p j → j < s.size → bt s j = 125 → MR s f p (j + 1) [] []
  | more {f : Bool} {p j a c vb ve e : Nat} {v : S48} {ns : List S84} {ks : List S48} : Sep s f p j → j < s.size → bt s j = 34 → SW s (j + 1) a → Bl s (a + 1) c → c < s.size → bt s c = 58 → Bl s (c + 1) vb →
      JV s vb ve v → MR s false ve e ns ks → MR s f p e (⟨(j : Int), ((a + 1 : Nat) : Int)⟩ :: ns) (v :: ks)
/-- The elements that are left of an array, from p to behind its bracket. -/
inductive ER (s : ByteArray) : Bool → Nat → Nat → List S48 → Prop
  | done {f : Bool} {p j : Nat} : Bl s p j → j < s.size → bt s j = 93 → ER s f p (j + 1) []
  | more {f : Bool} {p vb ve e : Nat} {v : S48} {ks : List S48} : Sep s f p vb → JV s vb ve v → ER s false ve e ks → ER s f p e (v :: ks)
end

theorem SW.SB {s : ByteArray} {a e : Nat} (h : SW s a e) : SB s a e := by
  induction h with
  | done h1 h2 => exact .done h1 h2
  | plain h1 h2 h3 h4 _ ih => exact .plain h3 h4 ih
  | esc h1 h2 _ _ ih => exact .esc h2 ih
  | @uni a e h1 h2 h3 h4 _ ih =>
    have g0 : IsHex (bt s ((a + 2 : Nat) : Int)) := h4 0 (by omega)
    have g1 : IsHex (bt s ((a + 2 + 1 : Nat) : Int)) := h4 1 (by omega)
    have g2 : IsHex (bt s ((a + 2 + 1 + 1 : Nat) : Int)) := h4 2 (by omega)
    have g3 : IsHex (bt s ((a + 2 + 1 + 1 + 1 : Nat) : Int)) := h4 3 (by omega)
    unfold IsHex at g0 g1 g2 g3
    exact .esc h2 (.plain (by omega) (by omega) (.plain (by omega) (by omega) (.plain (by omega) (by omega) (.plain (by omega) (by omega) ih))))
theorem SW.le {s : ByteArray} {a e : Nat} (h : SW s a e) : a ≤ e ∧ e < s.size ∧ bt s e = 34 := h.SB.le

/-! ### what the reader accepts -/
theorem take_of {s s' : ByteArray} {i : Nat} {c j : Int} {b : Bool} (hs : s.size < 1000000000) (hf : spec_reader_take.f s i c = some (b, s', j)) :
    s' = s ∧ ((b = true ∧ i < s.size ∧ bt s i = c ∧ j = ((i + 1 : Nat) : Int)) ∨ (b = false ∧ j = i ∧ (i < s.size → bt s i ≠ c))) := by
  unfold spec_reader_take.f at hf
  split at hf
  · rw [if_pos (by omega)] at hf
    split at hf
    · simp only [Option.some.injEq, Prod.mk.injEq] at hf
      refine ⟨hf.2.1.symm, .inl ⟨hf.1.symm, by omega, by assumption, ?_⟩⟩
      rw [← hf.2.2, w64 (by omega)]
      omega
    · simp only [Option.some.injEq, Prod.mk.injEq] at hf
      exact ⟨hf.2.1.symm, .inr ⟨hf.1.symm, hf.2.2.symm, fun _ => by assumption⟩⟩
  · simp only [Option.some.injEq, Prod.mk.injEq] at hf
    exact ⟨hf.2.1.symm, .inr ⟨hf.1.symm, hf.2.2.symm, fun h => by omega⟩⟩
theorem NumW.le {s : ByteArray} {b e : Nat} (h : NumW s b e) : b < e ∧ e ≤ s.size := by
  obtain ⟨i, j, m, h1, h2, h3, h4⟩ := h
  have e1 : b ≤ i := by omega
  have e2 : i < j ∧ j ≤ s.size := by unfold NumI Digs at h2; omega
  have e3 : j ≤ m ∧ m ≤ s.size := by unfold NumF Digs at h3; omega
  rcases h4 with rfl | ⟨_, _, n, h5, h6, h7, _⟩
  · omega
  · omega
theorem At.le {s : ByteArray} {b : Nat} {c : Int} {L : List Int} (h : At s b (c :: L)) : b + (c :: L).length ≤ s.size := by
  have := (h L.length (by simp)).1
  simp
  omega

end Go.Proofs.YtdolnkknlflmeaaGreatDoor.L
