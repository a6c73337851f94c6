/-
  The text of an object of two members, as Print writes it.
-/
import Derived.Test.YtdolnkknlflmeaaGreatDoorZSq
namespace Go.Proofs.YtdolnkknlflmeaaGreatDoor.L
open Go.RowKit Go.Proofs.YtdolnkknlflmeaaGreatDoorW.PrintWords Go.Proofs.YtdolnkknlflmeaaGreatDoorW.PrintLast Go.Proofs.YtdolnkknlflmeaaGreatDoorW.PrintMore
set_option linter.unusedVariables false
set_option linter.unusedSimpArgs false

theorem SW_q (s : ByteArray) : ∀ (L : List Int) (a : Nat), Byt L → At s a (qL L) → a + (qL L).length < s.size → bt s ((a + (qL L).length : Nat) : Int) = 34 → SW s a (a + (qL L).length)
  | [], a, _, _, h1, h2 => .done h1 h2
  | c :: t, a, hb, hat, h1, h2 => by
    obtain ⟨⟨h3, h4⟩, hb'⟩ := byt_cons hb
    obtain ⟨ha, hr⟩ := At.append (L := qc c) hat
    have e : a + (qL (c :: t)).length = a + (qc c).length + (qL t).length := by simp [qL]; omega
    rw [e] at h1 h2 ⊢
    have ih := SW_q s t (a + (qc c).length) hb' hr h1 h2
    have hq := qc_QC c h3 h4
    revert ha ih
    generalize qc c = M at hq
    intro ha ih
    cases hq with
    | short l h5 h6 => exact .esc (c := c) ha.cons.2.cons.1.1 ha.cons.1.2 (by rw [ha.cons.2.cons.1.2]; exact h5) ih
    | hex h5 h6 =>
      have k1 := ha.cons.2.cons
      have k2 := k1.2.cons
      have k3 := k2.2.cons
      have k4 := k3.2.cons
      have k5 := k4.2.cons
      have hd := hexd_range (c % 16) (by omega) (by omega)
      have h16 : IsHex (48 + c / 16) := by unfold IsHex; omega
      have hx4 : Hex4 s (a + 2) := by
        intro n hn
        have : n = 0 ∨ n = 1 ∨ n = 2 ∨ n = 3 := by omega
        rcases this with rfl | rfl | rfl | rfl
        · rw [Nat.add_zero, k2.1.2]; unfold IsHex; omega
        · rw [k3.1.2]; unfold IsHex; omega
        · rw [k4.1.2]; exact h16
        · rw [k5.1.2]; exact hd.1
      exact .uni (by have := k5.1.1; omega) ha.cons.1.2 k1.1.2 hx4 ih
    | plain h5 h6 h7 h8 => exact .plain ha.cons.1.1 (by rw [ha.cons.1.2]; exact h5) (by rw [ha.cons.1.2]; exact h7) (by rw [ha.cons.1.2]; exact h8) ih

theorem Bl.refl {s : ByteArray} {i : Nat} (h : i ≤ s.size) : Bl s i i := ⟨Nat.le_refl _, h, fun q h1 h2 => by omega⟩
/-- A name's characters are those of x. -/
def NmOk (s : ByteArray) (n : S84) (x : ByteArray) : Prop := ∃ j a : Nat, n = ⟨(j : Int), ((a + 1 : Nat) : Int)⟩ ∧ Un (s.extract (j + 1) a) 0 (bytesOf x)

def exL (O K : ByteArray) : List Int := 123 :: 34 :: (qL (bytesOf O) ++ 34 :: 58 :: ([102, 97, 108, 115, 101] ++ 44 :: 34 :: (qL (bytesOf K) ++ 34 :: 58 :: ([116, 114, 117, 101] ++ [125]))))
theorem byt_exL (O K : ByteArray) : Byt (exL O K) := by
  have h1 := byt_qL (byt_bytesOf O)
  have h2 := byt_qL (byt_bytesOf K)
  intro c hc
  simp only [exL, List.mem_cons, List.mem_append, List.not_mem_nil, or_false] at hc
  rcases hc with rfl | rfl | hc | rfl | rfl | hc | rfl | rfl | hc | rfl | rfl | hc | rfl
  all_goals first | (exact h1 c hc) | (exact h2 c hc) | omega
theorem exL_length (O K : ByteArray) : (exL O K).length = 18 + (qL (bytesOf O)).length + (qL (bytesOf K)).length := by simp [exL]; omega
theorem ex_text (O K X : ByteArray) (hX : X = strOfNums (exL O K)) : ∃ (lo lk : Nat) (n1 n2 : S84), X.size = 18 + lo + lk ∧ lo ≤ 6 * O.size ∧ lk ≤ 6 * K.size ∧ bt X 0 = 123 ∧ NmOk X n1 O ∧ NmOk X n2 K ∧
    MR X true 1 X.size [n1, n2] [⟨1, ((4 + lo : Nat) : Int), ((9 + lo : Nat) : Int), [], []⟩, ⟨2, ((13 + lo + lk : Nat) : Int), ((17 + lo + lk : Nat) : Int), [], []⟩] ∧ X.extract (13 + lo + lk) (17 + lo + lk) = wTrue := by
  obtain ⟨lo, hlo⟩ : ∃ lo, lo = (qL (bytesOf O)).length := ⟨_, rfl⟩
  obtain ⟨lk, hlk⟩ : ∃ lk, lk = (qL (bytesOf K)).length := ⟨_, rfl⟩
  have hsz : X.size = 18 + lo + lk := by rw [hX, strOfNums_size, exL_length, hlo, hlk]
  have hA : At X 0 (exL O K) := by rw [hX]; exact At.of _ (byt_exL O K)
  have bO := byt_bytesOf O
  have bK := byt_bytesOf K
  have lO := qL_length bO
  have lK := qL_length bK
  rw [bytesOf_length] at lO lK
  rw [← hlo] at lO
  rw [← hlk] at lK
  clear hX
  unfold exL at hA
  obtain ⟨⟨g0, a0⟩, hA⟩ := hA.cons
  obtain ⟨⟨g1, a1⟩, hA⟩ := hA.cons
  have hA : At X 2 _ := hA
  obtain ⟨hO, hA⟩ := hA.append
  rw [← hlo] at hA
  obtain ⟨⟨g2, a2⟩, hA⟩ := hA.cons
  rw [show 2 + lo + 1 = 3 + lo by omega] at hA
  obtain ⟨⟨g3, a3⟩, hA⟩ := hA.cons
  rw [show 3 + lo + 1 = 4 + lo by omega] at hA
  obtain ⟨hF, hA⟩ := hA.append
  rw [show 4 + lo + ([102, 97, 108, 115, 101] : List Int).length = 9 + lo by simp; omega] at hA
  obtain ⟨⟨g4, a4⟩, hA⟩ := hA.cons
  rw [show 9 + lo + 1 = 10 + lo by omega] at hA
  obtain ⟨⟨g5, a5⟩, hA⟩ := hA.cons
  rw [show 10 + lo + 1 = 11 + lo by omega] at hA
  obtain ⟨hK, hA⟩ := hA.append
  rw [← hlk] at hA
  obtain ⟨⟨g6, a6⟩, hA⟩ := hA.cons
  rw [show 11 + lo + lk + 1 = 12 + lo + lk by omega] at hA
  obtain ⟨⟨g7, a7⟩, hA⟩ := hA.cons
  rw [show 12 + lo + lk + 1 = 13 + lo + lk by omega] at hA
  obtain ⟨hT, hA⟩ := hA.append
  rw [show 13 + lo + lk + ([116, 114, 117, 101] : List Int).length = 17 + lo + lk by simp; omega] at hA
  obtain ⟨⟨g8, a8⟩, _⟩ := hA.cons
  have s1 : SW X (1 + 1) (2 + lo) := by
    have := SW_q X (bytesOf O) 2 bO hO (by rw [← hlo]; exact g2) (by rw [← hlo]; exact a2)
    rw [← hlo] at this
    exact this
  have s2 : SW X (10 + lo + 1) (11 + lo + lk) := by
    have := SW_q X (bytesOf K) (11 + lo) bK hK (by rw [← hlk]; exact g6) (by rw [← hlk]; exact a6)
    rw [← hlk] at this
    rw [show 10 + lo + 1 = 11 + lo by omega]
    exact this
  have u1 : Un (X.extract (1 + 1) (2 + lo)) 0 (bytesOf O) := by
    refine Un_q _ _ 0 bO (At.sub (a := 2) (i := 0) hO (2 + lo) (by omega) (by omega)) ?_
    rw [← hlo]
    simp
    omega
  have u2 : Un (X.extract (10 + lo + 1) (11 + lo + lk)) 0 (bytesOf K) := by
    rw [show 10 + lo + 1 = 11 + lo by omega]
    refine Un_q _ _ 0 bK (At.sub (a := 11 + lo) (i := 0) hK (11 + lo + lk) (by omega) (by omega)) ?_
    rw [← hlk]
    simp
    omega
  have hT' := hT.extract_eq (by simp; omega)
  rw [show 13 + lo + lk + ([116, 114, 117, 101] : List Int).length = 17 + lo + lk by simp; omega] at hT'
  refine ⟨lo, lk, ⟨((1 : Nat) : Int), ((2 + lo + 1 : Nat) : Int)⟩, ⟨((10 + lo : Nat) : Int), ((11 + lo + lk + 1 : Nat) : Int)⟩, hsz, lO.2, lK.2, a0, ⟨1, 2 + lo, rfl, u1⟩, ⟨10 + lo, 11 + lo + lk, rfl, u2⟩, ?_, by rw [hT']; rfl⟩
  have m0 : MR X false (17 + lo + lk) X.size [] [] := by
    have := MR.done (s := X) (f := false) (p := 17 + lo + lk) (j := 17 + lo + lk) (Bl.refl (by omega)) g8 a8
    rw [show 17 + lo + lk + 1 = X.size by omega] at this
    exact this
  have v2 : JV X (13 + lo + lk) (17 + lo + lk) ⟨2, ((13 + lo + lk : Nat) : Int), ((17 + lo + lk : Nat) : Int), [], []⟩ := by
    have := JV.true hT
    rw [show 13 + lo + lk + 4 = 17 + lo + lk by omega] at this
    exact this
  have v1 : JV X (4 + lo) (9 + lo) ⟨1, ((4 + lo : Nat) : Int), ((9 + lo : Nat) : Int), [], []⟩ := by
    have := JV.false hF
    rw [show 4 + lo + 5 = 9 + lo by omega] at this
    exact this
  have m1 : MR X false (9 + lo) X.size [⟨((10 + lo : Nat) : Int), ((11 + lo + lk + 1 : Nat) : Int)⟩] [⟨2, ((13 + lo + lk : Nat) : Int), ((17 + lo + lk : Nat) : Int), [], []⟩] := by
    refine MR.more (j := 10 + lo) (a := 11 + lo + lk) (c := 12 + lo + lk) (vb := 13 + lo + lk) (ve := 17 + lo + lk) ⟨9 + lo, Bl.refl (by omega), g4, a4, ?_⟩ g5 a5 s2 ?_ g7 a7 ?_ v2 m0
    · rw [show 9 + lo + 1 = 10 + lo by omega]; exact Bl.refl (by omega)
    · rw [show 11 + lo + lk + 1 = 12 + lo + lk by omega]; exact Bl.refl (by omega)
    · rw [show 12 + lo + lk + 1 = 13 + lo + lk by omega]; exact Bl.refl (by omega)
  refine MR.more (j := 1) (a := 2 + lo) (c := 3 + lo) (vb := 4 + lo) (ve := 9 + lo) (Bl.refl (by omega)) g1 a1 s1 ?_ g3 a3 ?_ v1 m1
  · rw [show 2 + lo + 1 = 3 + lo by omega]; exact Bl.refl (by omega)
  · rw [show 3 + lo + 1 = 4 + lo by omega]; exact Bl.refl (by omega)
end Go.Proofs.YtdolnkknlflmeaaGreatDoor.L
