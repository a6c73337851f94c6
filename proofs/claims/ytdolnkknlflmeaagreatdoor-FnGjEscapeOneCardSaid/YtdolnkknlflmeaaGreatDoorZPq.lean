/-
  Parts of the proof: Pt, Pp.
-/
import Derived.Test.YtdolnkknlflmeaaGreatDoorZEx
import Derived.Test.YtdolnkknlflmeaaGreatDoorZEs
section
/-
  spec.Print at the object of two members.
-/
namespace Go.Proofs.YtdolnkknlflmeaaGreatDoor.L
open Go.RowKit Go.Proofs.YtdolnkknlflmeaaGreatDoorW.PrintWords Go.Proofs.YtdolnkknlflmeaaGreatDoorW.PrintLast Go.Proofs.YtdolnkknlflmeaaGreatDoorW.PrintMore
set_option linter.unusedVariables false
set_option linter.unusedSimpArgs false

/-- append(v, y...), y a text. -/
theorem apS {ops : Array Oper} {rest : List Oper} {o : Oper} {a : Act} {Q : Exit → Act → World → Prop} {w0 W : World} (base : Nat) (hgd : o.guard = none) (d x : Operand) (ho : o.op = .call { callee := .builtin .append, args := #[d, x], argTypes := #[80, 9] })
    (v : Value) (xs : List Int) (y : ByteArray) (hs : a.eval d = v) (hx : a.eval x = .string y)
    (HO : Kd.R (Kd.int .u8) 5 W base (fun _ => True) v xs) (HB : Below base w0 W) (hbase : base ≤ W.heap.size) (hl : xs.length + y.size ≤ 140737488355328)
    (h : ∀ v1 w1, Kd.R (Kd.int .u8) 5 w1 base (fun _ => True) v1 (xs ++ bytesOf y) → Below base w0 w1 → wpList Tryz.prog ops Q rest (a.put o.dst v1) w1) :
    wpList Tryz.prog ops Q (o :: rest) a W := by
  refine print_append_str (w0 := w0) base hgd d x 80 9 5 ho Tryz.underlying80 Tryz.underlying9 info5 v xs y hs hx (Kd.own_of_R HO) HB hbase hl ?_
  intro v1 w1 h1 h2 h3
  exact h v1 w1 (Kd.R_of_own h1 (fun _ _ => trivial)) h2
def bFalse : List Int := [102, 97, 108, 115, 101]
def bTrue : List Int := [116, 114, 117, 101]
def nOne : Array Value := #[.int .i64 1, .string ⟨#[]⟩, .slice none 0 0, .slice none 0 0]
def nTwo' : Array Value := #[.int .i64 2, .string ⟨#[]⟩, .slice none 0 0, .slice none 0 0]
def PtPost (base : Nat) (ys : List Int) (w : World) (e : Ending) (w' : World) : Prop := ∃ v', e = .returned v' ∧ Kd.R (Kd.int .u8) 5 w' base (fun _ => True) v' ys ∧ Below base w w'
set_option maxHeartbeats 8000000 in
set_option maxRecDepth 100000 in
theorem printTo_false (v : Value) (xs : List Int) (base : Nat) (w : World) (HO : Kd.R (Kd.int .u8) 5 w base (fun _ => True) v xs) (hbase : base ≤ w.heap.size) (hl : xs.length ≤ 100000000) :
    Calls Tryz.prog 43 #[v, .agg nOne] w (PtPost base (xs ++ bFalse) w) := by
  have HO1 := Aside0.mk (Kd.R_below HO ((Below.refl w.heap.size w).alloc (Nat.le_refl _) (.cells nOne 25)))
  have HB1 := Aside0.mk ((Below.refl base w).alloc hbase (.cells nOne 25))
  clear HO
  unfold nOne
  go_enter Tryz.func43, Tryz.ntmps43
  go_wp2_with (first | (at_builtin; refine apS (w0 := w) base rfl (.tmp 15) (.const (.string ⟨#[102, 97, 108, 115, 101]⟩)) rfl v xs _ rfl rfl HO1.out HB1.out (by simp; omega) (by have : (⟨#[102, 97, 108, 115, 101]⟩ : ByteArray).size = 5 := rfl; omega) ?_; intro v5 w5 ho hb; have HO5 := Aside0.mk ho; have HB5 := Aside0.mk hb; clear ho hb))
  go_ret
  exact ⟨_, rfl, HO5.out, HB5.out⟩
set_option maxHeartbeats 8000000 in
set_option maxRecDepth 100000 in
theorem printTo_true (v : Value) (xs : List Int) (base : Nat) (w : World) (HO : Kd.R (Kd.int .u8) 5 w base (fun _ => True) v xs) (hbase : base ≤ w.heap.size) (hl : xs.length ≤ 100000000) :
    Calls Tryz.prog 43 #[v, .agg nTwo'] w (PtPost base (xs ++ bTrue) w) := by
  have HO1 := Aside0.mk (Kd.R_below HO ((Below.refl w.heap.size w).alloc (Nat.le_refl _) (.cells nTwo' 25)))
  have HB1 := Aside0.mk ((Below.refl base w).alloc hbase (.cells nTwo' 25))
  clear HO
  unfold nTwo'
  go_enter Tryz.func43, Tryz.ntmps43
  go_wp2_with (first | (at_builtin; refine apS (w0 := w) base rfl (.tmp 19) (.const (.string ⟨#[116, 114, 117, 101]⟩)) rfl v xs _ rfl rfl HO1.out HB1.out (by simp; omega) (by have : (⟨#[116, 114, 117, 101]⟩ : ByteArray).size = 4 := rfl; omega) ?_; intro v5 w5 ho hb; have HO5 := Aside0.mk ho; have HB5 := Aside0.mk hb; clear ho hb))
  go_ret
  exact ⟨_, rfl, HO5.out, HB5.out⟩
end Go.Proofs.YtdolnkknlflmeaaGreatDoor.L
end
section
/-
  spec.Print at the object of two members: the loop.
-/
namespace Go.Proofs.YtdolnkknlflmeaaGreatDoor.L
open Go.RowKit Go.Proofs.YtdolnkknlflmeaaGreatDoorW.PrintWords Go.Proofs.YtdolnkknlflmeaaGreatDoorW.PrintLast Go.Proofs.YtdolnkknlflmeaaGreatDoorW.PrintMore
set_option linter.unusedVariables false
set_option linter.unusedSimpArgs false

def nSix (m0 m1 : Nat) : Array Value := #[.int .i64 6, .string ⟨#[]⟩, .slice (some ⟨m0, 0, none⟩) 2 2, .slice (some ⟨m1, 0, none⟩) 2 2]
def nKeys (O K : ByteArray) : Array Value := #[.string O, .string K]
def nKids : Array Value := #[.int .i64 1, .string ⟨#[]⟩, .slice none 0 0, .slice none 0 0, .int .i64 2, .string ⟨#[]⟩, .slice none 0 0, .slice none 0 0]
structure PK (W1 : World) (b m0 m1 : Nat) (O K : ByteArray) : Prop where
  n : Blk W1 b 25 (nSix m0 m1)
  k : Blk W1 m0 9 (nKeys O K)
  d : Blk W1 m1 25 nKids
theorem PK.below {W1 wr : World} {b m0 m1 : Nat} {O K : ByteArray} (h : PK W1 b m0 m1 O K) (hb : Below W1.heap.size W1 wr) : PK wr b m0 m1 O K := ⟨h.n.below hb h.n.lt, h.k.below hb h.k.lt, h.d.below hb h.d.lt⟩
theorem PK.cells {wr : World} {b m0 m1 : Nat} {O K : ByteArray} (h : PK wr b m0 m1 O K) : wr.cell? ⟨b, 0, none⟩ = some (.int .i64 6) ∧ wr.cell? ⟨b, 2, none⟩ = some (.slice (some ⟨m0, 0, none⟩) 2 2) ∧ wr.cell? ⟨b, 3, none⟩ = some (.slice (some ⟨m1, 0, none⟩) 2 2) ∧
    wr.cell? ⟨m0, 0, none⟩ = some (.string O) ∧ wr.cell? ⟨m0, 1, none⟩ = some (.string K) ∧ wr.cell? ⟨m1, 0, none⟩ = some (.int .i64 1) ∧ wr.cell? ⟨m1, 1, none⟩ = some (.string ⟨#[]⟩) ∧ wr.cell? ⟨m1, 2, none⟩ = some (.slice none 0 0) ∧ wr.cell? ⟨m1, 3, none⟩ = some (.slice none 0 0) ∧
    wr.cell? ⟨m1, 4, none⟩ = some (.int .i64 2) ∧ wr.cell? ⟨m1, 5, none⟩ = some (.string ⟨#[]⟩) ∧ wr.cell? ⟨m1, 6, none⟩ = some (.slice none 0 0) ∧ wr.cell? ⟨m1, 7, none⟩ = some (.slice none 0 0) :=
  ⟨h.n.cell 0, h.n.cell 2, h.n.cell 3, h.k.cell 0, h.k.cell 1, h.d.cell 0, h.d.cell 1, h.d.cell 2, h.d.cell 3, h.d.cell 4, h.d.cell 5, h.d.cell 6, h.d.cell 7⟩
/-- What has been written when the i-th round begins. -/
def segs (O K : ByteArray) : Nat → List Int
  | 0 => [123]
  | 1 => [123] ++ quoL O ++ [58] ++ bFalse
  | _ => [123] ++ quoL O ++ [58] ++ bFalse ++ [44] ++ quoL K ++ [58] ++ bTrue
theorem segs_all (O K : ByteArray) : segs O K 2 ++ [125] = exL O K := by simp [segs, exL, quoL, bFalse, bTrue]
theorem bytes_quo (s : ByteArray) : bytesOf (strOfNums (quoL s)) = quoL s := bytesOf_strOfNums _ (byt_quoL s)
theorem below_to {B : Nat} {w w1 w2 : World} (h : Below B w w1) (k : Below B w1 w2) : Below B w w2 := h.trans k
set_option maxHeartbeats 8000000 in
set_option maxRecDepth 100000 in
theorem printTo_obj (O K : ByteArray) (hO : O.size ≤ 5000) (hK : K.size ≤ 5000) (m0 m1 : Nat) (w : World) (h0 : Blk w m0 9 (nKeys O K)) (h1 : Blk w m1 25 nKids) :
    Calls Tryz.prog 43 #[.slice none 0 0, .agg (nSix m0 m1)] w (PtPost w.heap.size (exL O K) w) := by
  obtain ⟨W1, hW1⟩ : ∃ W1, W1 = w.alloc (.cells (nSix m0 m1) 25) := ⟨_, rfl⟩
  have hPK := Aside0.mk (show PK W1 w.heap.size m0 m1 O K by rw [hW1]; exact PK.mk (Blk.new w 25 (nSix m0 m1)) (h0.alloc _) (h1.alloc _))
  have hb0 := Aside0.mk (show Below w.heap.size w W1 by rw [hW1]; exact (Below.refl _ _).alloc (Nat.le_refl _) _)
  have HO1 := Aside0.mk (Kd.R_nil (Kd.int .u8) 5 W1 W1.heap.size (fun _ => True))
  have HB1 := Aside0.mk (Below.refl W1.heap.size W1)
  have cs := (PK.mk (Blk.new w 25 (nSix m0 m1)) (h0.alloc (.cells (nSix m0 m1) 25)) (h1.alloc _)).cells
  have hlO : (quoL O).length ≤ 2 + 6 * O.size := quoL_length O
  have hlK : (quoL K).length ≤ 2 + 6 * K.size := quoL_length K
  have hLq := Aside0.mk (And.intro hlO hlK)
  have CQ := fun (s : ByteArray) (hs : s.size ≤ 5000) wr => Lib.hid (quote_calls s (by omega) wr)
  have CF := fun v xs base wr h1 h2 h3 => Lib.hid (printTo_false v xs base wr h1 h2 h3)
  have CT := fun v xs base wr h1 h2 h3 => Lib.hid (printTo_true v xs base wr h1 h2 h3)
  clear h0 h1 hlO hlK
  obtain ⟨e0, e1, e2, e3, e4, e5, e6, e7, e8, e9, e10, e11, e12⟩ := cs
  unfold nSix
  go_enter Tryz.func43, Tryz.ntmps43
  clear e0 e1 e2 e3 e4 e5 e6 e7 e8 e9 e10 e11 e12
  have cs := hPK.out.cells
  obtain ⟨e0, e1, e2, e3, e4, e5, e6, e7, e8, e9, e10, e11, e12⟩ := cs
  have hW1' := Aside0.mk hW1
  clear hW1
  go_wp2_with (first | ((with_reducible show wpList _ _ _ (Oper.mk (some 7) (Op.fieldAddr 25 (Operand.tmp 3) 0) _ _ _ _ :: _) _ _); have hU := hW1'.out; unfold nSix at hU; rw [← hU]; clear hU) | (at_builtin; (refine ap8 (w0 := W1) W1.heap.size rfl (.tmp 61) (.tmp 62) rfl (.slice none 0 0) [] 123 rfl rfl HO1.out HB1.out (Nat.le_refl _) (by simp) ?_; intro v5 w5 ho hb; have HO5 := Aside0.mk ho; have HB5 := Aside0.mk hb; clear ho hb)))
  go_loopg [0, 6] 2 (fun kq v0 v6 wr => ∃ n : Nat, v6 = .int .i64 (n : Int) ∧ Aside0 (n + kq = 2) ∧ Aside0 (Kd.R (Kd.int .u8) 5 wr W1.heap.size (fun _ => True) v0 (segs O K n)) ∧ Aside0 (Below W1.heap.size W1 wr))
  case atStart => exact ⟨0, rfl, ⟨rfl⟩, HO5, HB5⟩
  case round =>
    clear HO5 HB5 HO1 HB1 e0 e1 e2 e3 e4 e5 e6 e7 e8 e9 e10 e11 e12
    obtain ⟨n, rfl, hk, HOq, HBq⟩ := hrel
    obtain ⟨e0, e1, e2, e3, e4, e5, e6, e7, e8, e9, e10, e11, e12⟩ := (hPK.out.below HBq.out).cells
    have hn : n = 0 ∨ n = 1 ∨ n = 2 := by have := hk.out; omega
    rcases hn with rfl | rfl | rfl
    · go_wp2_with (first | (go_at_call 73; refine ((CQ O hO _).out).mono ?_; rintro e w6 ⟨rfl, hb⟩; have HO6 := Aside0.mk (Kd.R_below HOq.out hb); have HB6 := Aside0.mk (below_then HBq.out (by have := HBq.out.size; omega) hb); clear hb) | (at_builtin; refine apS (w0 := W1) W1.heap.size rfl (.tmp 76) (.tmp 82) rfl _ (segs O K 0) (strOfNums (quoL O)) rfl rfl HO6.out HB6.out (by have := HB6.out.size; omega) (by have := hLq.out; simp [segs, bFalse, bTrue, strOfNums_size]; omega) ?_; intro v7 w7 ho hb; rw [bytes_quo] at ho; have HO7 := Aside0.mk ho; have HB7 := Aside0.mk hb; clear ho hb) | (at_builtin; refine ap8 (w0 := W1) W1.heap.size rfl (.tmp 83) (.tmp 84) rfl _ (segs O K 0 ++ quoL O) 58 rfl rfl HO7.out HB7.out (by have := HB7.out.size; omega) (by have := hLq.out; simp [segs, bFalse, bTrue]; omega) ?_; intro v8 w8 ho hb; have HO8 := Aside0.mk ho; have HB8 := Aside0.mk hb; obtain ⟨e0, e1, e2, e3, e4, e5, e6, e7, e8, e9, e10, e11, e12⟩ := (hPK.out.below hb).cells; clear ho hb) | (go_at_call 43; refine ((CF _ (segs O K 0 ++ quoL O ++ [58]) W1.heap.size _ HO8.out (by have := HB8.out.size; omega) (by have := hLq.out; simp [segs, bFalse, bTrue]; omega)).out).mono ?_; rintro e w9 ⟨v9, rfl, ho, hb⟩; have HO9 := Aside0.mk ho; have HB9 := Aside0.mk (below_to HB8.out hb); clear ho hb))
      go_roundg 1
      case measure => have := hk.out; omega
      case rel => exact ⟨1, rfl, ⟨rfl⟩, ⟨by have := HO9.out; simpa [segs] using this⟩, HB9⟩
    · go_wp2_with (first | (at_builtin; refine ap8 (w0 := W1) W1.heap.size rfl (.tmp 73) (.tmp 74) rfl _ (segs O K 1) 44 rfl rfl HOq.out HBq.out (by have := HBq.out.size; omega) (by have := hLq.out; simp [segs, bFalse, bTrue]; omega) ?_; intro v5 w5 ho hb; have HO5 := Aside0.mk ho; have HB5 := Aside0.mk hb; obtain ⟨e0, e1, e2, e3, e4, e5, e6, e7, e8, e9, e10, e11, e12⟩ := (hPK.out.below hb).cells; clear ho hb) | (go_at_call 73; refine ((CQ K hK _).out).mono ?_; rintro e w6 ⟨rfl, hb⟩; have HO6 := Aside0.mk (Kd.R_below HO5.out hb); have HB6 := Aside0.mk (below_then HB5.out (by have := HB5.out.size; omega) hb); clear hb) | (at_builtin; refine apS (w0 := W1) W1.heap.size rfl (.tmp 76) (.tmp 82) rfl _ (segs O K 1 ++ [44]) (strOfNums (quoL K)) rfl rfl HO6.out HB6.out (by have := HB6.out.size; omega) (by have := hLq.out; simp [segs, bFalse, bTrue, strOfNums_size]; omega) ?_; intro v7 w7 ho hb; rw [bytes_quo] at ho; have HO7 := Aside0.mk ho; have HB7 := Aside0.mk hb; clear ho hb) | (at_builtin; refine ap8 (w0 := W1) W1.heap.size rfl (.tmp 83) (.tmp 84) rfl _ (segs O K 1 ++ [44] ++ quoL K) 58 rfl rfl HO7.out HB7.out (by have := HB7.out.size; omega) (by have := hLq.out; simp [segs, bFalse, bTrue]; omega) ?_; intro v8 w8 ho hb; have HO8 := Aside0.mk ho; have HB8 := Aside0.mk hb; obtain ⟨e0, e1, e2, e3, e4, e5, e6, e7, e8, e9, e10, e11, e12⟩ := (hPK.out.below hb).cells; clear ho hb) | (go_at_call 43; refine ((CT _ (segs O K 1 ++ [44] ++ quoL K ++ [58]) W1.heap.size _ HO8.out (by have := HB8.out.size; omega) (by have := hLq.out; simp [segs, bFalse, bTrue]; omega)).out).mono ?_; rintro e w9 ⟨v9, rfl, ho, hb⟩; have HO9 := Aside0.mk ho; have HB9 := Aside0.mk (below_to HB8.out hb); clear ho hb))
      go_roundg 0
      case measure => have := hk.out; omega
      case rel => exact ⟨2, rfl, ⟨rfl⟩, ⟨by have := HO9.out; simpa [segs] using this⟩, HB9⟩
    · go_wp2_with (first | (at_builtin; refine ap8 (w0 := W1) W1.heap.size rfl (.tmp 93) (.tmp 94) rfl _ (segs O K 2) 125 rfl rfl HOq.out HBq.out (by have := HBq.out.size; omega) (by have := hLq.out; simp [segs, bFalse, bTrue]; omega) ?_; intro v8 w8 ho hb; have HO8 := Aside0.mk ho; have HB8 := Aside0.mk hb; obtain ⟨e0, e1, e2, e3, e4, e5, e6, e7, e8, e9, e10, e11, e12⟩ := (hPK.out.below hb).cells; clear ho hb))
      go_ret
      refine ⟨_, rfl, ?_, ?_⟩
      · have := Kd.R_lower HO8.out hb0.out.size
        rw [segs_all] at this
        exact this
      · exact hb0.out.trans (HB8.out.mono hb0.out.size)
set_option maxHeartbeats 8000000 in
set_option maxRecDepth 100000 in
theorem Print_obj (O K : ByteArray) (hO : O.size ≤ 5000) (hK : K.size ≤ 5000) (m0 m1 : Nat) (w : World) (h0 : Blk w m0 9 (nKeys O K)) (h1 : Blk w m1 25 nKids) :
    Calls Tryz.prog 18 #[.agg (nSix m0 m1)] w fun e w' => e = .returned (.string (strOfNums (exL O K))) ∧ Below w.heap.size w w' := by
  have C := Lib.hid (printTo_obj O K hO hK m0 m1 (w.alloc (.cells (nSix m0 m1) 25)) (h0.alloc _) (h1.alloc _))
  clear h0 h1
  unfold nSix at C ⊢
  go_enter Tryz.func18, Tryz.ntmps18
  go_wp2_with (first | (go_at_call 43; refine (C.out).mono ?_; rintro e w2 ⟨v2, rfl, ho, hb⟩; have hS := str8 ho; have HB2 := Aside0.mk hb; clear ho hb))
  go_ret
  exact ⟨rfl, below_then ((Below.refl w.heap.size w).alloc (Nat.le_refl _) _) (by simp) HB2.out⟩
end Go.Proofs.YtdolnkknlflmeaaGreatDoor.L
end
