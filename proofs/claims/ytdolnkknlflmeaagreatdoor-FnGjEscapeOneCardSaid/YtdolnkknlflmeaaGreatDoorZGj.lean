/-
  impl.gj, Exists, GjGet, GjEscape.
-/
import Derived.Test.YtdolnkknlflmeaaGreatDoorZGe1
namespace Go.Proofs.YtdolnkknlflmeaaGreatDoor.L
open Go.RowKit Go.Proofs.YtdolnkknlflmeaaGreatDoorW.PrintWords Go.Proofs.YtdolnkknlflmeaaGreatDoorW.PrintLast Go.Proofs.YtdolnkknlflmeaaGreatDoorW.PrintMore
set_option linter.unusedVariables false
set_option linter.unusedSimpArgs false

/-- Does a Result say that there is a value? -/
def exB (ty : Int) (raw : ByteArray) : Bool := !(decide (ty = 0)) || !(decide (raw.size = 0))
set_option maxRecDepth 100000 in
theorem exists_calls (ty : Int) (raw str : ByteArray) (num : Nat) (idx : Int) (x : Value) (w : World) :
    Calls Tryz.prog 61 #[.agg #[.int .i64 ty, .string raw, .string str, .float .f64 num, .int .i64 idx, x]] w fun e w' => e = .returned (.bool (exB ty raw)) ∧ Below w.heap.size w w' := by
  by_cases h : ty = 0
  · subst h
    by_cases h2 : raw.size = 0
    · have d : ((raw.size : Int) != 0) = false := bne_eq_false_iff_eq.mpr (by omega)
      have he : exB 0 raw = false := by simp [exB, h2]
      rw [he]
      clear h2 he
      go_enter Tryz.func61, Tryz.ntmps61
      go_wp2
      go_ret
      exact ⟨rfl, (Below.refl _ _).alloc (Nat.le_refl _) _⟩
    · have d : ((raw.size : Int) != 0) = true := bne_iff_ne.mpr (by omega)
      have he : exB 0 raw = true := by simp [exB, h2]
      rw [he]
      clear h2 he
      go_enter Tryz.func61, Tryz.ntmps61
      go_wp2
      go_ret
      exact ⟨rfl, (Below.refl _ _).alloc (Nat.le_refl _) _⟩
  · have d : (ty != 0) = true := bne_iff_ne.mpr h
    have he : exB ty raw = true := by simp [exB, h]
    rw [he]
    clear h he
    go_enter Tryz.func61, Tryz.ntmps61
    go_wp2
    go_ret
    exact ⟨rfl, (Below.refl _ _).alloc (Nat.le_refl _) _⟩
def zero32 : Array Value := #[.int .i64 0, .string ⟨#[]⟩, .string ⟨#[]⟩, .float .f64 0, .bool false]
theorem size32 : (Tryz.prog.info? 32).map (·.size) = some 5 := by kernel_rfl
/-- impl's Result. -/
def imC (ty : Int) (raw str : ByteArray) (num : Nat) (ex : Bool) : Array Value := #[.int .i64 ty, .string raw, .string str, .float .f64 num, .bool ex]
set_option maxHeartbeats 8000000 in
set_option maxRecDepth 100000 in
theorem gj_calls (ty : Int) (raw str : ByteArray) (num : Nat) (idx : Int) (w : World) :
    Calls Tryz.prog 36 #[gjV ty raw str num idx] w fun e w' => e = .returned (.agg (imC ty raw str num (exB ty raw))) ∧ Below w.heap.size w w' := by
  have C := fun wr => Lib.hid (exists_calls ty raw str num idx (.slice none 0 0) wr)
  unfold gjV
  go_enter Tryz.func36, Tryz.ntmps36
  go_wp2
  obtain ⟨W, hW⟩ : ∃ W, W = (w.alloc (.cells (gjC ty raw str num idx) 72)).alloc (.cells zero32 32) := ⟨_, rfl⟩
  have hA : Blk W w.heap.size 72 (gjC ty raw str num idx) := by rw [hW]; exact (Blk.new w 72 _).alloc _
  have hR : Blk W (w.heap.size + 1) 32 zero32 := by
    rw [hW]
    have := Blk.new (w.alloc (.cells (gjC ty raw str num idx) 72)) 32 zero32
    simpa using this
  have hB : Below w.heap.size w W := by rw [hW]; exact ((Below.refl _ _).alloc (Nat.le_refl _) _).alloc (by simp) _
  have hz : W.heap.size = w.heap.size + 2 := by rw [hW]; simp
  show Code.wp _ _ _ _ ((w.alloc (.cells (gjC ty raw str num idx) 72)).alloc (.cells zero32 32))
  rw [← hW]
  have hH := Aside0.mk (And.intro hA (And.intro hR (And.intro hB hz)))
  clear hW hB hR
  have c0 := hA.cell 0
  have c1 := hA.cell 1
  have c2 := hA.cell 2
  have c3 := hA.cell 3
  have c4 := hA.cell 4
  have c5 := hA.cell 5
  simp [gjC] at c0 c1 c2 c3 c4 c5
  clear hA hz
  obtain ⟨b0, hb0⟩ : ∃ b0, b0 = w.heap.size := ⟨_, rfl⟩
  rw [← hb0] at hH c0 c1 c2 c3 c4 c5 ⊢
  have hb0' := Aside0.mk hb0
  clear hb0
  go_region_held3 (fun w' => w'.cell? ⟨b0, 0, none⟩ = some (.int .i64 ty) ∧ w'.cell? ⟨b0, 1, none⟩ = some (.string raw) ∧ w'.cell? ⟨b0, 2, none⟩ = some (.string str) ∧ w'.cell? ⟨b0, 3, none⟩ = some (.float .f64 num) ∧ w'.cell? ⟨b0, 4, none⟩ = some (.int .i64 idx) ∧ w'.cell? ⟨b0, 5, none⟩ = some (.slice none 0 0))
    (go_keep)
    ((first | (go_at_call 61; refine ((C _).out).mono ?_; rintro e w1 ⟨rfl, h1⟩; have hH1 := Aside0.mk h1; have e0 := h1.cell (p := ⟨b0, 0, none⟩) (by have := hH.out.2.2.2; simp; omega); have e1 := h1.cell (p := ⟨b0, 1, none⟩) (by have := hH.out.2.2.2; simp; omega); have e2 := h1.cell (p := ⟨b0, 2, none⟩) (by have := hH.out.2.2.2; simp; omega); have e3 := h1.cell (p := ⟨b0, 3, none⟩) (by have := hH.out.2.2.2; simp; omega); have e4 := h1.cell (p := ⟨b0, 4, none⟩) (by have := hH.out.2.2.2; simp; omega); have e5 := h1.cell (p := ⟨b0, 5, none⟩) (by have := hH.out.2.2.2; simp; omega); have hR1 := hH.out.2.1.drew.below hH1.out (by have := hH.out.2.2.2; simp; omega); have r0 := hR1.cell 0; have r1 := hR1.cell 1; have r2 := hR1.cell 2; have r3 := hR1.cell 3; have r4 := hR1.cell 4; simp [zero32] at r0 r1 r2 r3 r4; have z0 := hR1.frozen 0; have z1 := hR1.frozen 1; have z2 := hR1.frozen 2; have z3 := hR1.frozen 3; have z4 := hR1.frozen 4; have hR1' := Aside0.mk hR1; clear hR1; clear h1)))
  go_wp2
  refine bodyPost_ret (results_blk (p := 2) rfl _ _ (b0 + 1) 32 (imC ty raw str num (exB ty raw)) _ rfl (((((hR1'.out.set_ 0 _).set_ 1 _).set_ 2 _).set_ 3 _).set_ 4 _) Tryz.underlying32 rfl size32) rfl ?_
  have hB1 : Below b0 w w1 := below_then hH.out.2.2.1.drew (by have := hH.out.2.2.2; simp; omega) hH1.out
  refine ⟨rfl, ?_⟩
  rw [← hb0'.out]
  exact ((((hB1.setCell (by simp) _).setCell (by simp) _).setCell (by simp) _).setCell (by simp) _).setCell (by simp) _
set_option maxRecDepth 100000 in
theorem GjEscape_calls (s : ByteArray) (hs : s.size ≤ 1000000) (w : World) : Calls Tryz.prog 19 #[.string s] w fun e w' => e = .returned (.string (escS s)) ∧ Below w.heap.size w w' := by
  have C := fun wr => Lib.hid (Escape_calls s wr hs)
  go_enter Tryz.func19, Tryz.ntmps19
  go_wp2_with (first | (go_at_call 44; refine ((C _).out).mono ?_; rintro e w1 ⟨rfl, h1⟩; have hH1 := Aside0.mk h1; clear h1))
  go_ret
  exact ⟨rfl, hH1.out⟩
/-- GjGet, given Get. -/
def GgPost (R : Int → ByteArray → ByteArray → Nat → Prop) (w : World) (e : Ending) (w' : World) : Prop := ∃ ty raw str num, e = .returned (.agg (imC ty raw str num (exB ty raw))) ∧ R ty raw str num ∧ Below w.heap.size w w'
set_option maxHeartbeats 8000000 in
set_option maxRecDepth 100000 in
theorem GjGet_of (s p : ByteArray) (w : World) (R : Int → ByteArray → ByteArray → Nat → Prop) (hG : ∀ wr, Below w.heap.size w wr → Calls Tryz.prog 37 #[.string s, .string p] wr fun e w' => ∃ ty raw str num idx, e = .returned (gjV ty raw str num idx) ∧ R ty raw str num ∧ Below wr.heap.size wr w') :
    Calls Tryz.prog 11 #[.string s, .string p] w (GgPost R w) := by
  have C := Lib.hid (hG (w.alloc (.cells zero32 32)) ((Below.refl _ _).alloc (Nat.le_refl _) _))
  have D := fun ty raw str num idx wr => Lib.hid (gj_calls ty raw str num idx wr)
  clear hG
  go_enter Tryz.func11, Tryz.ntmps11
  go_wp2_with (first | (go_at_call 37; refine ((C).out).mono ?_; rintro e w1 ⟨ty, raw, str, num, idx, rfl, hR, h1⟩; have hR' := Aside0.mk hR; have hH1 := Aside0.mk h1; clear h1 hR) | (go_at_call 36; refine ((D _ _ _ _ _ _).out).mono ?_; rintro e w2 ⟨rfl, h2⟩; have hH2 := Aside0.mk h2; clear h2) | ((with_reducible show wpList _ _ _ (Oper.mk none (Op.store 32 (Operand.tmp 4) (Operand.tmp 8)) _ _ _ _ :: _) _ _); refine wpList_store_blk rfl 32 (.tmp 4) (.tmp 8) rfl w.heap.size (imC ty raw str num (exB ty raw)) rfl rfl 32 zero32 ?hbk size32 rfl rfl ?_; (case hbk => exact ((Blk.new w 32 zero32).below hH1.out (by simp)).below hH2.out (by have := hH1.out.size; simp at this; omega)); intro w3 hK3 hg3))
  refine bodyPost_ret (results_blk (p := 4) rfl _ _ w.heap.size 32 (imC ty raw str num (exB ty raw)) _ rfl hK3 Tryz.underlying32 rfl size32) rfl ?_
  have hB0 : Below w.heap.size w (w.alloc (.cells zero32 32)) := (Below.refl _ _).alloc (Nat.le_refl _) _
  have hB1 := below_then hB0 hB0.size hH1.out
  have hB2 := below_then hB1 hB1.size hH2.out
  exact ⟨ty, raw, str, num, rfl, hR'.out, hB2.grown hg3 hB2.size (fun k hk => by injection hk with hk; omega)⟩
end Go.Proofs.YtdolnkknlflmeaaGreatDoor.L
