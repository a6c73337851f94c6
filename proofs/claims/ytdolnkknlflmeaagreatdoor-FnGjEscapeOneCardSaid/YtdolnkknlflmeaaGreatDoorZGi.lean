/-
  gjIs at a hit that says true.
-/
import Derived.Test.YtdolnkknlflmeaaGreatDoorZPl
import Derived.Test.YtdolnkknlflmeaaGreatDoorZLx6
import Derived.Test.YtdolnkknlflmeaaGreatDoorZGj
namespace Go.Proofs.YtdolnkknlflmeaaGreatDoor.L
open Go.RowKit Go.Proofs.YtdolnkknlflmeaaGreatDoorW.PrintWords Go.Proofs.YtdolnkknlflmeaaGreatDoorW.PrintLast Go.Proofs.YtdolnkknlflmeaaGreatDoorW.PrintMore
set_option linter.unusedVariables false
set_option linter.unusedSimpArgs false

set_option maxRecDepth 100000 in
theorem gjKind_two (w : World) : Calls Tryz.prog 39 #[.int .i64 2] w fun e w' => e = .returned (.int .i64 4) ∧ Below w.heap.size w w' := by
  go_enter Tryz.func39, Tryz.ntmps39
  go_wp2
  go_ret
  exact ⟨rfl, Below.refl _ _⟩
theorem C_none {α : Type} (d : Kd α) (w : World) (A : Option Addr) : d.C w A 0 ([] : List α) := ⟨rfl, by omega, fun h => absurd h (by omega)⟩
theorem Same_two (w : World) (A2 A3 B2 B3 : Option Addr) (c2 c3 d2 d3 : Nat) : Calls Tryz.prog 40 #[.agg #[.int .i64 2, .string ⟨#[]⟩, .slice A2 0 c2, .slice A3 0 c3], .agg #[.int .i64 2, .string ⟨#[]⟩, .slice B2 0 d2, .slice B3 0 d3]] w fun e w' => e = .returned (.bool true) ∧ Below w.heap.size w w' := by
  refine spec_Same.calls 5 2 ⟨#[]⟩ A2 c2 [] A3 c3 [] 2 ⟨#[]⟩ B2 d2 [] B3 d3 [] true w (C_none _ _ _) (by simp) (C_none _ _ _) (by simp) (C_none _ _ _) (by simp) (C_none _ _ _) (by simp) ?_
  simp [spec_Same.f, spec_Same.j0, spec_Same.l0, spec_Same.l1]
def nTwo : Array Value := #[.int .i64 2, .string ⟨#[]⟩, .slice none 0 0, .slice none 0 0]
set_option maxHeartbeats 8000000 in
set_option maxRecDepth 100000 in
theorem gjIs_true (s str : ByteArray) (num : Nat) (hR : ∀ wr, Calls Tryz.prog 38 #[.string s] wr (RdPost ⟨2, ⟨#[]⟩, [], []⟩ wr)) (w : World) :
    Calls Tryz.prog 13 #[.agg (imC 4 s str num true), .agg nTwo] w fun e w' => e = .returned (.bool true) ∧ Below w.heap.size w w' := by
  have C1 := fun wr => Lib.hid (hR wr)
  have C2 := fun wr => Lib.hid (gjKind_two wr)
  have C3 := fun wr A2 A3 B2 B3 c2 c3 d2 d3 => Lib.hid (Same_two wr A2 A3 B2 B3 c2 c3 d2 d3)
  unfold imC nTwo
  clear hR
  go_enter Tryz.func13, Tryz.ntmps13
  go_wp2_with (first
    | (go_at_call 38; refine ((C1 _).out).mono ?_; rintro e w1 ⟨u2, u3, rfl, h2, h3, hb⟩; obtain ⟨A2, c2, rfl, hc2, hC2⟩ := Kd.R_reads h2; obtain ⟨A3, c3, rfl, hc3, hC3⟩ := Kd.R_reads h3; have hb1 := Aside0.mk hb; clear h2 h3 hc2 hc3 hC2 hC3 hb))
  obtain ⟨W, hW⟩ : ∃ W, W = w1.alloc (.cells #[.int .i64 2, .string ⟨#[]⟩, .slice A2 0 c2, .slice A3 0 c3] 25) := ⟨_, rfl⟩
  have hA : Blk W w.heap.size 32 #[.int .i64 4, .string s, .string str, .float .f64 num, .bool true] := by
    rw [hW]
    exact (((Blk.new w 32 _).alloc _).below hb1.out (by simp; omega)).alloc _
  have hB : Blk W (w.heap.size + 1) 25 nTwo := by
    rw [hW]
    have := Blk.new (w.alloc (.cells #[.int .i64 4, .string s, .string str, .float .f64 num, .bool true] 32)) 25 nTwo
    have h2 := (this.below hb1.out (by simp)).alloc (.cells #[.int .i64 2, .string ⟨#[]⟩, .slice A2 0 c2, .slice A3 0 c3] 25)
    simpa using h2
  have hC : Blk W w1.heap.size 25 #[.int .i64 2, .string ⟨#[]⟩, .slice A2 0 c2, .slice A3 0 c3] := by rw [hW]; exact Blk.new _ _ _
  have hD : Below w.heap.size w W := by
    rw [hW]
    have h0 : Below w.heap.size w ((w.alloc (.cells #[.int .i64 4, .string s, .string str, .float .f64 num, .bool true] 32)).alloc (.cells nTwo 25)) := ((Below.refl _ _).alloc (Nat.le_refl _) _).alloc (by simp) _
    have h1 := below_then h0 h0.size hb1.out
    exact h1.alloc h1.size _
  have hz : w.heap.size + 1 < w1.heap.size ∧ w1.heap.size < W.heap.size := ⟨by have := hb1.out.size; simp at this; omega, hC.lt⟩
  show Code.wp _ _ _ _ (w1.alloc (.cells #[.int .i64 2, .string ⟨#[]⟩, .slice A2 0 c2, .slice A3 0 c3] 25))
  rw [← hW]
  clear hW hb1
  obtain ⟨b2, hb2⟩ : ∃ b2, b2 = w1.heap.size := ⟨_, rfl⟩
  rw [← hb2] at hC hz ⊢
  clear hb2
  have x0 := hA.cell 0
  have x4 := hA.cell 4
  have y0 := hB.cell 0
  have y1 := hB.cell 1
  have y2 := hB.cell 2
  have y3 := hB.cell 3
  have t0 := hC.cell 0
  have t1 := hC.cell 1
  have t2 := hC.cell 2
  have t3 := hC.cell 3
  simp [nTwo] at x0 x4 y0 y1 y2 y3 t0 t1 t2 t3
  have hH := Aside0.mk (And.intro hD hz)
  clear hA hB hC hD hz
  obtain ⟨b0, hb0⟩ : ∃ b0, b0 = w.heap.size := ⟨_, rfl⟩
  rw [← hb0] at hH x0 x4 y0 y1 y2 y3 ⊢
  have hb0' := Aside0.mk hb0
  clear hb0
  have dB : Below b0 w W.drew := hH.out.1.drew
  have dz : Below (b2 + 1) W W.drew := (Below.refl (b2 + 1) W).drew
  go_region_held3 (fun w' => w'.cell? ⟨b0, 0, none⟩ = some (.int .i64 4) ∧ w'.cell? ⟨b0, 4, none⟩ = some (.bool true) ∧ w'.cell? ⟨b0 + 1, 0, none⟩ = some (.int .i64 2) ∧ w'.cell? ⟨b0 + 1, 1, none⟩ = some (.string ⟨#[]⟩) ∧ w'.cell? ⟨b0 + 1, 2, none⟩ = some (.slice none 0 0) ∧ w'.cell? ⟨b0 + 1, 3, none⟩ = some (.slice none 0 0) ∧ w'.cell? ⟨b2, 0, none⟩ = some (.int .i64 2) ∧ w'.cell? ⟨b2, 1, none⟩ = some (.string ⟨#[]⟩) ∧ w'.cell? ⟨b2, 2, none⟩ = some (.slice A2 0 c2) ∧ w'.cell? ⟨b2, 3, none⟩ = some (.slice A3 0 c3) ∧ Below b0 w w' ∧ Below (b2 + 1) W w')
    (go_keep)
    ((first | (go_at_call 39; refine ((C2 _).out).mono ?_; rintro e w2 ⟨rfl, h1⟩; have lz := dz; have x0a := (h1.cell (p := ⟨b0, 0, none⟩) (by have := hH.out.2; have := lz.size; simp at this ⊢; omega)).trans x0; have x4a := (h1.cell (p := ⟨b0, 4, none⟩) (by have := hH.out.2; have := lz.size; simp at this ⊢; omega)).trans x4; have y0a := (h1.cell (p := ⟨b0 + 1, 0, none⟩) (by have := hH.out.2; have := lz.size; simp at this ⊢; omega)).trans y0; have y1a := (h1.cell (p := ⟨b0 + 1, 1, none⟩) (by have := hH.out.2; have := lz.size; simp at this ⊢; omega)).trans y1; have y2a := (h1.cell (p := ⟨b0 + 1, 2, none⟩) (by have := hH.out.2; have := lz.size; simp at this ⊢; omega)).trans y2; have y3a := (h1.cell (p := ⟨b0 + 1, 3, none⟩) (by have := hH.out.2; have := lz.size; simp at this ⊢; omega)).trans y3; have t0a := (h1.cell (p := ⟨b2, 0, none⟩) (by have := hH.out.2; have := lz.size; simp at this ⊢; omega)).trans t0; have t1a := (h1.cell (p := ⟨b2, 1, none⟩) (by have := hH.out.2; have := lz.size; simp at this ⊢; omega)).trans t1; have t2a := (h1.cell (p := ⟨b2, 2, none⟩) (by have := hH.out.2; have := lz.size; simp at this ⊢; omega)).trans t2; have t3a := (h1.cell (p := ⟨b2, 3, none⟩) (by have := hH.out.2; have := lz.size; simp at this ⊢; omega)).trans t3; have dBa := below_then dB (by have := hH.out.2; have := lz.size; simp at this ⊢; omega) h1; have dza := below_then dz (by have := hH.out.2; have := lz.size; simp at this ⊢; omega) h1; clear lz; clear h1) | (go_at_call 40; refine ((C3 _ _ _ _ _ _ _ _ _).out).mono ?_; rintro e w3 ⟨rfl, h1⟩; have lz := dza; have x0b := (h1.cell (p := ⟨b0, 0, none⟩) (by have := hH.out.2; have := lz.size; simp at this ⊢; omega)).trans x0a; have x4b := (h1.cell (p := ⟨b0, 4, none⟩) (by have := hH.out.2; have := lz.size; simp at this ⊢; omega)).trans x4a; have y0b := (h1.cell (p := ⟨b0 + 1, 0, none⟩) (by have := hH.out.2; have := lz.size; simp at this ⊢; omega)).trans y0a; have y1b := (h1.cell (p := ⟨b0 + 1, 1, none⟩) (by have := hH.out.2; have := lz.size; simp at this ⊢; omega)).trans y1a; have y2b := (h1.cell (p := ⟨b0 + 1, 2, none⟩) (by have := hH.out.2; have := lz.size; simp at this ⊢; omega)).trans y2a; have y3b := (h1.cell (p := ⟨b0 + 1, 3, none⟩) (by have := hH.out.2; have := lz.size; simp at this ⊢; omega)).trans y3a; have t0b := (h1.cell (p := ⟨b2, 0, none⟩) (by have := hH.out.2; have := lz.size; simp at this ⊢; omega)).trans t0a; have t1b := (h1.cell (p := ⟨b2, 1, none⟩) (by have := hH.out.2; have := lz.size; simp at this ⊢; omega)).trans t1a; have t2b := (h1.cell (p := ⟨b2, 2, none⟩) (by have := hH.out.2; have := lz.size; simp at this ⊢; omega)).trans t2a; have t3b := (h1.cell (p := ⟨b2, 3, none⟩) (by have := hH.out.2; have := lz.size; simp at this ⊢; omega)).trans t3a; have dBb := below_then dBa (by have := hH.out.2; have := lz.size; simp at this ⊢; omega) h1; have dzb := below_then dza (by have := hH.out.2; have := lz.size; simp at this ⊢; omega) h1; clear lz; clear h1)))
  have n4 : ((2:Int) != 4) = true := by decide
  go_wp2
  go_ret
  exact ⟨rfl, hb0'.out ▸ dBb⟩
end Go.Proofs.YtdolnkknlflmeaaGreatDoor.L
