/-
  spec.Places and spec.Read at a text that is one value.
-/
import Derived.Test.YtdolnkknlflmeaaGreatDoorZVv
import Derived.Test.YtdolnkknlflmeaaGreatDoorZLx4
namespace Go.Proofs.YtdolnkknlflmeaaGreatDoor.L
open Go.RowKit Go.Proofs.YtdolnkknlflmeaaGreatDoorW.PrintWords Go.Proofs.YtdolnkknlflmeaaGreatDoorW.PrintLast Go.Proofs.YtdolnkknlflmeaaGreatDoorW.PrintMore
set_option linter.unusedVariables false
set_option linter.unusedSimpArgs false

def zz48 : Array Value := #[.int .i64 0, .int .i64 0, .int .i64 0, .slice none 0 0, .slice none 0 0]
def PlPost (P : S48) (w : World) (e : Ending) (w' : World) : Prop := ∃ v3 v4 : Value, e = .returned (.tuple #[.agg #[.int .i64 P.f0, .int .i64 P.f1, .int .i64 P.f2, v3, v4], .bool true]) ∧
    Kd.R k84 84 w' w.heap.size (fun _ => True) v3 P.f3 ∧ Kd.R k48 48 w' w.heap.size (fun j => some j ≠ v3.ownBlock) v4 P.f4 ∧ Below w.heap.size w w'

theorem R_end' {α : Type} {d : Kd α} {e base B : Nat} {ok : Nat → Prop} {v : Value} {xs : List α} {w w1 : World} (h : d.R e w base ok v xs) (hg : w.grownBy w1 (some B)) (hB : B < base) : d.R e w1 base ok v xs :=
  Kd.R_mono (Kd.R_grown (Kd.R_bound h) hg (fun k hk => by have := hk.2.1; intro e; injection e with e; omega)) (fun _ hk => hk.1)
set_option maxHeartbeats 8000000 in
set_option maxRecDepth 100000 in
theorem Places_ok (k : Nat) (s s1 s2 : ByteArray) (a1 a2 : Int) (P : S48) (w : World) (f1 : spec_reader_blanks.f k s 0 = some (s1, a1)) (f2 : rv k s1 a1 = some (P, true, s2, a2)) (f3 : spec_reader_blanks.f k s2 a2 = some (s, (s.size : Int))) :
    Calls Tryz.prog 46 #[.string s] w (PlPost P w) := by
  have C1 : ∀ {W wr}, RS w W (w.heap.size + 1) s 0 wr → Hid _ := fun h => Lib.hid (blanks_rs h f1)
  have C2 : ∀ {W wr}, RS w W (w.heap.size + 1) s1 a1 wr → Hid _ := fun h => Lib.hid (value_rs (reader_all k).1 h f2)
  have C3 : ∀ {W wr}, RS w W (w.heap.size + 1) s2 a2 wr → Hid _ := fun h => Lib.hid (blanks_rs h f3)
  clear f1 f2 f3
  have n0 : ((s.size : Int) != (s.size : Int)) = false := bne_eq_false_iff_eq.mpr rfl
  obtain ⟨W, hW⟩ : ∃ W, W = (w.alloc (.cells zz48 48)).alloc (.cells #[.string s, .int .i64 0] 120) := ⟨_, rfl⟩
  have hR0 : Blk W w.heap.size 48 zz48 := by rw [hW]; exact heap_alloc2_old _ _ _
  have hS : RS w W (w.heap.size + 1) s 0 W := by
    have hB1 : Below w.heap.size w (w.alloc (.cells zz48 48)) := (Below.refl _ _).alloc (Nat.le_refl _) _
    rw [hW]
    have := IsS120.new w (w.alloc (.cells zz48 48)) s 0 hB1
    refine RS.start (by simpa using this) (hB1.alloc (by simp) _)
  have hz : W.heap.size = w.heap.size + 2 := by rw [hW]; simp
  have hR0' := Aside0.mk hR0
  have hS' := Aside0.mk hS
  have hz' := Aside0.mk hz
  have hW' := Aside0.mk hW
  clear hR0 hS hz hW
  go_enter Tryz.func46, Tryz.ntmps46
  go_wp2_with (first
    | (go_at_call 75; have hU := hW'.out; unfold zz48 at hU; rw [← hU]; refine ((C1 hS'.out).out).mono ?_; rintro e w1 ⟨rfl, r, kb⟩; have q1 := Aside0.mk r; have kb1 := Aside0.mk kb; clear r kb hU)
    | (go_at_call 76; refine ((C2 q1.out).out).mono ?_; rintro e w2 ⟨v3, v4, rfl, h3, h4, r, kb⟩; have q2 := Aside0.mk r; have kb2 := Aside0.mk kb; obtain ⟨A3, c3, rfl, hc3, hC3⟩ := Kd.R_reads h3; obtain ⟨A4, c4, rfl, hc4, hC4⟩ := Kd.R_reads h4; clear hc3 hC3 hc4 hC4; have h3' := Aside0.mk h3; have h4' := Aside0.mk h4; clear r kb h3 h4)
    | (go_at_call 75; refine ((C3 (q2.out.alloc (.cells #[.int .i64 P.f0, .int .i64 P.f1, .int .i64 P.f2, .slice A3 P.f3.length c3, .slice A4 P.f4.length c4] 48))).out).mono ?_; rintro e w3 ⟨rfl, r, kb⟩; have q3 := Aside0.mk r; have kb3 := Aside0.mk kb; clear r kb; have k1 := q3.out.c1; have hL : Blk w3 w2.heap.size 48 #[.int .i64 P.f0, .int .i64 P.f1, .int .i64 P.f2, .slice A3 P.f3.length c3, .slice A4 P.f4.length c4] := kb3.out.blk (heap_alloc_new w2 _) (by have := q2.out.is.lt; omega) (by simp); have d0 := hL.cell 0; have d1 := hL.cell 1; have d2 := hL.cell 2; have d3 := hL.cell 3; have d4 := hL.cell 4; simp at d0 d1 d2 d3 d4; clear hL)
    | ((with_reducible show wpList _ _ _ (Oper.mk none (Op.store 48 (Operand.tmp 2) (Operand.tmp 24)) _ _ _ _ :: _) _ _); have hZ : Blk w3 w.heap.size 48 zz48 := (kb3.out.blk (Blk.alloc (kb2.out.blk (kb1.out.blk hR0'.out (by omega) (by simp)) (by omega) (by simp)) _) (by omega) (by simp)); refine wpList_store_blk rfl 48 (.tmp 2) (.tmp 24) rfl w.heap.size #[.int .i64 P.f0, .int .i64 P.f1, .int .i64 P.f2, .slice A3 P.f3.length c3, .slice A4 P.f4.length c4] rfl rfl 48 _ hZ size48 rfl rfl ?_; clear hZ; intro w9 hB9 hg9; have h9 := Aside0.mk hg9; clear hg9))
  refine bodyPost_ret (results_blk_tmp (p := 2) (q := 3) rfl _ _ w.heap.size 48 _ _ rfl hB9 Tryz.underlying48 rfl size48) rfl ?_
  have hs1 := q1.out.size
  have hs2 := kb2.out.1
  have hs := hz'.out
  have g3 := R_rs (Kd.R_below h3'.out ((Below.refl _ _).alloc (Nat.le_refl _) _)) (q2.out.alloc _).is not120_84 kb3.out
  have g4 := R_rs (Kd.R_below h4'.out ((Below.refl _ _).alloc (Nat.le_refl _) _)) (q2.out.alloc _).is not120_48 kb3.out
  refine ⟨_, _, rfl, Kd.R_lower (R_end' g3 h9.out (by omega)) (by omega), Kd.R_lower (R_end' g4 h9.out (by omega)) (by omega), q3.out.below.grown h9.out q3.out.below.size (fun k hk => by injection hk with hk; omega)⟩
def zz25 : Array Value := #[.int .i64 0, .string ⟨#[]⟩, .slice none 0 0, .slice none 0 0]
theorem size25' : (Tryz.prog.info? 25).map (·.size) = some 4 := by kernel_rfl
def RdPost (T : S25) (w : World) (e : Ending) (w' : World) : Prop := ∃ v2 v3 : Value, e = .returned (.tuple #[.agg #[.int .i64 T.f0, .string T.f1, v2, v3], .bool true]) ∧
    Kd.R Kd.string 9 w' w.heap.size (fun _ => True) v2 T.f2 ∧ Kd.R k25 25 w' w.heap.size (fun j => some j ≠ v2.ownBlock) v3 T.f3 ∧ Below w.heap.size w w'
set_option maxHeartbeats 8000000 in
set_option maxRecDepth 100000 in
theorem Read_ok (k : Nat) (s s1 s2 : ByteArray) (a1 a2 : Int) (P : S48) (T : S25) (w : World) (f1 : spec_reader_blanks.f k s 0 = some (s1, a1)) (f2 : rv k s1 a1 = some (P, true, s2, a2)) (f3 : spec_reader_blanks.f k s2 a2 = some (s, (s.size : Int)))
    (f4 : spec_Tree.f k s P.f0 P.f1 P.f2 P.f3 P.f4 = some (T.f0, T.f1, T.f2, T.f3)) :
    Calls Tryz.prog 38 #[.string s] w (RdPost T w) := by
  have C1 := fun wr => Lib.hid (Places_ok k s s1 s2 a1 a2 P wr f1 f2 f3)
  have C2 := fun A3 c3 A4 c4 wr h3 g3 h4 g4 => Lib.hid (spec_Tree.calls k s P.f0 P.f1 P.f2 A3 c3 P.f3 A4 c4 P.f4 T.f0 T.f1 T.f2 T.f3 wr h3 g3 h4 g4 f4)
  clear f1 f2 f3 f4
  go_enter Tryz.func38, Tryz.ntmps38
  go_wp2_with (first
    | (go_at_call 46; refine ((C1 _).out).mono ?_; rintro e w1 ⟨v3, v4, rfl, h3, h4, hb⟩; obtain ⟨A3, c3, rfl, hc3, hC3⟩ := Kd.R_reads h3; obtain ⟨A4, c4, rfl, hc4, hC4⟩ := Kd.R_reads h4; clear h3 h4; have hC3' := Aside0.mk hC3; have hC4' := Aside0.mk hC4; have hc3' := Aside0.mk hc3; have hc4' := Aside0.mk hc4; have hb1 := Aside0.mk hb; clear hC3 hC4 hc3 hc4 hb)
    | (go_at_call 23; refine ((C2 _ _ _ _ _ (Kd.C_below hC3'.out ((Below.refl _ _).alloc (Nat.le_refl _) _)) hc3'.out (Kd.C_below hC4'.out ((Below.refl _ _).alloc (Nat.le_refl _) _)) hc4'.out).out).mono ?_; rintro e w2 ⟨u2, u3, rfl, h2, h3, hb⟩; obtain ⟨A2, c2, rfl, hc2, hC2⟩ := Kd.R_reads h2; obtain ⟨A5, c5, rfl, hc5, hC5⟩ := Kd.R_reads h3; clear hC2 hC5 hc2 hc5; have h2' := Aside0.mk h2; have h3' := Aside0.mk h3; have hb2 := Aside0.mk hb; clear h2 h3 hb)
    | ((with_reducible show wpList _ _ _ (Oper.mk none (Op.store 25 (Operand.tmp 2) (Operand.tmp 16)) _ _ _ _ :: _) _ _); have hZ : Blk w2 w.heap.size 25 zz25 := (Blk.alloc ((Blk.new w 25 zz25).below hb1.out (by simp)) _).below hb2.out (by have := hb1.out.size; simp at this ⊢; omega); refine wpList_store_blk rfl 25 (.tmp 2) (.tmp 16) rfl w.heap.size #[.int .i64 T.f0, .string T.f1, .slice A2 T.f2.length c2, .slice A5 T.f3.length c5] rfl rfl 25 _ hZ size25' rfl rfl ?_; clear hZ; intro w9 hB9 hg9; have h9 := Aside0.mk hg9; clear hg9))
  refine bodyPost_ret (results_blk_tmp (p := 2) (q := 3) rfl _ _ w.heap.size 25 _ _ rfl hB9 Tryz.underlying25 rfl size25') rfl ?_
  have hs1 := hb1.out.size
  have hs2 := hb2.out.size
  simp at hs1 hs2
  have g2 := R_end' h2'.out h9.out (by simp; omega)
  have g3 := R_end' h3'.out h9.out (by simp; omega)
  have hB0 : Below w.heap.size w (w.alloc (.cells zz25 25)) := (Below.refl _ _).alloc (Nat.le_refl _) _
  have hB1 := below_then hB0 hB0.size hb1.out
  have hB2 := below_then (hB1.alloc hB1.size _) (Nat.le_trans hB1.size (by simp)) hb2.out
  exact ⟨_, _, rfl, Kd.R_lower g2 (by simp; omega), Kd.R_lower g3 (by simp; omega), hB2.grown h9.out hB2.size (fun k hk => by injection hk with hk; omega)⟩
end Go.Proofs.YtdolnkknlflmeaaGreatDoor.L
