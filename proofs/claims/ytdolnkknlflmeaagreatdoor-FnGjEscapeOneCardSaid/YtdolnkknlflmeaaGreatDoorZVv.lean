/-
  Walk of the reader's value, given members and elements at fewer rounds.
-/
import Derived.Test.YtdolnkknlflmeaaGreatDoorZVm
import Derived.Test.YtdolnkknlflmeaaGreatDoorZKit
namespace Go.Proofs.YtdolnkknlflmeaaGreatDoor.L
open Go.RowKit Go.Proofs.YtdolnkknlflmeaaGreatDoorW.PrintWords Go.Proofs.YtdolnkknlflmeaaGreatDoorW.PrintLast Go.Proofs.YtdolnkknlflmeaaGreatDoorW.PrintMore
set_option linter.unusedVariables false
set_option linter.unusedSimpArgs false

theorem RS.far {w0 w wr : World} {g : Nat} {s : ByteArray} {at_ : Int} (h : RS w0 w g s at_ wr) {b i : Nat} (hb : w.heap.size ≤ b) (hg : b ≠ g) (hw : w0.heap.size ≤ w.heap.size) (u : Value) : RS w0 w g s at_ (wr.setCell ⟨b, i, none⟩ u) :=
  ⟨⟨(Blk.far (t := 120) h.is.1 (p := ⟨b, i, none⟩) (fun e => hg e.symm) u), h.is.2⟩, h.below.setCell (Nat.le_trans hw hb) u, ⟨by simpa [World.setCell] using h.keep.1, fun j hj hne hr => (Below.heap_setCell wr ⟨b, i, none⟩ u j (by show j ≠ b; omega)).trans (h.keep.2 j hj hne hr)⟩⟩
theorem results_blk_tmp {P : Program} {fn : Func} {p q : Tmp} {ty : TypeId} (h : fn.results = #[.cell p ty, .tmp q]) (tmps : Array Value) (w : World) (g : Nat) (t : TypeId) (cs : Array Value) (d : TypeDesc)
    (hp : tmps.getD p undef = .pointer (some ⟨g, 0, none⟩)) (hg : Blk w g t cs) (hu : P.underlying ty = some d) (hd : (match d with | .struct _ | .array _ _ => true | _ => false) = true) (hi : (P.info? ty).map (·.size) = some cs.size) :
    (results fn tmps).run P w = .ok (.tuple #[.agg cs, tmps.getD q undef]) w := by
  have hp' : tmps[p]?.getD undef = .pointer (some ⟨g, 0, none⟩) := by simpa using hp
  simp [results, h, hp', asAddr, run_loadVar_row w g t ty cs (0, 0) d hg hu hd hi]
theorem size48 : (Tryz.prog.info? 48).map (·.size) = some 5 := by kernel_rfl

/-- The reader's state, the local place (block n + 1) and the result's place (block n), n the heap's size when the call began. -/
structure PS (w0 w : World) (g : Nat) (s : ByteArray) (at_ : Int) (c0 c1 c2 c3 c4 : Value) (wr : World) : Prop where
  rs : RS w0 w g s at_ wr
  p : Blk wr (w.heap.size + 1) 48 #[c0, c1, c2, c3, c4]
  z : Blk wr w.heap.size 48 #[.int .i64 0, .int .i64 0, .int .i64 0, .slice none 0 0, .slice none 0 0]
  hg : g < w.heap.size
section
variable {w0 w wr w1 : World} {g : Nat} {s s' : ByteArray} {at_ at' : Int} {c0 c1 c2 c3 c4 : Value}
theorem PS.start (h : RS w0 w g s at_ w) (u0 u1 u2 u3 u4 : Value) : PS w0 w g s at_ u0 u1 u2 u3 u4 ((w.alloc (.cells #[.int .i64 0, .int .i64 0, .int .i64 0, .slice none 0 0, .slice none 0 0] 48)).alloc (.cells #[u0, u1, u2, u3, u4] 48)) :=
  ⟨(h.alloc _).alloc _, heap_alloc2_new _ _ _, heap_alloc2_old _ _ _, h.is.lt⟩
theorem PS.step (h : PS w0 w g s at_ c0 c1 c2 c3 c4 wr) (r : RS w0 w g s' at' w1) (kb : KeepBut wr w1 g none) : PS w0 w g s' at' c0 c1 c2 c3 c4 w1 :=
  ⟨r, kb.blk (g' := w.heap.size + 1) h.p (by have := h.hg; omega) (by simp), kb.blk (g' := w.heap.size) h.z (by have := h.hg; omega) (by simp), h.hg⟩
theorem PS.far (h : PS w0 w g s at_ c0 c1 c2 c3 c4 wr) (hw : w0.heap.size ≤ w.heap.size) (i : Nat) (u : Value) : RS w0 w g s at_ (wr.setCell ⟨w.heap.size + 1, i, none⟩ u) := h.rs.far (by omega) (by have := h.hg; omega) hw u
theorem PS.set0 (h : PS w0 w g s at_ c0 c1 c2 c3 c4 wr) (hw : w0.heap.size ≤ w.heap.size) (u : Value) : PS w0 w g s at_ u c1 c2 c3 c4 (wr.setCell ⟨w.heap.size + 1, 0, none⟩ u) := ⟨h.far hw 0 u, h.p.set_ 0 u, h.z.far (by simp) u, h.hg⟩
theorem PS.set2 (h : PS w0 w g s at_ c0 c1 c2 c3 c4 wr) (hw : w0.heap.size ≤ w.heap.size) (u : Value) : PS w0 w g s at_ c0 c1 u c3 c4 (wr.setCell ⟨w.heap.size + 1, 2, none⟩ u) := ⟨h.far hw 2 u, h.p.set_ 2 u, h.z.far (by simp) u, h.hg⟩
theorem PS.set3 (h : PS w0 w g s at_ c0 c1 c2 c3 c4 wr) (hw : w0.heap.size ≤ w.heap.size) (u : Value) : PS w0 w g s at_ c0 c1 c2 u c4 (wr.setCell ⟨w.heap.size + 1, 3, none⟩ u) := ⟨h.far hw 3 u, h.p.set_ 3 u, h.z.far (by simp) u, h.hg⟩
theorem PS.set4 (h : PS w0 w g s at_ c0 c1 c2 c3 c4 wr) (hw : w0.heap.size ≤ w.heap.size) (u : Value) : PS w0 w g s at_ c0 c1 c2 c3 u (wr.setCell ⟨w.heap.size + 1, 4, none⟩ u) := ⟨h.far hw 4 u, h.p.set_ 4 u, h.z.far (by simp) u, h.hg⟩
theorem PS.d0 (h : PS w0 w g s at_ c0 c1 c2 c3 c4 wr) : wr.cell? ⟨w.heap.size + 1, 0, none⟩ = some c0 := h.p.cell 0
theorem PS.d1 (h : PS w0 w g s at_ c0 c1 c2 c3 c4 wr) : wr.cell? ⟨w.heap.size + 1, 1, none⟩ = some c1 := h.p.cell 1
theorem PS.d2 (h : PS w0 w g s at_ c0 c1 c2 c3 c4 wr) : wr.cell? ⟨w.heap.size + 1, 2, none⟩ = some c2 := h.p.cell 2
theorem PS.d3 (h : PS w0 w g s at_ c0 c1 c2 c3 c4 wr) : wr.cell? ⟨w.heap.size + 1, 3, none⟩ = some c3 := h.p.cell 3
theorem PS.d4 (h : PS w0 w g s at_ c0 c1 c2 c3 c4 wr) : wr.cell? ⟨w.heap.size + 1, 4, none⟩ = some c4 := h.p.cell 4
theorem PS.e (h : PS w0 w g s at_ c0 c1 c2 c3 c4 wr) (i : Nat) : wr.frozen? ⟨w.heap.size + 1, i, none⟩ = false := h.p.frozen i
/-- Behind the last store, into the result's place. -/
theorem PS.fin {w5 : World} (h : PS w0 w g s at_ c0 c1 c2 c3 c4 wr) (hg : wr.grownBy w5 (some w.heap.size)) (hw : w0.heap.size ≤ w.heap.size) : RS w0 w g s at_ w5 :=
  h.rs.grown hg (by have := h.hg; intro e; injection e; omega) (by rintro k ⟨⟩; exact Nat.le_refl _) hw
end

theorem R_old {α : Type} {d : Kd α} {e base B : Nat} {ok : Nat → Prop} {v : Value} {xs : List α} {w : World} (h : d.R e w base ok v xs) (hB : B < base) (i : Nat) (u : Value) : d.R e (w.setCell ⟨B, i, none⟩ u) base ok v xs :=
  Kd.R_mono (Kd.R_far (p := ⟨B, i, none⟩) (Kd.R_bound h) (fun k hk => by have := hk.2.1; show k ≠ B; omega) u) (fun _ hk => hk.1)
theorem R_end {α : Type} {d : Kd α} {e base B : Nat} {ok : Nat → Prop} {v : Value} {xs : List α} {w w1 : World} (h : d.R e w base ok v xs) (hg : w.grownBy w1 (some B)) (hB : B < base) : d.R e w1 B ok v xs :=
  Kd.R_lower (Kd.R_mono (Kd.R_grown (Kd.R_bound h) hg (fun k hk e => by have := hk.2.1; injection e; omega)) (fun _ hk => hk.1)) (Nat.le_of_lt hB)

def VPost (P : S48) (ok : Bool) (w0 w : World) (g : Nat) (s' : ByteArray) (at' : Int) (e : Ending) (w' : World) : Prop := ∃ v3 v4 : Value, e = .returned (.tuple #[.agg #[.int .i64 P.f0, .int .i64 P.f1, .int .i64 P.f2, v3, v4], .bool ok]) ∧
    Kd.R k84 84 w' w.heap.size (fun _ => True) v3 P.f3 ∧ Kd.R k48 48 w' w.heap.size (fun j => some j ≠ v3.ownBlock) v4 P.f4 ∧ IsS120 w0 w' g s' at' ∧ Below w0.heap.size w0 w' ∧ KeepBut w w' g none

set_option maxHeartbeats 8000000 in
set_option maxRecDepth 100000 in
theorem value_quoted (k g : Nat) (s s1 s' : ByteArray) (at_ a1 at' : Int) (ok : Bool) (w0 w : World) (hi : IsS120 w0 w g s at_) (hb : Below w0.heap.size w0 w)
    (f1 : spec_reader_here.f s at_ = some (34, s1, a1)) (f2 : spec_reader_quoted.f k s1 a1 = some (ok, s', at')) :
    Calls Tryz.prog 76 #[.pointer (some ⟨g, 0, none⟩)] w (VPost ⟨4, at_, at', [], []⟩ ok w0 w g s' at') := by
  have h0 := Aside0.mk (RS.start hi hb)
  have hW := Aside0.mk (show w0.heap.size ≤ w.heap.size from h0.out.below.size)
  have c1 := fun o => (h0.out.alloc o).c1
  have C1 : ∀ wr, RS w0 w g s at_ wr → Hid _ := fun wr h => Lib.hid (here_rs h f1)
  have C2 : ∀ wr, RS w0 w g s1 a1 wr → Hid _ := fun wr h => Lib.hid (quoted_rs (k := k) h f2)
  clear f1 f2
  clear hi hb
  go_enter Tryz.func76, Tryz.ntmps76
  go_wp2_with (first | (go_at_call 116; refine ((C1 _ (PS.start h0.out (.int .i64 0) (.int .i64 at_) (.int .i64 0) (.slice none 0 0) (.slice none 0 0)).rs).out).mono ?_; rintro e w1 ⟨rfl, r, kb⟩; have p1 := Aside0.mk ((PS.start h0.out (.int .i64 0) (.int .i64 at_) (.int .i64 0) (.slice none 0 0) (.slice none 0 0)).step r kb); clear r kb; have d0 := p1.out.d0; have d1 := p1.out.d1; have d2 := p1.out.d2; have d3 := p1.out.d3; have d4 := p1.out.d4; have e0 := p1.out.e 0; have e2 := p1.out.e 2; have e3 := p1.out.e 3; have e4 := p1.out.e 4; have k1 := p1.out.rs.c1) | (go_at_call 119; refine ((C2 _ (p1.out.set0 hW.out (.int .i64 4)).rs).out).mono ?_; rintro e w2 ⟨rfl, r, kb⟩; have p2 := Aside0.mk ((p1.out.set0 hW.out (.int .i64 4)).step r kb); clear r kb; clear d0 d1 d2 d3 d4 e0 e2 e3 e4 k1; have d0 := p2.out.d0; have d1 := p2.out.d1; have d2 := p2.out.d2; have d3 := p2.out.d3; have d4 := p2.out.d4; have e0 := p2.out.e 0; have e2 := p2.out.e 2; have e3 := p2.out.e 3; have e4 := p2.out.e 4; have k1 := p2.out.rs.c1) | ((with_reducible show wpList _ _ _ (Oper.mk none (Op.store 48 (Operand.tmp 2) (Operand.tmp 73)) _ _ _ _ :: _) _ _); refine wpList_store_blk rfl 48 (.tmp 2) (.tmp 73) rfl w.heap.size #[.int .i64 4, .int .i64 at_, .int .i64 at', .slice none 0 0, .slice none 0 0] rfl rfl 48 _ ((p2.out).set2 hW.out _).z size48 rfl rfl ?_; intro w9 hB9 hg9; have h9 := Aside0.mk (((p2.out).set2 hW.out _).fin hg9 hW.out)))
  refine bodyPost_ret (results_blk_tmp (p := 2) (q := 3) rfl _ _ w.heap.size 48 _ _ rfl hB9 Tryz.underlying48 rfl size48) rfl ?_
  exact ⟨_, _, rfl, Kd.R_nil _ _ _ _ _, Kd.R_nil _ _ _ _ _, h9.out.is, h9.out.below, h9.out.keep⟩

set_option maxHeartbeats 8000000 in
set_option maxRecDepth 100000 in
theorem value_members (k g : Nat) (hM : MSaid k) (s s1 s' : ByteArray) (at_ a1 at' : Int) (ns : List S84) (ks : List S48) (ok : Bool) (w0 w : World) (hi : IsS120 w0 w g s at_) (hb : Below w0.heap.size w0 w)
    (f1 : spec_reader_here.f s at_ = some (123, s1, a1)) (f2 : Aside0 (rm k s1 a1 = some (ns, ks, ok, s', at'))) :
    Calls Tryz.prog 76 #[.pointer (some ⟨g, 0, none⟩)] w (VPost ⟨6, at_, at', ns, ks⟩ ok w0 w g s' at') := by
  have h0 := Aside0.mk (RS.start hi hb)
  have hW := Aside0.mk (show w0.heap.size ≤ w.heap.size from h0.out.below.size)
  have c1 := fun o => (h0.out.alloc o).c1
  have C1 : ∀ wr, RS w0 w g s at_ wr → Hid _ := fun wr h => Lib.hid (here_rs h f1)
  clear f1
  clear hi hb
  go_enter Tryz.func76, Tryz.ntmps76
  go_wp2_with (first | (go_at_call 116; refine ((C1 _ (PS.start h0.out (.int .i64 0) (.int .i64 at_) (.int .i64 0) (.slice none 0 0) (.slice none 0 0)).rs).out).mono ?_; rintro e w1 ⟨rfl, r, kb⟩; have p1 := Aside0.mk ((PS.start h0.out (.int .i64 0) (.int .i64 at_) (.int .i64 0) (.slice none 0 0) (.slice none 0 0)).step r kb); clear r kb; have d0 := p1.out.d0; have d1 := p1.out.d1; have d2 := p1.out.d2; have d3 := p1.out.d3; have d4 := p1.out.d4; have e0 := p1.out.e 0; have e2 := p1.out.e 2; have e3 := p1.out.e 3; have e4 := p1.out.e 4; have k1 := p1.out.rs.c1) | (go_at_call 117; refine (hM g s1 a1 ns ks ok s' at' w0 _ (p1.out.set0 hW.out (.int .i64 6)).rs.is (p1.out.set0 hW.out (.int .i64 6)).rs.below f2.out).mono ?_; rintro e w2 ⟨v3, v4, rfl, r3, r4, hi, hb, kb⟩; have p2 := Aside0.mk ((p1.out.set0 hW.out (.int .i64 6)).step ((p1.out.set0 hW.out (.int .i64 6)).rs.step hi hb kb) kb); have hz := Aside0.mk (show w.heap.size + 1 < _ from (p1.out.set0 hW.out (.int .i64 6)).p.lt); have R3 := Aside0.mk r3; have R4 := Aside0.mk r4; obtain ⟨A3, y3, q3⟩ := Kd.R_slice r3; obtain ⟨A4, y4, q4⟩ := Kd.R_slice r4; subst q3; subst q4; clear hi hb kb r3 r4; clear d0 d1 d2 d3 d4 e0 e2 e3 e4 k1; have d0 := p2.out.d0; have d1 := p2.out.d1; have d2 := p2.out.d2; have d3 := p2.out.d3; have d4 := p2.out.d4; have e0 := p2.out.e 0; have e2 := p2.out.e 2; have e3 := p2.out.e 3; have e4 := p2.out.e 4; have k1 := p2.out.rs.c1) | ((with_reducible show wpList _ _ _ (Oper.mk none (Op.store 48 (Operand.tmp 2) (Operand.tmp 73)) _ _ _ _ :: _) _ _); refine wpList_store_blk rfl 48 (.tmp 2) (.tmp 73) rfl w.heap.size #[.int .i64 6, .int .i64 at_, .int .i64 at', .slice A3 ns.length y3, .slice A4 ks.length y4] rfl rfl 48 _ (((p2.out.set3 hW.out (.slice A3 ns.length y3)).set4 hW.out (.slice A4 ks.length y4)).set2 hW.out _).z size48 rfl rfl ?_; intro w9 hB9 hg9; have h9 := Aside0.mk ((((p2.out.set3 hW.out (.slice A3 ns.length y3)).set4 hW.out (.slice A4 ks.length y4)).set2 hW.out _).fin hg9 hW.out)))
  refine bodyPost_ret (results_blk_tmp (p := 2) (q := 3) rfl _ _ w.heap.size 48 _ _ rfl hB9 Tryz.underlying48 rfl size48) rfl ?_
  exact ⟨_, _, rfl, R_end (R_old (R_old (R_old R3.out hz.out 3 _) hz.out 4 _) hz.out 2 _) hg9 (Nat.lt_of_succ_lt hz.out), R_end (R_old (R_old (R_old R4.out hz.out 3 _) hz.out 4 _) hz.out 2 _) hg9 (Nat.lt_of_succ_lt hz.out), h9.out.is, h9.out.below, h9.out.keep⟩

set_option maxHeartbeats 8000000 in
set_option maxRecDepth 100000 in
theorem value_elements (k g : Nat) (hE : ESaid k) (s s1 s' : ByteArray) (at_ a1 at' : Int) (ks : List S48) (ok : Bool) (w0 w : World) (hi : IsS120 w0 w g s at_) (hb : Below w0.heap.size w0 w)
    (f1 : spec_reader_here.f s at_ = some (91, s1, a1)) (f2 : Aside0 (re k s1 a1 = some (ks, ok, s', at'))) :
    Calls Tryz.prog 76 #[.pointer (some ⟨g, 0, none⟩)] w (VPost ⟨5, at_, at', [], ks⟩ ok w0 w g s' at') := by
  have h0 := Aside0.mk (RS.start hi hb)
  have hW := Aside0.mk (show w0.heap.size ≤ w.heap.size from h0.out.below.size)
  have c1 := fun o => (h0.out.alloc o).c1
  have C1 : ∀ wr, RS w0 w g s at_ wr → Hid _ := fun wr h => Lib.hid (here_rs h f1)
  clear f1
  clear hi hb
  go_enter Tryz.func76, Tryz.ntmps76
  go_wp2_with (first | (go_at_call 116; refine ((C1 _ (PS.start h0.out (.int .i64 0) (.int .i64 at_) (.int .i64 0) (.slice none 0 0) (.slice none 0 0)).rs).out).mono ?_; rintro e w1 ⟨rfl, r, kb⟩; have p1 := Aside0.mk ((PS.start h0.out (.int .i64 0) (.int .i64 at_) (.int .i64 0) (.slice none 0 0) (.slice none 0 0)).step r kb); clear r kb; have d0 := p1.out.d0; have d1 := p1.out.d1; have d2 := p1.out.d2; have d3 := p1.out.d3; have d4 := p1.out.d4; have e0 := p1.out.e 0; have e2 := p1.out.e 2; have e3 := p1.out.e 3; have e4 := p1.out.e 4; have k1 := p1.out.rs.c1) | (go_at_call 118; refine (hE g s1 a1 ks ok s' at' w0 _ (p1.out.set0 hW.out (.int .i64 5)).rs.is (p1.out.set0 hW.out (.int .i64 5)).rs.below f2.out).mono ?_; rintro e w2 ⟨v4, rfl, r4, hi, hb, kb⟩; have p2 := Aside0.mk ((p1.out.set0 hW.out (.int .i64 5)).step ((p1.out.set0 hW.out (.int .i64 5)).rs.step hi hb kb) kb); have hz := Aside0.mk (show w.heap.size + 1 < _ from (p1.out.set0 hW.out (.int .i64 5)).p.lt); have R4 := Aside0.mk r4; obtain ⟨A4, y4, q4⟩ := Kd.R_slice r4; subst q4; clear hi hb kb r4; clear d0 d1 d2 d3 d4 e0 e2 e3 e4 k1; have d0 := p2.out.d0; have d1 := p2.out.d1; have d2 := p2.out.d2; have d3 := p2.out.d3; have d4 := p2.out.d4; have e0 := p2.out.e 0; have e2 := p2.out.e 2; have e3 := p2.out.e 3; have e4 := p2.out.e 4; have k1 := p2.out.rs.c1) | ((with_reducible show wpList _ _ _ (Oper.mk none (Op.store 48 (Operand.tmp 2) (Operand.tmp 73)) _ _ _ _ :: _) _ _); refine wpList_store_blk rfl 48 (.tmp 2) (.tmp 73) rfl w.heap.size #[.int .i64 5, .int .i64 at_, .int .i64 at', .slice none 0 0, .slice A4 ks.length y4] rfl rfl 48 _ ((p2.out.set4 hW.out (.slice A4 ks.length y4)).set2 hW.out _).z size48 rfl rfl ?_; intro w9 hB9 hg9; have h9 := Aside0.mk (((p2.out.set4 hW.out (.slice A4 ks.length y4)).set2 hW.out _).fin hg9 hW.out)))
  refine bodyPost_ret (results_blk_tmp (p := 2) (q := 3) rfl _ _ w.heap.size 48 _ _ rfl hB9 Tryz.underlying48 rfl size48) rfl ?_
  exact ⟨_, _, rfl, Kd.R_nil _ _ _ _ _, Kd.R_mono (R_end (R_old (R_old R4.out hz.out 4 _) hz.out 2 _) hg9 (Nat.lt_of_succ_lt hz.out)) (fun _ _ => by simp [Value.ownBlock]), h9.out.is, h9.out.below, h9.out.keep⟩

set_option maxHeartbeats 8000000 in
set_option maxRecDepth 100000 in
theorem value_number_a (k g : Nat) (s s1 s' : ByteArray) (at_ a1 at' c : Int) (ok : Bool) (hc : c = 45) (w0 w : World) (hi : IsS120 w0 w g s at_) (hb : Below w0.heap.size w0 w)
    (f1 : spec_reader_here.f s at_ = some (c, s1, a1)) (f2 : spec_reader_number.f k s1 a1 = some (ok, s', at')) :
    Calls Tryz.prog 76 #[.pointer (some ⟨g, 0, none⟩)] w (VPost ⟨3, at_, at', [], []⟩ ok w0 w g s' at') := by
  have h0 := Aside0.mk (RS.start hi hb)
  have hW := Aside0.mk (show w0.heap.size ≤ w.heap.size from h0.out.below.size)
  have c1 := fun o => (h0.out.alloc o).c1
  subst hc
  have C1 : ∀ wr, RS w0 w g s at_ wr → Hid _ := fun wr h => Lib.hid (here_rs h f1)
  have C2 : ∀ wr, RS w0 w g s1 a1 wr → Hid _ := fun wr h => Lib.hid (number_rs (k := k) h f2)
  clear f1 f2
  clear hi hb
  go_enter Tryz.func76, Tryz.ntmps76
  go_wp2_with (first | (go_at_call 116; refine ((C1 _ (PS.start h0.out (.int .i64 0) (.int .i64 at_) (.int .i64 0) (.slice none 0 0) (.slice none 0 0)).rs).out).mono ?_; rintro e w1 ⟨rfl, r, kb⟩; have p1 := Aside0.mk ((PS.start h0.out (.int .i64 0) (.int .i64 at_) (.int .i64 0) (.slice none 0 0) (.slice none 0 0)).step r kb); clear r kb; have d0 := p1.out.d0; have d1 := p1.out.d1; have d2 := p1.out.d2; have d3 := p1.out.d3; have d4 := p1.out.d4; have e0 := p1.out.e 0; have e2 := p1.out.e 2; have e3 := p1.out.e 3; have e4 := p1.out.e 4; have k1 := p1.out.rs.c1) | (go_at_call 120; refine ((C2 _ (p1.out.set0 hW.out (.int .i64 3)).rs).out).mono ?_; rintro e w2 ⟨rfl, r, kb⟩; have p2 := Aside0.mk ((p1.out.set0 hW.out (.int .i64 3)).step r kb); clear r kb; clear d0 d1 d2 d3 d4 e0 e2 e3 e4 k1; have d0 := p2.out.d0; have d1 := p2.out.d1; have d2 := p2.out.d2; have d3 := p2.out.d3; have d4 := p2.out.d4; have e0 := p2.out.e 0; have e2 := p2.out.e 2; have e3 := p2.out.e 3; have e4 := p2.out.e 4; have k1 := p2.out.rs.c1) | ((with_reducible show wpList _ _ _ (Oper.mk none (Op.store 48 (Operand.tmp 2) (Operand.tmp 73)) _ _ _ _ :: _) _ _); refine wpList_store_blk rfl 48 (.tmp 2) (.tmp 73) rfl w.heap.size #[.int .i64 3, .int .i64 at_, .int .i64 at', .slice none 0 0, .slice none 0 0] rfl rfl 48 _ ((p2.out).set2 hW.out _).z size48 rfl rfl ?_; intro w9 hB9 hg9; have h9 := Aside0.mk (((p2.out).set2 hW.out _).fin hg9 hW.out)))
  refine bodyPost_ret (results_blk_tmp (p := 2) (q := 3) rfl _ _ w.heap.size 48 _ _ rfl hB9 Tryz.underlying48 rfl size48) rfl ?_
  exact ⟨_, _, rfl, Kd.R_nil _ _ _ _ _, Kd.R_nil _ _ _ _ _, h9.out.is, h9.out.below, h9.out.keep⟩

set_option maxHeartbeats 8000000 in
set_option maxRecDepth 100000 in
theorem value_number_b (k g : Nat) (s s1 s' : ByteArray) (at_ a1 at' c : Int) (ok : Bool) (h1 : 48 ≤ c) (h2 : c ≤ 57) (w0 w : World) (hi : IsS120 w0 w g s at_) (hb : Below w0.heap.size w0 w)
    (f1 : spec_reader_here.f s at_ = some (c, s1, a1)) (f2 : spec_reader_number.f k s1 a1 = some (ok, s', at')) :
    Calls Tryz.prog 76 #[.pointer (some ⟨g, 0, none⟩)] w (VPost ⟨3, at_, at', [], []⟩ ok w0 w g s' at') := by
  have h0 := Aside0.mk (RS.start hi hb)
  have hW := Aside0.mk (show w0.heap.size ≤ w.heap.size from h0.out.below.size)
  have c1 := fun o => (h0.out.alloc o).c1
  have t1 : (c == 123) = false := by rw [beq_eq_false_iff_ne]; omega
  have t2 : (c == 91) = false := by rw [beq_eq_false_iff_ne]; omega
  have t3 : (c == 34) = false := by rw [beq_eq_false_iff_ne]; omega
  have t4 : (c == 45) = false := by rw [beq_eq_false_iff_ne]; omega
  have t5 : decide (48 ≤ c) = true := by simp; omega
  have t6 : decide (c ≤ 57) = true := by simp; omega
  have C1 : ∀ wr, RS w0 w g s at_ wr → Hid _ := fun wr h => Lib.hid (here_rs h f1)
  have C2 : ∀ wr, RS w0 w g s1 a1 wr → Hid _ := fun wr h => Lib.hid (number_rs (k := k) h f2)
  clear f1 f2
  clear hi hb
  go_enter Tryz.func76, Tryz.ntmps76
  go_wp2_with (first | (go_at_call 116; refine ((C1 _ (PS.start h0.out (.int .i64 0) (.int .i64 at_) (.int .i64 0) (.slice none 0 0) (.slice none 0 0)).rs).out).mono ?_; rintro e w1 ⟨rfl, r, kb⟩; have p1 := Aside0.mk ((PS.start h0.out (.int .i64 0) (.int .i64 at_) (.int .i64 0) (.slice none 0 0) (.slice none 0 0)).step r kb); clear r kb; have d0 := p1.out.d0; have d1 := p1.out.d1; have d2 := p1.out.d2; have d3 := p1.out.d3; have d4 := p1.out.d4; have e0 := p1.out.e 0; have e2 := p1.out.e 2; have e3 := p1.out.e 3; have e4 := p1.out.e 4; have k1 := p1.out.rs.c1) | (go_at_call 120; refine ((C2 _ (p1.out.set0 hW.out (.int .i64 3)).rs).out).mono ?_; rintro e w2 ⟨rfl, r, kb⟩; have p2 := Aside0.mk ((p1.out.set0 hW.out (.int .i64 3)).step r kb); clear r kb; clear d0 d1 d2 d3 d4 e0 e2 e3 e4 k1; have d0 := p2.out.d0; have d1 := p2.out.d1; have d2 := p2.out.d2; have d3 := p2.out.d3; have d4 := p2.out.d4; have e0 := p2.out.e 0; have e2 := p2.out.e 2; have e3 := p2.out.e 3; have e4 := p2.out.e 4; have k1 := p2.out.rs.c1) | ((with_reducible show wpList _ _ _ (Oper.mk none (Op.store 48 (Operand.tmp 2) (Operand.tmp 73)) _ _ _ _ :: _) _ _); refine wpList_store_blk rfl 48 (.tmp 2) (.tmp 73) rfl w.heap.size #[.int .i64 3, .int .i64 at_, .int .i64 at', .slice none 0 0, .slice none 0 0] rfl rfl 48 _ ((p2.out).set2 hW.out _).z size48 rfl rfl ?_; intro w9 hB9 hg9; have h9 := Aside0.mk (((p2.out).set2 hW.out _).fin hg9 hW.out)))
  refine bodyPost_ret (results_blk_tmp (p := 2) (q := 3) rfl _ _ w.heap.size 48 _ _ rfl hB9 Tryz.underlying48 rfl size48) rfl ?_
  exact ⟨_, _, rfl, Kd.R_nil _ _ _ _ _, Kd.R_nil _ _ _ _ _, h9.out.is, h9.out.below, h9.out.keep⟩

set_option maxHeartbeats 8000000 in
set_option maxRecDepth 100000 in
theorem value_null_a (g : Nat) (s s1 s' : ByteArray) (at_ a1 at' c : Int) (h1 : c < 48) (h0 : c ≠ 45) (hq : c ≠ 34) (w0 w : World) (hi : IsS120 w0 w g s at_) (hb : Below w0.heap.size w0 w)
    (f1 : spec_reader_here.f s at_ = some (c, s1, a1)) (g0 : spec_reader_word.f s1 a1 wNull = some (true, s', at')) :
    Calls Tryz.prog 76 #[.pointer (some ⟨g, 0, none⟩)] w (VPost ⟨0, at_, at', [], []⟩ true w0 w g s' at') := by
  have h0 := Aside0.mk (RS.start hi hb)
  have hW := Aside0.mk (show w0.heap.size ≤ w.heap.size from h0.out.below.size)
  have c1 := fun o => (h0.out.alloc o).c1
  have t1 : (c == 123) = false := by rw [beq_eq_false_iff_ne]; omega
  have t2 : (c == 91) = false := by rw [beq_eq_false_iff_ne]; omega
  have t3 : (c == 34) = false := by rw [beq_eq_false_iff_ne]; omega
  have t4 : (c == 45) = false := by rw [beq_eq_false_iff_ne]; omega
  have t5 : decide (48 ≤ c) = false := by simp; omega
  have C1 : ∀ wr, RS w0 w g s at_ wr → Hid _ := fun wr h => Lib.hid (here_rs h f1)
  have C2 : ∀ wr, RS w0 w g s1 a1 wr → Hid _ := fun wr h => Lib.hid (word_rs h g0)
  clear f1 g0
  clear hi hb
  go_enter Tryz.func76, Tryz.ntmps76
  go_wp2_with (first | (go_at_call 116; refine ((C1 _ (PS.start h0.out (.int .i64 0) (.int .i64 at_) (.int .i64 0) (.slice none 0 0) (.slice none 0 0)).rs).out).mono ?_; rintro e w1 ⟨rfl, r, kb⟩; have p1 := Aside0.mk ((PS.start h0.out (.int .i64 0) (.int .i64 at_) (.int .i64 0) (.slice none 0 0) (.slice none 0 0)).step r kb); clear r kb; have d0 := p1.out.d0; have d1 := p1.out.d1; have d2 := p1.out.d2; have d3 := p1.out.d3; have d4 := p1.out.d4; have e0 := p1.out.e 0; have e2 := p1.out.e 2; have e3 := p1.out.e 3; have e4 := p1.out.e 4; have k1 := p1.out.rs.c1) | (go_at_call_of 121 (Value.string (⟨#[110, 117, 108, 108]⟩ : ByteArray)); refine ((C2 _ p1.out.rs).out).mono ?_; rintro e w2 ⟨rfl, r, kb⟩; have p2 := Aside0.mk (p1.out.step r kb); clear r kb; clear d0 d1 d2 d3 d4 e0 e2 e3 e4 k1; have d0 := p2.out.d0; have d1 := p2.out.d1; have d2 := p2.out.d2; have d3 := p2.out.d3; have d4 := p2.out.d4; have e0 := p2.out.e 0; have e2 := p2.out.e 2; have e3 := p2.out.e 3; have e4 := p2.out.e 4; have k1 := p2.out.rs.c1) | ((with_reducible show wpList _ _ _ (Oper.mk none (Op.store 48 (Operand.tmp 2) (Operand.tmp 73)) _ _ _ _ :: _) _ _); refine wpList_store_blk rfl 48 (.tmp 2) (.tmp 73) rfl w.heap.size #[.int .i64 0, .int .i64 at_, .int .i64 at', .slice none 0 0, .slice none 0 0] rfl rfl 48 _ ((p2.out.set0 hW.out (.int .i64 0)).set2 hW.out _).z size48 rfl rfl ?_; intro w9 hB9 hg9; have h9 := Aside0.mk (((p2.out.set0 hW.out (.int .i64 0)).set2 hW.out _).fin hg9 hW.out)))
  refine bodyPost_ret (results_blk_tmp (p := 2) (q := 3) rfl _ _ w.heap.size 48 _ _ rfl hB9 Tryz.underlying48 rfl size48) rfl ?_
  exact ⟨_, _, rfl, Kd.R_nil _ _ _ _ _, Kd.R_nil _ _ _ _ _, h9.out.is, h9.out.below, h9.out.keep⟩

set_option maxHeartbeats 8000000 in
set_option maxRecDepth 100000 in
theorem value_null_b (g : Nat) (s s1 s' : ByteArray) (at_ a1 at' c : Int) (h1 : 57 < c) (h0 : c ≠ 123) (hq : c ≠ 91) (w0 w : World) (hi : IsS120 w0 w g s at_) (hb : Below w0.heap.size w0 w)
    (f1 : spec_reader_here.f s at_ = some (c, s1, a1)) (g0 : spec_reader_word.f s1 a1 wNull = some (true, s', at')) :
    Calls Tryz.prog 76 #[.pointer (some ⟨g, 0, none⟩)] w (VPost ⟨0, at_, at', [], []⟩ true w0 w g s' at') := by
  have h0 := Aside0.mk (RS.start hi hb)
  have hW := Aside0.mk (show w0.heap.size ≤ w.heap.size from h0.out.below.size)
  have c1 := fun o => (h0.out.alloc o).c1
  have t1 : (c == 123) = false := by rw [beq_eq_false_iff_ne]; omega
  have t2 : (c == 91) = false := by rw [beq_eq_false_iff_ne]; omega
  have t3 : (c == 34) = false := by rw [beq_eq_false_iff_ne]; omega
  have t4 : (c == 45) = false := by rw [beq_eq_false_iff_ne]; omega
  have t5 : decide (48 ≤ c) = true := by simp; omega
  have t6 : decide (c ≤ 57) = false := by simp; omega
  have C1 : ∀ wr, RS w0 w g s at_ wr → Hid _ := fun wr h => Lib.hid (here_rs h f1)
  have C2 : ∀ wr, RS w0 w g s1 a1 wr → Hid _ := fun wr h => Lib.hid (word_rs h g0)
  clear f1 g0
  clear hi hb
  go_enter Tryz.func76, Tryz.ntmps76
  go_wp2_with (first | (go_at_call 116; refine ((C1 _ (PS.start h0.out (.int .i64 0) (.int .i64 at_) (.int .i64 0) (.slice none 0 0) (.slice none 0 0)).rs).out).mono ?_; rintro e w1 ⟨rfl, r, kb⟩; have p1 := Aside0.mk ((PS.start h0.out (.int .i64 0) (.int .i64 at_) (.int .i64 0) (.slice none 0 0) (.slice none 0 0)).step r kb); clear r kb; have d0 := p1.out.d0; have d1 := p1.out.d1; have d2 := p1.out.d2; have d3 := p1.out.d3; have d4 := p1.out.d4; have e0 := p1.out.e 0; have e2 := p1.out.e 2; have e3 := p1.out.e 3; have e4 := p1.out.e 4; have k1 := p1.out.rs.c1) | (go_at_call_of 121 (Value.string (⟨#[110, 117, 108, 108]⟩ : ByteArray)); refine ((C2 _ p1.out.rs).out).mono ?_; rintro e w2 ⟨rfl, r, kb⟩; have p2 := Aside0.mk (p1.out.step r kb); clear r kb; clear d0 d1 d2 d3 d4 e0 e2 e3 e4 k1; have d0 := p2.out.d0; have d1 := p2.out.d1; have d2 := p2.out.d2; have d3 := p2.out.d3; have d4 := p2.out.d4; have e0 := p2.out.e 0; have e2 := p2.out.e 2; have e3 := p2.out.e 3; have e4 := p2.out.e 4; have k1 := p2.out.rs.c1) | ((with_reducible show wpList _ _ _ (Oper.mk none (Op.store 48 (Operand.tmp 2) (Operand.tmp 73)) _ _ _ _ :: _) _ _); refine wpList_store_blk rfl 48 (.tmp 2) (.tmp 73) rfl w.heap.size #[.int .i64 0, .int .i64 at_, .int .i64 at', .slice none 0 0, .slice none 0 0] rfl rfl 48 _ ((p2.out.set0 hW.out (.int .i64 0)).set2 hW.out _).z size48 rfl rfl ?_; intro w9 hB9 hg9; have h9 := Aside0.mk (((p2.out.set0 hW.out (.int .i64 0)).set2 hW.out _).fin hg9 hW.out)))
  refine bodyPost_ret (results_blk_tmp (p := 2) (q := 3) rfl _ _ w.heap.size 48 _ _ rfl hB9 Tryz.underlying48 rfl size48) rfl ?_
  exact ⟨_, _, rfl, Kd.R_nil _ _ _ _ _, Kd.R_nil _ _ _ _ _, h9.out.is, h9.out.below, h9.out.keep⟩

set_option maxHeartbeats 8000000 in
set_option maxRecDepth 100000 in
theorem value_false_a (g : Nat) (s s1 s2 s' : ByteArray) (at_ a1 a2 at' c : Int) (h1 : c < 48) (h0 : c ≠ 45) (hq : c ≠ 34) (w0 w : World) (hi : IsS120 w0 w g s at_) (hb : Below w0.heap.size w0 w)
    (f1 : spec_reader_here.f s at_ = some (c, s1, a1)) (g0 : spec_reader_word.f s1 a1 wNull = some (false, s2, a2)) (g1 : spec_reader_word.f s2 a2 wFalse = some (true, s', at')) :
    Calls Tryz.prog 76 #[.pointer (some ⟨g, 0, none⟩)] w (VPost ⟨1, at_, at', [], []⟩ true w0 w g s' at') := by
  have h0 := Aside0.mk (RS.start hi hb)
  have hW := Aside0.mk (show w0.heap.size ≤ w.heap.size from h0.out.below.size)
  have c1 := fun o => (h0.out.alloc o).c1
  have t1 : (c == 123) = false := by rw [beq_eq_false_iff_ne]; omega
  have t2 : (c == 91) = false := by rw [beq_eq_false_iff_ne]; omega
  have t3 : (c == 34) = false := by rw [beq_eq_false_iff_ne]; omega
  have t4 : (c == 45) = false := by rw [beq_eq_false_iff_ne]; omega
  have t5 : decide (48 ≤ c) = false := by simp; omega
  have C1 : ∀ wr, RS w0 w g s at_ wr → Hid _ := fun wr h => Lib.hid (here_rs h f1)
  have C2 : ∀ wr, RS w0 w g s1 a1 wr → Hid _ := fun wr h => Lib.hid (word_rs h g0)
  have C3 : ∀ wr, RS w0 w g s2 a2 wr → Hid _ := fun wr h => Lib.hid (word_rs h g1)
  clear f1 g0 g1
  clear hi hb
  go_enter Tryz.func76, Tryz.ntmps76
  go_wp2_with (first | (go_at_call 116; refine ((C1 _ (PS.start h0.out (.int .i64 0) (.int .i64 at_) (.int .i64 0) (.slice none 0 0) (.slice none 0 0)).rs).out).mono ?_; rintro e w1 ⟨rfl, r, kb⟩; have p1 := Aside0.mk ((PS.start h0.out (.int .i64 0) (.int .i64 at_) (.int .i64 0) (.slice none 0 0) (.slice none 0 0)).step r kb); clear r kb; have d0 := p1.out.d0; have d1 := p1.out.d1; have d2 := p1.out.d2; have d3 := p1.out.d3; have d4 := p1.out.d4; have e0 := p1.out.e 0; have e2 := p1.out.e 2; have e3 := p1.out.e 3; have e4 := p1.out.e 4; have k1 := p1.out.rs.c1) | (go_at_call_of 121 (Value.string (⟨#[110, 117, 108, 108]⟩ : ByteArray)); refine ((C2 _ p1.out.rs).out).mono ?_; rintro e w2 ⟨rfl, r, kb⟩; have p2 := Aside0.mk (p1.out.step r kb); clear r kb; clear d0 d1 d2 d3 d4 e0 e2 e3 e4 k1; have d0 := p2.out.d0; have d1 := p2.out.d1; have d2 := p2.out.d2; have d3 := p2.out.d3; have d4 := p2.out.d4; have e0 := p2.out.e 0; have e2 := p2.out.e 2; have e3 := p2.out.e 3; have e4 := p2.out.e 4; have k1 := p2.out.rs.c1) | (go_at_call_of 121 (Value.string (⟨#[102, 97, 108, 115, 101]⟩ : ByteArray)); refine ((C3 _ p2.out.rs).out).mono ?_; rintro e w3 ⟨rfl, r, kb⟩; have p3 := Aside0.mk (p2.out.step r kb); clear r kb; clear d0 d1 d2 d3 d4 e0 e2 e3 e4 k1; have d0 := p3.out.d0; have d1 := p3.out.d1; have d2 := p3.out.d2; have d3 := p3.out.d3; have d4 := p3.out.d4; have e0 := p3.out.e 0; have e2 := p3.out.e 2; have e3 := p3.out.e 3; have e4 := p3.out.e 4; have k1 := p3.out.rs.c1) | ((with_reducible show wpList _ _ _ (Oper.mk none (Op.store 48 (Operand.tmp 2) (Operand.tmp 73)) _ _ _ _ :: _) _ _); refine wpList_store_blk rfl 48 (.tmp 2) (.tmp 73) rfl w.heap.size #[.int .i64 1, .int .i64 at_, .int .i64 at', .slice none 0 0, .slice none 0 0] rfl rfl 48 _ ((p3.out.set0 hW.out (.int .i64 1)).set2 hW.out _).z size48 rfl rfl ?_; intro w9 hB9 hg9; have h9 := Aside0.mk (((p3.out.set0 hW.out (.int .i64 1)).set2 hW.out _).fin hg9 hW.out)))
  refine bodyPost_ret (results_blk_tmp (p := 2) (q := 3) rfl _ _ w.heap.size 48 _ _ rfl hB9 Tryz.underlying48 rfl size48) rfl ?_
  exact ⟨_, _, rfl, Kd.R_nil _ _ _ _ _, Kd.R_nil _ _ _ _ _, h9.out.is, h9.out.below, h9.out.keep⟩

set_option maxHeartbeats 8000000 in
set_option maxRecDepth 100000 in
theorem value_false_b (g : Nat) (s s1 s2 s' : ByteArray) (at_ a1 a2 at' c : Int) (h1 : 57 < c) (h0 : c ≠ 123) (hq : c ≠ 91) (w0 w : World) (hi : IsS120 w0 w g s at_) (hb : Below w0.heap.size w0 w)
    (f1 : spec_reader_here.f s at_ = some (c, s1, a1)) (g0 : spec_reader_word.f s1 a1 wNull = some (false, s2, a2)) (g1 : spec_reader_word.f s2 a2 wFalse = some (true, s', at')) :
    Calls Tryz.prog 76 #[.pointer (some ⟨g, 0, none⟩)] w (VPost ⟨1, at_, at', [], []⟩ true w0 w g s' at') := by
  have h0 := Aside0.mk (RS.start hi hb)
  have hW := Aside0.mk (show w0.heap.size ≤ w.heap.size from h0.out.below.size)
  have c1 := fun o => (h0.out.alloc o).c1
  have t1 : (c == 123) = false := by rw [beq_eq_false_iff_ne]; omega
  have t2 : (c == 91) = false := by rw [beq_eq_false_iff_ne]; omega
  have t3 : (c == 34) = false := by rw [beq_eq_false_iff_ne]; omega
  have t4 : (c == 45) = false := by rw [beq_eq_false_iff_ne]; omega
  have t5 : decide (48 ≤ c) = true := by simp; omega
  have t6 : decide (c ≤ 57) = false := by simp; omega
  have C1 : ∀ wr, RS w0 w g s at_ wr → Hid _ := fun wr h => Lib.hid (here_rs h f1)
  have C2 : ∀ wr, RS w0 w g s1 a1 wr → Hid _ := fun wr h => Lib.hid (word_rs h g0)
  have C3 : ∀ wr, RS w0 w g s2 a2 wr → Hid _ := fun wr h => Lib.hid (word_rs h g1)
  clear f1 g0 g1
  clear hi hb
  go_enter Tryz.func76, Tryz.ntmps76
  go_wp2_with (first | (go_at_call 116; refine ((C1 _ (PS.start h0.out (.int .i64 0) (.int .i64 at_) (.int .i64 0) (.slice none 0 0) (.slice none 0 0)).rs).out).mono ?_; rintro e w1 ⟨rfl, r, kb⟩; have p1 := Aside0.mk ((PS.start h0.out (.int .i64 0) (.int .i64 at_) (.int .i64 0) (.slice none 0 0) (.slice none 0 0)).step r kb); clear r kb; have d0 := p1.out.d0; have d1 := p1.out.d1; have d2 := p1.out.d2; have d3 := p1.out.d3; have d4 := p1.out.d4; have e0 := p1.out.e 0; have e2 := p1.out.e 2; have e3 := p1.out.e 3; have e4 := p1.out.e 4; have k1 := p1.out.rs.c1) | (go_at_call_of 121 (Value.string (⟨#[110, 117, 108, 108]⟩ : ByteArray)); refine ((C2 _ p1.out.rs).out).mono ?_; rintro e w2 ⟨rfl, r, kb⟩; have p2 := Aside0.mk (p1.out.step r kb); clear r kb; clear d0 d1 d2 d3 d4 e0 e2 e3 e4 k1; have d0 := p2.out.d0; have d1 := p2.out.d1; have d2 := p2.out.d2; have d3 := p2.out.d3; have d4 := p2.out.d4; have e0 := p2.out.e 0; have e2 := p2.out.e 2; have e3 := p2.out.e 3; have e4 := p2.out.e 4; have k1 := p2.out.rs.c1) | (go_at_call_of 121 (Value.string (⟨#[102, 97, 108, 115, 101]⟩ : ByteArray)); refine ((C3 _ p2.out.rs).out).mono ?_; rintro e w3 ⟨rfl, r, kb⟩; have p3 := Aside0.mk (p2.out.step r kb); clear r kb; clear d0 d1 d2 d3 d4 e0 e2 e3 e4 k1; have d0 := p3.out.d0; have d1 := p3.out.d1; have d2 := p3.out.d2; have d3 := p3.out.d3; have d4 := p3.out.d4; have e0 := p3.out.e 0; have e2 := p3.out.e 2; have e3 := p3.out.e 3; have e4 := p3.out.e 4; have k1 := p3.out.rs.c1) | ((with_reducible show wpList _ _ _ (Oper.mk none (Op.store 48 (Operand.tmp 2) (Operand.tmp 73)) _ _ _ _ :: _) _ _); refine wpList_store_blk rfl 48 (.tmp 2) (.tmp 73) rfl w.heap.size #[.int .i64 1, .int .i64 at_, .int .i64 at', .slice none 0 0, .slice none 0 0] rfl rfl 48 _ ((p3.out.set0 hW.out (.int .i64 1)).set2 hW.out _).z size48 rfl rfl ?_; intro w9 hB9 hg9; have h9 := Aside0.mk (((p3.out.set0 hW.out (.int .i64 1)).set2 hW.out _).fin hg9 hW.out)))
  refine bodyPost_ret (results_blk_tmp (p := 2) (q := 3) rfl _ _ w.heap.size 48 _ _ rfl hB9 Tryz.underlying48 rfl size48) rfl ?_
  exact ⟨_, _, rfl, Kd.R_nil _ _ _ _ _, Kd.R_nil _ _ _ _ _, h9.out.is, h9.out.below, h9.out.keep⟩

set_option maxHeartbeats 8000000 in
set_option maxRecDepth 100000 in
theorem value_true_a (g : Nat) (s s1 s2 s3 s' : ByteArray) (at_ a1 a2 a3 at' c : Int) (h1 : c < 48) (h0 : c ≠ 45) (hq : c ≠ 34) (w0 w : World) (hi : IsS120 w0 w g s at_) (hb : Below w0.heap.size w0 w)
    (f1 : spec_reader_here.f s at_ = some (c, s1, a1)) (g0 : spec_reader_word.f s1 a1 wNull = some (false, s2, a2)) (g1 : spec_reader_word.f s2 a2 wFalse = some (false, s3, a3)) (g2 : spec_reader_word.f s3 a3 wTrue = some (true, s', at')) :
    Calls Tryz.prog 76 #[.pointer (some ⟨g, 0, none⟩)] w (VPost ⟨2, at_, at', [], []⟩ true w0 w g s' at') := by
  have h0 := Aside0.mk (RS.start hi hb)
  have hW := Aside0.mk (show w0.heap.size ≤ w.heap.size from h0.out.below.size)
  have c1 := fun o => (h0.out.alloc o).c1
  have t1 : (c == 123) = false := by rw [beq_eq_false_iff_ne]; omega
  have t2 : (c == 91) = false := by rw [beq_eq_false_iff_ne]; omega
  have t3 : (c == 34) = false := by rw [beq_eq_false_iff_ne]; omega
  have t4 : (c == 45) = false := by rw [beq_eq_false_iff_ne]; omega
  have t5 : decide (48 ≤ c) = false := by simp; omega
  have C1 : ∀ wr, RS w0 w g s at_ wr → Hid _ := fun wr h => Lib.hid (here_rs h f1)
  have C2 : ∀ wr, RS w0 w g s1 a1 wr → Hid _ := fun wr h => Lib.hid (word_rs h g0)
  have C3 : ∀ wr, RS w0 w g s2 a2 wr → Hid _ := fun wr h => Lib.hid (word_rs h g1)
  have C4 : ∀ wr, RS w0 w g s3 a3 wr → Hid _ := fun wr h => Lib.hid (word_rs h g2)
  clear f1 g0 g1 g2
  clear hi hb
  go_enter Tryz.func76, Tryz.ntmps76
  go_wp2_with (first | (go_at_call 116; refine ((C1 _ (PS.start h0.out (.int .i64 0) (.int .i64 at_) (.int .i64 0) (.slice none 0 0) (.slice none 0 0)).rs).out).mono ?_; rintro e w1 ⟨rfl, r, kb⟩; have p1 := Aside0.mk ((PS.start h0.out (.int .i64 0) (.int .i64 at_) (.int .i64 0) (.slice none 0 0) (.slice none 0 0)).step r kb); clear r kb; have d0 := p1.out.d0; have d1 := p1.out.d1; have d2 := p1.out.d2; have d3 := p1.out.d3; have d4 := p1.out.d4; have e0 := p1.out.e 0; have e2 := p1.out.e 2; have e3 := p1.out.e 3; have e4 := p1.out.e 4; have k1 := p1.out.rs.c1) | (go_at_call_of 121 (Value.string (⟨#[110, 117, 108, 108]⟩ : ByteArray)); refine ((C2 _ p1.out.rs).out).mono ?_; rintro e w2 ⟨rfl, r, kb⟩; have p2 := Aside0.mk (p1.out.step r kb); clear r kb; clear d0 d1 d2 d3 d4 e0 e2 e3 e4 k1; have d0 := p2.out.d0; have d1 := p2.out.d1; have d2 := p2.out.d2; have d3 := p2.out.d3; have d4 := p2.out.d4; have e0 := p2.out.e 0; have e2 := p2.out.e 2; have e3 := p2.out.e 3; have e4 := p2.out.e 4; have k1 := p2.out.rs.c1) | (go_at_call_of 121 (Value.string (⟨#[102, 97, 108, 115, 101]⟩ : ByteArray)); refine ((C3 _ p2.out.rs).out).mono ?_; rintro e w3 ⟨rfl, r, kb⟩; have p3 := Aside0.mk (p2.out.step r kb); clear r kb; clear d0 d1 d2 d3 d4 e0 e2 e3 e4 k1; have d0 := p3.out.d0; have d1 := p3.out.d1; have d2 := p3.out.d2; have d3 := p3.out.d3; have d4 := p3.out.d4; have e0 := p3.out.e 0; have e2 := p3.out.e 2; have e3 := p3.out.e 3; have e4 := p3.out.e 4; have k1 := p3.out.rs.c1) | (go_at_call_of 121 (Value.string (⟨#[116, 114, 117, 101]⟩ : ByteArray)); refine ((C4 _ p3.out.rs).out).mono ?_; rintro e w4 ⟨rfl, r, kb⟩; have p4 := Aside0.mk (p3.out.step r kb); clear r kb; clear d0 d1 d2 d3 d4 e0 e2 e3 e4 k1; have d0 := p4.out.d0; have d1 := p4.out.d1; have d2 := p4.out.d2; have d3 := p4.out.d3; have d4 := p4.out.d4; have e0 := p4.out.e 0; have e2 := p4.out.e 2; have e3 := p4.out.e 3; have e4 := p4.out.e 4; have k1 := p4.out.rs.c1) | ((with_reducible show wpList _ _ _ (Oper.mk none (Op.store 48 (Operand.tmp 2) (Operand.tmp 73)) _ _ _ _ :: _) _ _); refine wpList_store_blk rfl 48 (.tmp 2) (.tmp 73) rfl w.heap.size #[.int .i64 2, .int .i64 at_, .int .i64 at', .slice none 0 0, .slice none 0 0] rfl rfl 48 _ ((p4.out.set0 hW.out (.int .i64 2)).set2 hW.out _).z size48 rfl rfl ?_; intro w9 hB9 hg9; have h9 := Aside0.mk (((p4.out.set0 hW.out (.int .i64 2)).set2 hW.out _).fin hg9 hW.out)))
  refine bodyPost_ret (results_blk_tmp (p := 2) (q := 3) rfl _ _ w.heap.size 48 _ _ rfl hB9 Tryz.underlying48 rfl size48) rfl ?_
  exact ⟨_, _, rfl, Kd.R_nil _ _ _ _ _, Kd.R_nil _ _ _ _ _, h9.out.is, h9.out.below, h9.out.keep⟩

set_option maxHeartbeats 8000000 in
set_option maxRecDepth 100000 in
theorem value_true_b (g : Nat) (s s1 s2 s3 s' : ByteArray) (at_ a1 a2 a3 at' c : Int) (h1 : 57 < c) (h0 : c ≠ 123) (hq : c ≠ 91) (w0 w : World) (hi : IsS120 w0 w g s at_) (hb : Below w0.heap.size w0 w)
    (f1 : spec_reader_here.f s at_ = some (c, s1, a1)) (g0 : spec_reader_word.f s1 a1 wNull = some (false, s2, a2)) (g1 : spec_reader_word.f s2 a2 wFalse = some (false, s3, a3)) (g2 : spec_reader_word.f s3 a3 wTrue = some (true, s', at')) :
    Calls Tryz.prog 76 #[.pointer (some ⟨g, 0, none⟩)] w (VPost ⟨2, at_, at', [], []⟩ true w0 w g s' at') := by
  have h0 := Aside0.mk (RS.start hi hb)
  have hW := Aside0.mk (show w0.heap.size ≤ w.heap.size from h0.out.below.size)
  have c1 := fun o => (h0.out.alloc o).c1
  have t1 : (c == 123) = false := by rw [beq_eq_false_iff_ne]; omega
  have t2 : (c == 91) = false := by rw [beq_eq_false_iff_ne]; omega
  have t3 : (c == 34) = false := by rw [beq_eq_false_iff_ne]; omega
  have t4 : (c == 45) = false := by rw [beq_eq_false_iff_ne]; omega
  have t5 : decide (48 ≤ c) = true := by simp; omega
  have t6 : decide (c ≤ 57) = false := by simp; omega
  have C1 : ∀ wr, RS w0 w g s at_ wr → Hid _ := fun wr h => Lib.hid (here_rs h f1)
  have C2 : ∀ wr, RS w0 w g s1 a1 wr → Hid _ := fun wr h => Lib.hid (word_rs h g0)
  have C3 : ∀ wr, RS w0 w g s2 a2 wr → Hid _ := fun wr h => Lib.hid (word_rs h g1)
  have C4 : ∀ wr, RS w0 w g s3 a3 wr → Hid _ := fun wr h => Lib.hid (word_rs h g2)
  clear f1 g0 g1 g2
  clear hi hb
  go_enter Tryz.func76, Tryz.ntmps76
  go_wp2_with (first | (go_at_call 116; refine ((C1 _ (PS.start h0.out (.int .i64 0) (.int .i64 at_) (.int .i64 0) (.slice none 0 0) (.slice none 0 0)).rs).out).mono ?_; rintro e w1 ⟨rfl, r, kb⟩; have p1 := Aside0.mk ((PS.start h0.out (.int .i64 0) (.int .i64 at_) (.int .i64 0) (.slice none 0 0) (.slice none 0 0)).step r kb); clear r kb; have d0 := p1.out.d0; have d1 := p1.out.d1; have d2 := p1.out.d2; have d3 := p1.out.d3; have d4 := p1.out.d4; have e0 := p1.out.e 0; have e2 := p1.out.e 2; have e3 := p1.out.e 3; have e4 := p1.out.e 4; have k1 := p1.out.rs.c1) | (go_at_call_of 121 (Value.string (⟨#[110, 117, 108, 108]⟩ : ByteArray)); refine ((C2 _ p1.out.rs).out).mono ?_; rintro e w2 ⟨rfl, r, kb⟩; have p2 := Aside0.mk (p1.out.step r kb); clear r kb; clear d0 d1 d2 d3 d4 e0 e2 e3 e4 k1; have d0 := p2.out.d0; have d1 := p2.out.d1; have d2 := p2.out.d2; have d3 := p2.out.d3; have d4 := p2.out.d4; have e0 := p2.out.e 0; have e2 := p2.out.e 2; have e3 := p2.out.e 3; have e4 := p2.out.e 4; have k1 := p2.out.rs.c1) | (go_at_call_of 121 (Value.string (⟨#[102, 97, 108, 115, 101]⟩ : ByteArray)); refine ((C3 _ p2.out.rs).out).mono ?_; rintro e w3 ⟨rfl, r, kb⟩; have p3 := Aside0.mk (p2.out.step r kb); clear r kb; clear d0 d1 d2 d3 d4 e0 e2 e3 e4 k1; have d0 := p3.out.d0; have d1 := p3.out.d1; have d2 := p3.out.d2; have d3 := p3.out.d3; have d4 := p3.out.d4; have e0 := p3.out.e 0; have e2 := p3.out.e 2; have e3 := p3.out.e 3; have e4 := p3.out.e 4; have k1 := p3.out.rs.c1) | (go_at_call_of 121 (Value.string (⟨#[116, 114, 117, 101]⟩ : ByteArray)); refine ((C4 _ p3.out.rs).out).mono ?_; rintro e w4 ⟨rfl, r, kb⟩; have p4 := Aside0.mk (p3.out.step r kb); clear r kb; clear d0 d1 d2 d3 d4 e0 e2 e3 e4 k1; have d0 := p4.out.d0; have d1 := p4.out.d1; have d2 := p4.out.d2; have d3 := p4.out.d3; have d4 := p4.out.d4; have e0 := p4.out.e 0; have e2 := p4.out.e 2; have e3 := p4.out.e 3; have e4 := p4.out.e 4; have k1 := p4.out.rs.c1) | ((with_reducible show wpList _ _ _ (Oper.mk none (Op.store 48 (Operand.tmp 2) (Operand.tmp 73)) _ _ _ _ :: _) _ _); refine wpList_store_blk rfl 48 (.tmp 2) (.tmp 73) rfl w.heap.size #[.int .i64 2, .int .i64 at_, .int .i64 at', .slice none 0 0, .slice none 0 0] rfl rfl 48 _ ((p4.out.set0 hW.out (.int .i64 2)).set2 hW.out _).z size48 rfl rfl ?_; intro w9 hB9 hg9; have h9 := Aside0.mk (((p4.out.set0 hW.out (.int .i64 2)).set2 hW.out _).fin hg9 hW.out)))
  refine bodyPost_ret (results_blk_tmp (p := 2) (q := 3) rfl _ _ w.heap.size 48 _ _ rfl hB9 Tryz.underlying48 rfl size48) rfl ?_
  exact ⟨_, _, rfl, Kd.R_nil _ _ _ _ _, Kd.R_nil _ _ _ _ _, h9.out.is, h9.out.below, h9.out.keep⟩

set_option maxHeartbeats 8000000 in
set_option maxRecDepth 100000 in
theorem value_bad_a (g : Nat) (s s1 s2 s3 s' : ByteArray) (at_ a1 a2 a3 at' c : Int) (h1 : c < 48) (h0 : c ≠ 45) (hq : c ≠ 34) (w0 w : World) (hi : IsS120 w0 w g s at_) (hb : Below w0.heap.size w0 w)
    (f1 : spec_reader_here.f s at_ = some (c, s1, a1)) (g0 : spec_reader_word.f s1 a1 wNull = some (false, s2, a2)) (g1 : spec_reader_word.f s2 a2 wFalse = some (false, s3, a3)) (g2 : spec_reader_word.f s3 a3 wTrue = some (false, s', at')) :
    Calls Tryz.prog 76 #[.pointer (some ⟨g, 0, none⟩)] w (VPost ⟨0, at_, at', [], []⟩ false w0 w g s' at') := by
  have h0 := Aside0.mk (RS.start hi hb)
  have hW := Aside0.mk (show w0.heap.size ≤ w.heap.size from h0.out.below.size)
  have c1 := fun o => (h0.out.alloc o).c1
  have t1 : (c == 123) = false := by rw [beq_eq_false_iff_ne]; omega
  have t2 : (c == 91) = false := by rw [beq_eq_false_iff_ne]; omega
  have t3 : (c == 34) = false := by rw [beq_eq_false_iff_ne]; omega
  have t4 : (c == 45) = false := by rw [beq_eq_false_iff_ne]; omega
  have t5 : decide (48 ≤ c) = false := by simp; omega
  have C1 : ∀ wr, RS w0 w g s at_ wr → Hid _ := fun wr h => Lib.hid (here_rs h f1)
  have C2 : ∀ wr, RS w0 w g s1 a1 wr → Hid _ := fun wr h => Lib.hid (word_rs h g0)
  have C3 : ∀ wr, RS w0 w g s2 a2 wr → Hid _ := fun wr h => Lib.hid (word_rs h g1)
  have C4 : ∀ wr, RS w0 w g s3 a3 wr → Hid _ := fun wr h => Lib.hid (word_rs h g2)
  clear f1 g0 g1 g2
  clear hi hb
  go_enter Tryz.func76, Tryz.ntmps76
  go_wp2_with (first | (go_at_call 116; refine ((C1 _ (PS.start h0.out (.int .i64 0) (.int .i64 at_) (.int .i64 0) (.slice none 0 0) (.slice none 0 0)).rs).out).mono ?_; rintro e w1 ⟨rfl, r, kb⟩; have p1 := Aside0.mk ((PS.start h0.out (.int .i64 0) (.int .i64 at_) (.int .i64 0) (.slice none 0 0) (.slice none 0 0)).step r kb); clear r kb; have d0 := p1.out.d0; have d1 := p1.out.d1; have d2 := p1.out.d2; have d3 := p1.out.d3; have d4 := p1.out.d4; have e0 := p1.out.e 0; have e2 := p1.out.e 2; have e3 := p1.out.e 3; have e4 := p1.out.e 4; have k1 := p1.out.rs.c1) | (go_at_call_of 121 (Value.string (⟨#[110, 117, 108, 108]⟩ : ByteArray)); refine ((C2 _ p1.out.rs).out).mono ?_; rintro e w2 ⟨rfl, r, kb⟩; have p2 := Aside0.mk (p1.out.step r kb); clear r kb; clear d0 d1 d2 d3 d4 e0 e2 e3 e4 k1; have d0 := p2.out.d0; have d1 := p2.out.d1; have d2 := p2.out.d2; have d3 := p2.out.d3; have d4 := p2.out.d4; have e0 := p2.out.e 0; have e2 := p2.out.e 2; have e3 := p2.out.e 3; have e4 := p2.out.e 4; have k1 := p2.out.rs.c1) | (go_at_call_of 121 (Value.string (⟨#[102, 97, 108, 115, 101]⟩ : ByteArray)); refine ((C3 _ p2.out.rs).out).mono ?_; rintro e w3 ⟨rfl, r, kb⟩; have p3 := Aside0.mk (p2.out.step r kb); clear r kb; clear d0 d1 d2 d3 d4 e0 e2 e3 e4 k1; have d0 := p3.out.d0; have d1 := p3.out.d1; have d2 := p3.out.d2; have d3 := p3.out.d3; have d4 := p3.out.d4; have e0 := p3.out.e 0; have e2 := p3.out.e 2; have e3 := p3.out.e 3; have e4 := p3.out.e 4; have k1 := p3.out.rs.c1) | (go_at_call_of 121 (Value.string (⟨#[116, 114, 117, 101]⟩ : ByteArray)); refine ((C4 _ p3.out.rs).out).mono ?_; rintro e w4 ⟨rfl, r, kb⟩; have p4 := Aside0.mk (p3.out.step r kb); clear r kb; clear d0 d1 d2 d3 d4 e0 e2 e3 e4 k1; have d0 := p4.out.d0; have d1 := p4.out.d1; have d2 := p4.out.d2; have d3 := p4.out.d3; have d4 := p4.out.d4; have e0 := p4.out.e 0; have e2 := p4.out.e 2; have e3 := p4.out.e 3; have e4 := p4.out.e 4; have k1 := p4.out.rs.c1) | ((with_reducible show wpList _ _ _ (Oper.mk none (Op.store 48 (Operand.tmp 2) (Operand.tmp 73)) _ _ _ _ :: _) _ _); refine wpList_store_blk rfl 48 (.tmp 2) (.tmp 73) rfl w.heap.size #[.int .i64 0, .int .i64 at_, .int .i64 at', .slice none 0 0, .slice none 0 0] rfl rfl 48 _ ((p4.out).set2 hW.out _).z size48 rfl rfl ?_; intro w9 hB9 hg9; have h9 := Aside0.mk (((p4.out).set2 hW.out _).fin hg9 hW.out)))
  refine bodyPost_ret (results_blk_tmp (p := 2) (q := 3) rfl _ _ w.heap.size 48 _ _ rfl hB9 Tryz.underlying48 rfl size48) rfl ?_
  exact ⟨_, _, rfl, Kd.R_nil _ _ _ _ _, Kd.R_nil _ _ _ _ _, h9.out.is, h9.out.below, h9.out.keep⟩

set_option maxHeartbeats 8000000 in
set_option maxRecDepth 100000 in
theorem value_bad_b (g : Nat) (s s1 s2 s3 s' : ByteArray) (at_ a1 a2 a3 at' c : Int) (h1 : 57 < c) (h0 : c ≠ 123) (hq : c ≠ 91) (w0 w : World) (hi : IsS120 w0 w g s at_) (hb : Below w0.heap.size w0 w)
    (f1 : spec_reader_here.f s at_ = some (c, s1, a1)) (g0 : spec_reader_word.f s1 a1 wNull = some (false, s2, a2)) (g1 : spec_reader_word.f s2 a2 wFalse = some (false, s3, a3)) (g2 : spec_reader_word.f s3 a3 wTrue = some (false, s', at')) :
    Calls Tryz.prog 76 #[.pointer (some ⟨g, 0, none⟩)] w (VPost ⟨0, at_, at', [], []⟩ false w0 w g s' at') := by
  have h0 := Aside0.mk (RS.start hi hb)
  have hW := Aside0.mk (show w0.heap.size ≤ w.heap.size from h0.out.below.size)
  have c1 := fun o => (h0.out.alloc o).c1
  have t1 : (c == 123) = false := by rw [beq_eq_false_iff_ne]; omega
  have t2 : (c == 91) = false := by rw [beq_eq_false_iff_ne]; omega
  have t3 : (c == 34) = false := by rw [beq_eq_false_iff_ne]; omega
  have t4 : (c == 45) = false := by rw [beq_eq_false_iff_ne]; omega
  have t5 : decide (48 ≤ c) = true := by simp; omega
  have t6 : decide (c ≤ 57) = false := by simp; omega
  have C1 : ∀ wr, RS w0 w g s at_ wr → Hid _ := fun wr h => Lib.hid (here_rs h f1)
  have C2 : ∀ wr, RS w0 w g s1 a1 wr → Hid _ := fun wr h => Lib.hid (word_rs h g0)
  have C3 : ∀ wr, RS w0 w g s2 a2 wr → Hid _ := fun wr h => Lib.hid (word_rs h g1)
  have C4 : ∀ wr, RS w0 w g s3 a3 wr → Hid _ := fun wr h => Lib.hid (word_rs h g2)
  clear f1 g0 g1 g2
  clear hi hb
  go_enter Tryz.func76, Tryz.ntmps76
  go_wp2_with (first | (go_at_call 116; refine ((C1 _ (PS.start h0.out (.int .i64 0) (.int .i64 at_) (.int .i64 0) (.slice none 0 0) (.slice none 0 0)).rs).out).mono ?_; rintro e w1 ⟨rfl, r, kb⟩; have p1 := Aside0.mk ((PS.start h0.out (.int .i64 0) (.int .i64 at_) (.int .i64 0) (.slice none 0 0) (.slice none 0 0)).step r kb); clear r kb; have d0 := p1.out.d0; have d1 := p1.out.d1; have d2 := p1.out.d2; have d3 := p1.out.d3; have d4 := p1.out.d4; have e0 := p1.out.e 0; have e2 := p1.out.e 2; have e3 := p1.out.e 3; have e4 := p1.out.e 4; have k1 := p1.out.rs.c1) | (go_at_call_of 121 (Value.string (⟨#[110, 117, 108, 108]⟩ : ByteArray)); refine ((C2 _ p1.out.rs).out).mono ?_; rintro e w2 ⟨rfl, r, kb⟩; have p2 := Aside0.mk (p1.out.step r kb); clear r kb; clear d0 d1 d2 d3 d4 e0 e2 e3 e4 k1; have d0 := p2.out.d0; have d1 := p2.out.d1; have d2 := p2.out.d2; have d3 := p2.out.d3; have d4 := p2.out.d4; have e0 := p2.out.e 0; have e2 := p2.out.e 2; have e3 := p2.out.e 3; have e4 := p2.out.e 4; have k1 := p2.out.rs.c1) | (go_at_call_of 121 (Value.string (⟨#[102, 97, 108, 115, 101]⟩ : ByteArray)); refine ((C3 _ p2.out.rs).out).mono ?_; rintro e w3 ⟨rfl, r, kb⟩; have p3 := Aside0.mk (p2.out.step r kb); clear r kb; clear d0 d1 d2 d3 d4 e0 e2 e3 e4 k1; have d0 := p3.out.d0; have d1 := p3.out.d1; have d2 := p3.out.d2; have d3 := p3.out.d3; have d4 := p3.out.d4; have e0 := p3.out.e 0; have e2 := p3.out.e 2; have e3 := p3.out.e 3; have e4 := p3.out.e 4; have k1 := p3.out.rs.c1) | (go_at_call_of 121 (Value.string (⟨#[116, 114, 117, 101]⟩ : ByteArray)); refine ((C4 _ p3.out.rs).out).mono ?_; rintro e w4 ⟨rfl, r, kb⟩; have p4 := Aside0.mk (p3.out.step r kb); clear r kb; clear d0 d1 d2 d3 d4 e0 e2 e3 e4 k1; have d0 := p4.out.d0; have d1 := p4.out.d1; have d2 := p4.out.d2; have d3 := p4.out.d3; have d4 := p4.out.d4; have e0 := p4.out.e 0; have e2 := p4.out.e 2; have e3 := p4.out.e 3; have e4 := p4.out.e 4; have k1 := p4.out.rs.c1) | ((with_reducible show wpList _ _ _ (Oper.mk none (Op.store 48 (Operand.tmp 2) (Operand.tmp 73)) _ _ _ _ :: _) _ _); refine wpList_store_blk rfl 48 (.tmp 2) (.tmp 73) rfl w.heap.size #[.int .i64 0, .int .i64 at_, .int .i64 at', .slice none 0 0, .slice none 0 0] rfl rfl 48 _ ((p4.out).set2 hW.out _).z size48 rfl rfl ?_; intro w9 hB9 hg9; have h9 := Aside0.mk (((p4.out).set2 hW.out _).fin hg9 hW.out)))
  refine bodyPost_ret (results_blk_tmp (p := 2) (q := 3) rfl _ _ w.heap.size 48 _ _ rfl hB9 Tryz.underlying48 rfl size48) rfl ?_
  exact ⟨_, _, rfl, Kd.R_nil _ _ _ _ _, Kd.R_nil _ _ _ _ _, h9.out.is, h9.out.below, h9.out.keep⟩

theorem value_of (k : Nat) (hM : ∀ j, j < k → MSaid j) (hE : ∀ j, j < k → ESaid j) : VSaid k := by
  intro g s at_ P ok s' at' w0 w hi hb hf
  show Calls _ _ _ _ (VPost P ok w0 w g s' at')
  cases k with
  | zero => simp [rv] at hf
  | succ k =>
  rw [rv] at hf
  obtain ⟨⟨c, s1, a1⟩, f1, hf⟩ := Option.bind_eq_some_iff.mp hf
  simp only at hf
  by_cases c1 : c = 123
  · subst c1
    rw [if_pos rfl] at hf
    obtain ⟨⟨ns, ks, b, s2, a2⟩, f2, hf⟩ := Option.bind_eq_some_iff.mp hf
    simp only [Option.some.injEq, Prod.mk.injEq] at hf
    obtain ⟨rfl, rfl, rfl, rfl⟩ := hf
    exact value_members k g (hM k (Nat.lt_succ_self k)) s s1 _ at_ a1 _ ns ks _ w0 w hi hb f1 ⟨f2⟩
  rw [if_neg c1] at hf
  by_cases c2 : c = 91
  · subst c2
    rw [if_pos rfl] at hf
    obtain ⟨⟨ks, b, s2, a2⟩, f2, hf⟩ := Option.bind_eq_some_iff.mp hf
    simp only [Option.some.injEq, Prod.mk.injEq] at hf
    obtain ⟨rfl, rfl, rfl, rfl⟩ := hf
    exact value_elements k g (hE k (Nat.lt_succ_self k)) s s1 _ at_ a1 _ ks _ w0 w hi hb f1 ⟨f2⟩
  rw [if_neg c2] at hf
  by_cases c3 : c = 34
  · subst c3
    rw [if_pos rfl] at hf
    obtain ⟨⟨b, s2, a2⟩, f2, hf⟩ := Option.bind_eq_some_iff.mp hf
    simp only [Option.some.injEq, Prod.mk.injEq] at hf
    obtain ⟨rfl, rfl, rfl, rfl⟩ := hf
    exact value_quoted k g s s1 _ at_ a1 _ _ w0 w hi hb f1 f2
  rw [if_neg c3] at hf
  by_cases c4 : c = 45 ∨ (48 ≤ c ∧ c ≤ 57)
  · rw [if_pos c4] at hf
    obtain ⟨⟨b, s2, a2⟩, f2, hf⟩ := Option.bind_eq_some_iff.mp hf
    simp only [Option.some.injEq, Prod.mk.injEq] at hf
    obtain ⟨rfl, rfl, rfl, rfl⟩ := hf
    rcases c4 with c4 | ⟨h1, h2⟩
    · exact value_number_a k g s s1 _ at_ a1 _ c _ c4 w0 w hi hb f1 f2
    · exact value_number_b k g s s1 _ at_ a1 _ c _ h1 h2 w0 w hi hb f1 f2
  rw [if_neg c4] at hf
  have c5 : c < 48 ∨ 57 < c := by omega
  have c6 : c ≠ 45 := fun e => c4 (.inl e)
  obtain ⟨⟨b, s2, a2⟩, f2, hf⟩ := Option.bind_eq_some_iff.mp hf
  cases b with
  | true =>
    simp only [if_true, Option.some.injEq, Prod.mk.injEq] at hf
    obtain ⟨rfl, rfl, rfl, rfl⟩ := hf
    rcases c5 with c5 | c5
    · exact value_null_a g s s1 _ at_ a1 _ c c5 c6 c3 w0 w hi hb f1 f2
    · exact value_null_b g s s1 _ at_ a1 _ c c5 c1 c2 w0 w hi hb f1 f2
  | false =>
  simp only [Bool.false_eq_true, if_false] at hf
  obtain ⟨⟨b, s3, a3⟩, f3, hf⟩ := Option.bind_eq_some_iff.mp hf
  cases b with
  | true =>
    simp only [if_true, Option.some.injEq, Prod.mk.injEq] at hf
    obtain ⟨rfl, rfl, rfl, rfl⟩ := hf
    rcases c5 with c5 | c5
    · exact value_false_a g s s1 s2 _ at_ a1 a2 _ c c5 c6 c3 w0 w hi hb f1 f2 f3
    · exact value_false_b g s s1 s2 _ at_ a1 a2 _ c c5 c1 c2 w0 w hi hb f1 f2 f3
  | false =>
  simp only [Bool.false_eq_true, if_false] at hf
  obtain ⟨⟨b, s4, a4⟩, f4, hf⟩ := Option.bind_eq_some_iff.mp hf
  cases b with
  | true =>
    simp only [if_true, Option.some.injEq, Prod.mk.injEq] at hf
    obtain ⟨rfl, rfl, rfl, rfl⟩ := hf
    rcases c5 with c5 | c5
    · exact value_true_a g s s1 s2 s3 _ at_ a1 a2 a3 _ c c5 c6 c3 w0 w hi hb f1 f2 f3 f4
    · exact value_true_b g s s1 s2 s3 _ at_ a1 a2 a3 _ c c5 c1 c2 w0 w hi hb f1 f2 f3 f4
  | false =>
    simp only [Bool.false_eq_true, if_false, Option.some.injEq, Prod.mk.injEq] at hf
    obtain ⟨rfl, rfl, rfl, rfl⟩ := hf
    rcases c5 with c5 | c5
    · exact value_bad_a g s s1 s2 s3 _ at_ a1 a2 a3 _ c c5 c6 c3 w0 w hi hb f1 f2 f3 f4
    · exact value_bad_b g s s1 s2 s3 _ at_ a1 a2 a3 _ c c5 c1 c2 w0 w hi hb f1 f2 f3 f4

/-- value, members, elements: for every bound on the rounds. -/
theorem reader_all (k : Nat) : VSaid k ∧ MSaid k ∧ ESaid k := by
  induction k using Nat.strongRecOn with
  | _ k ih => exact ⟨value_of k (fun j hj => (ih j hj).2.1) (fun j hj => (ih j hj).2.2), members_of k (fun j hj => (ih j hj).1), elements_of k (fun j hj => (ih j hj).1)⟩
end Go.Proofs.YtdolnkknlflmeaaGreatDoor.L
