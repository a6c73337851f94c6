/-
  Walk of the reader's elements, given value at fewer rounds.
-/
import Derived.Test.YtdolnkknlflmeaaGreatDoorZVd
import Derived.Lib.Hide
import Derived.Deep.RegionWith
namespace Go.Proofs.YtdolnkknlflmeaaGreatDoor.L
open Go.RowKit Go.Proofs.YtdolnkknlflmeaaGreatDoorW.PrintWords Go.Proofs.YtdolnkknlflmeaaGreatDoorW.PrintLast Go.Proofs.YtdolnkknlflmeaaGreatDoorW.PrintMore
set_option linter.unusedVariables false
set_option linter.unusedSimpArgs false

theorem blanks_rs {k g : Nat} {s s' : ByteArray} {at_ at' : Int} {w0 w wr : World} (h : RS w0 w g s at_ wr) (hf : spec_reader_blanks.f k s at_ = some (s', at')) :
    Calls Tryz.prog 75 #[.pointer (some ⟨g, 0, none⟩)] wr fun e w' => e = .returned (.tuple #[]) ∧ RS w0 w g s' at' w' ∧ KeepBut wr w' g none :=
  (spec_reader_blanks.calls k g s at_ s' at' w0 wr h.is h.below hf).mono fun _ _ ⟨he, hi, hb, hk⟩ => ⟨he, h.step hi hb hk, hk⟩
theorem take_rs {g : Nat} {s s' : ByteArray} {at_ at' c : Int} {b : Bool} {w0 w wr : World} (h : RS w0 w g s at_ wr) (hf : spec_reader_take.f s at_ c = some (b, s', at')) :
    Calls Tryz.prog 155 #[.pointer (some ⟨g, 0, none⟩), .int .u8 c] wr fun e w' => e = .returned (.bool b) ∧ RS w0 w g s' at' w' ∧ KeepBut wr w' g none :=
  (spec_reader_take.calls g s at_ c b s' at' w0 wr h.is h.below hf).mono fun _ _ ⟨he, hi, hb, hk⟩ => ⟨he, h.step hi hb hk, hk⟩
theorem here_rs {g : Nat} {s s' : ByteArray} {at_ at' c : Int} {w0 w wr : World} (h : RS w0 w g s at_ wr) (hf : spec_reader_here.f s at_ = some (c, s', at')) :
    Calls Tryz.prog 116 #[.pointer (some ⟨g, 0, none⟩)] wr fun e w' => e = .returned (.int .u8 c) ∧ RS w0 w g s' at' w' ∧ KeepBut wr w' g none :=
  (spec_reader_here.calls g s at_ c s' at' w0 wr h.is h.below hf).mono fun _ _ ⟨he, hi, hb, hk⟩ => ⟨he, h.step hi hb hk, hk⟩
theorem quoted_rs {k g : Nat} {s s' : ByteArray} {at_ at' : Int} {b : Bool} {w0 w wr : World} (h : RS w0 w g s at_ wr) (hf : spec_reader_quoted.f k s at_ = some (b, s', at')) :
    Calls Tryz.prog 119 #[.pointer (some ⟨g, 0, none⟩)] wr fun e w' => e = .returned (.bool b) ∧ RS w0 w g s' at' w' ∧ KeepBut wr w' g none :=
  (spec_reader_quoted.calls k g s at_ b s' at' w0 wr h.is h.below hf).mono fun _ _ ⟨he, hi, hb, hk⟩ => ⟨he, h.step hi hb hk, hk⟩
theorem number_rs {k g : Nat} {s s' : ByteArray} {at_ at' : Int} {b : Bool} {w0 w wr : World} (h : RS w0 w g s at_ wr) (hf : spec_reader_number.f k s at_ = some (b, s', at')) :
    Calls Tryz.prog 120 #[.pointer (some ⟨g, 0, none⟩)] wr fun e w' => e = .returned (.bool b) ∧ RS w0 w g s' at' w' ∧ KeepBut wr w' g none :=
  (spec_reader_number.calls k g s at_ b s' at' w0 wr h.is h.below hf).mono fun _ _ ⟨he, hi, hb, hk⟩ => ⟨he, h.step hi hb hk, hk⟩
theorem word_rs {g : Nat} {s s' a : ByteArray} {at_ at' : Int} {b : Bool} {w0 w wr : World} (h : RS w0 w g s at_ wr) (hf : spec_reader_word.f s at_ a = some (b, s', at')) :
    Calls Tryz.prog 121 #[.pointer (some ⟨g, 0, none⟩), .string a] wr fun e w' => e = .returned (.bool b) ∧ RS w0 w g s' at' w' ∧ KeepBut wr w' g none :=
  (spec_reader_word.calls g s at_ a b s' at' w0 wr h.is h.below hf).mono fun _ _ ⟨he, hi, hb, hk⟩ => ⟨he, h.step hi hb hk, hk⟩
theorem value_rs {k g : Nat} {s s' : ByteArray} {at_ at' : Int} {P : S48} {b : Bool} {w0 w wr : World} (hv : VSaid k) (h : RS w0 w g s at_ wr) (hf : rv k s at_ = some (P, b, s', at')) :
    Calls Tryz.prog 76 #[.pointer (some ⟨g, 0, none⟩)] wr fun e w' => ∃ v3 v4 : Value, e = .returned (.tuple #[.agg #[.int .i64 P.f0, .int .i64 P.f1, .int .i64 P.f2, v3, v4], .bool b]) ∧
      Kd.R k84 84 w' wr.heap.size (fun _ => True) v3 P.f3 ∧ Kd.R k48 48 w' wr.heap.size (fun j => some j ≠ v3.ownBlock) v4 P.f4 ∧ RS w0 w g s' at' w' ∧ KeepBut wr w' g none :=
  (hv g s at_ P b s' at' w0 wr h.is h.below hf).mono fun _ _ ⟨v3, v4, he, h3, h4, hi, hb, hk⟩ => ⟨v3, v4, he, h3, h4, h.step hi hb hk, hk⟩

theorem not120_48 : ∀ q, q ∈ 48 :: k48.E → q ≠ 120 := by intro q hq; rcases List.mem_cons.1 hq with rfl | hq; decide; revert hq; change q ∈ [48, 84] → _; intro hq; simp at hq; omega
theorem not120_84 : ∀ q, q ∈ 84 :: k84.E → q ≠ 120 := by intro q hq; rcases List.mem_cons.1 hq with rfl | hq; decide; cases hq

/-- A place that value has handed back, as a made element: its rows are none of an elder row. -/
theorem place_mk {α : Type} {d : Kd α} {e base : Nat} {ok : Nat → Prop} {v v3 v4 : Value} {xs : List α} {wr w1 : World} {P : S48} (h : d.R e wr base ok v xs) (h3 : Kd.R k84 84 w1 wr.heap.size (fun _ => True) v3 P.f3) (h4 : Kd.R k48 48 w1 wr.heap.size (fun j => some j ≠ v3.ownBlock) v4 P.f4) (hb : base ≤ wr.heap.size) :
    k48.M w1 base (fun j => some j ≠ v.ownBlock) P [.int .i64 P.f0, .int .i64 P.f1, .int .i64 P.f2, v3, v4] := by
  obtain ⟨inner, ho⟩ := Kd.R_own h
  exact k48.M_lower hb (k48_mkM _ _ _ P (Kd.R_mono (Kd.R_new h3 ho) (fun _ h => h.2)) (Kd.R_mono (Kd.R_new h4 ho) (fun _ h => h.2)))
theorem M_alloc {α : Type} {d : Kd α} {base : Nat} {ok : Nat → Prop} {x : α} {cs : List Value} {w : World} (h : d.M w base ok x cs) (o : Obj) : d.M (w.alloc o) base ok x cs := Kd.M_below h ((Below.refl _ _).alloc (Nat.le_refl _) _)
theorem R_alloc' {α : Type} {d : Kd α} {e base : Nat} {ok : Nat → Prop} {v : Value} {xs : List α} {w : World} (h : d.R e w base ok v xs) (o : Obj) : d.R e (w.alloc o) base ok v xs := Kd.R_below h ((Below.refl _ _).alloc (Nat.le_refl _) _)

theorem RS.append {α : Type} {d : Kd α} {e : Nat} {ok : Nat → Prop} {v : Value} {xs : List α} {w0 w wr w5 : World} {g : Nat} {s : ByteArray} {at_ : Int} {o : Obj} (h : RS w0 w g s at_ wr) (hR : d.R e wr w.heap.size ok v xs) (hg : (wr.alloc o).grownBy w5 v.ownBlock) (hW : w0.heap.size ≤ w.heap.size) (he : e ≠ 120) : RS w0 w g s at_ w5 := by
  have hA := h.alloc o
  obtain ⟨inner, ho⟩ := Kd.R_own hR
  exact hA.grown hg (hA.is.own_ne (R_alloc' hR o) he) (fun j hj => own_base ho j hj) hW

/-- What elements returns, behind a definition. -/
def EPost (ks : List S48) (ok : Bool) (w0 w : World) (g : Nat) (s' : ByteArray) (at' : Int) (e : Ending) (w' : World) : Prop := ∃ v4 : Value, e = .returned (.tuple #[v4, .bool ok]) ∧
    Kd.R k48 48 w' w.heap.size (fun _ => True) v4 ks ∧ IsS120 w0 w' g s' at' ∧ Below w0.heap.size w0 w' ∧ KeepBut w w' g none

set_option maxHeartbeats 4000000 in
set_option maxRecDepth 100000 in
theorem elements_of (k : Nat) (ih : ∀ j, j < k → VSaid j) : ESaid k := by
  intro g s at_ ks ok s' at' w0 w hi hb hf
  show Calls _ _ _ _ (EPost ks ok w0 w g s' at')
  cases k with
  | zero => simp [re] at hf
  | succ k =>
  rw [re] at hf
  obtain ⟨⟨s1, a1⟩, f1, hf⟩ := Option.bind_eq_some_iff.mp hf
  obtain ⟨⟨t, s2, a2⟩, f2, hf⟩ := Option.bind_eq_some_iff.mp hf
  have h0 := Aside0.mk (RS.start hi hb)
  have c1 := h0.out.c1
  have z1 := h0.out.f1
  have C1 : ∀ wr, RS w0 w g s (wrap64 (at_ + 1)) wr → Hid _ := fun wr h => Lib.hid (blanks_rs (k := k) h f1)
  have C2 : ∀ wr, RS w0 w g s1 a1 wr → Hid _ := fun wr h => Lib.hid (take_rs (c := 93) h f2)
  clear f1 f2 hi hb
  cases t with
  | true =>
    simp only [if_true] at hf
    simp only [Option.some.injEq, Prod.mk.injEq] at hf
    obtain ⟨rfl, rfl, rfl, rfl⟩ := hf
    go_enter Tryz.func118, Tryz.ntmps118
    go_wp2_with (first | (go_at_call 75; refine ((C1 _ (h0.out.set _)).out).mono ?_; rintro e w1 ⟨rfl, r1, -⟩; have h1 := Aside0.mk r1; clear r1) | (go_at_call 155; refine ((C2 _ h1.out).out).mono ?_; rintro e w2 ⟨rfl, r2, -⟩; have h2 := Aside0.mk r2; clear r2))
    go_ret2
    exact ⟨_, rfl, Kd.R_nil _ _ _ _ _, h2.out.is, h2.out.below, h2.out.keep⟩
  | false =>
    simp only [Bool.false_eq_true, if_false] at hf
    have hF := Aside0.mk hf
    have hW := Aside0.mk (show w0.heap.size ≤ w.heap.size from h0.out.below.size)
    clear hf
    go_enter Tryz.func118, Tryz.ntmps118
    go_wp2_with (first | (go_at_call 75; refine ((C1 _ (h0.out.set _)).out).mono ?_; rintro e w1 ⟨rfl, r1, -⟩; have h1 := Aside0.mk r1; clear r1) | (go_at_call 155; refine ((C2 _ h1.out).out).mono ?_; rintro e w2 ⟨rfl, r2, -⟩; have h2 := Aside0.mk r2; clear r2))
    clear C1 C2 c1 z1
    go_loopg [4] k (fun kq v4 wr => ∃ (ks1 : List S48) (s1 : ByteArray) (a1 : Int), Aside0 (rel kq s1 a1 ks1 = some (ks, ok, s', at')) ∧ Aside0 (kq ≤ k) ∧ Aside0 (Kd.R k48 48 wr w.heap.size (fun _ => True) v4 ks1) ∧ Aside0 (RS w0 w g s1 a1 wr))
    case atStart => exact ⟨[], _, _, hF, ⟨Nat.le_refl _⟩, ⟨Kd.R_nil _ _ _ _ _⟩, h2⟩
    case round =>
      clear hF h2 h1 h0
      obtain ⟨ks1, s1, a1, hF, hK, hR, h0⟩ := hrel
      obtain ⟨hf⟩ := hF
      cases gk with
      | zero => simp [rel] at hf
      | succ kq =>
      rw [rel] at hf
      obtain ⟨⟨P, t, s2, a2⟩, f1, hf⟩ := Option.bind_eq_some_iff.mp hf
      have C1 := Lib.hid (value_rs (ih kq (by have := hK.out; omega)) h0.out f1)
      clear f1
      cases t with
      | false =>
        simp only [Bool.false_eq_true, if_false, Option.some.injEq, Prod.mk.injEq] at hf
        obtain ⟨rfl, rfl, rfl, rfl⟩ := hf
        go_wp2_with (first | (go_at_call 76; refine (C1.out).mono ?_; rintro e w1 ⟨v3, v4, rfl, r3, r4, r1, kb⟩; have h1 := Aside0.mk r1; clear r1; obtain ⟨A3, c3, q3⟩ := Kd.R_slice r3; obtain ⟨A4, c4, q4⟩ := Kd.R_slice r4; subst q3; subst q4; clear r3 r4 kb))
        go_ret2
        exact ⟨_, rfl, Kd.R_nil _ _ _ _ _, (h1.out.alloc _).is, (h1.out.alloc _).below, (h1.out.alloc _).keep⟩
      | true =>
        simp only [if_true] at hf
        by_cases hl : ks1.length < 1954687338268
        · rw [if_pos hl] at hf
          obtain ⟨⟨s3, a3⟩, f2, hf⟩ := Option.bind_eq_some_iff.mp hf
          obtain ⟨⟨t, s4, a4⟩, f3, hf⟩ := Option.bind_eq_some_iff.mp hf
          have hL := Aside0.mk hl
          clear hl
          have C2 : ∀ wr, RS w0 w g s2 a2 wr → Hid _ := fun wr h => Lib.hid (blanks_rs (k := kq) h f2)
          have C3 : ∀ wr, RS w0 w g s3 a3 wr → Hid _ := fun wr h => Lib.hid (take_rs (c := 93) h f3)
          clear f2 f3
          cases t with
          | true =>
            simp only [if_true, Option.some.injEq, Prod.mk.injEq] at hf
            obtain ⟨rfl, rfl, rfl, rfl⟩ := hf
            go_wp2_with (first | (go_at_call 76; refine (C1.out).mono ?_; rintro e w1 ⟨v3, v4, rfl, r3, r4, r1, kb⟩; have hR1 := Aside0.mk (R_rs hR.out h0.out.is not120_48 kb); have hM := Aside0.mk (place_mk hR.out r3 r4 h0.out.size); have h1 := Aside0.mk r1; obtain ⟨A3, c3, q3⟩ := Kd.R_slice r3; obtain ⟨A4, c4, q4⟩ := Kd.R_slice r4; subst q3; subst q4; clear r1 r3 r4 kb) | (at_builtin; (refine Kd.R_append k48 (w0 := w1) w.heap.size rfl (.tmp 25) (.tmp 27) 46 48 (.agg #[(.int .i64 0), (.int .i64 0), (.int .i64 0), (.slice none 0 0), (.slice none 0 0)]) 72 rfl Tryz.underlying46 info48 rfl (by decide) (by omega) u4 ks1 P [.int .i64 P.f0, .int .i64 P.f1, .int .i64 P.f2, .slice A3 P.f3.length c3, .slice A4 P.f4.length c4] (fun _ => True) (fun j => some j ≠ u4.ownBlock) rfl ?aX ?aP (fun _ h => ⟨trivial, h⟩) (fun _ _ => trivial) ?aO ?aB ?aS ?aL ?_); (case aX => (show Value.slice (some ⟨w1.heap.size + 1, 0, none⟩) 1 1 = _; simp)); (case aP => exact M_alloc hM.out _); (case aO => exact R_alloc' hR1.out _); (case aB => exact (Below.refl _ _).alloc h1.out.size _); (case aS => exact Nat.le_trans h1.out.size (by simp)); (case aL => have := hL.out; omega); intro v5 w5 ho hb5 hg5 hat5; have hR5 := Aside0.mk ho; have h5 := Aside0.mk (RS.append h1.out hR1.out hg5 hW.out (by decide)); clear ho hb5 hg5 hat5) | (go_at_call 75; refine ((C2 _ h5.out).out).mono ?_; rintro e w6 ⟨rfl, r6, kb⟩; have h6 := Aside0.mk r6; have hR6 := Aside0.mk (R_rs hR5.out h5.out.is not120_48 kb); clear r6 kb) | (go_at_call 155; refine ((C3 _ h6.out).out).mono ?_; rintro e w7 ⟨rfl, r7, kb⟩; have h7 := Aside0.mk r7; have hR7 := Aside0.mk (R_rs hR6.out h6.out.is not120_48 kb); clear r7 kb))
            go_ret2
            exact ⟨_, rfl, hR7.out, h7.out.is, h7.out.below, h7.out.keep⟩
          | false =>
            simp only [Bool.false_eq_true, if_false] at hf
            obtain ⟨⟨t, s5, a5⟩, f4, hf⟩ := Option.bind_eq_some_iff.mp hf
            have C4 : ∀ wr, RS w0 w g s4 a4 wr → Hid _ := fun wr h => Lib.hid (take_rs (c := 44) h f4)
            clear f4
            cases t with
            | false =>
              simp only [Bool.false_eq_true, if_false, Option.some.injEq, Prod.mk.injEq] at hf
              obtain ⟨rfl, rfl, rfl, rfl⟩ := hf
              go_wp2_with (first | (go_at_call 76; refine (C1.out).mono ?_; rintro e w1 ⟨v3, v4, rfl, r3, r4, r1, kb⟩; have hR1 := Aside0.mk (R_rs hR.out h0.out.is not120_48 kb); have hM := Aside0.mk (place_mk hR.out r3 r4 h0.out.size); have h1 := Aside0.mk r1; obtain ⟨A3, c3, q3⟩ := Kd.R_slice r3; obtain ⟨A4, c4, q4⟩ := Kd.R_slice r4; subst q3; subst q4; clear r1 r3 r4 kb) | (at_builtin; (refine Kd.R_append k48 (w0 := w1) w.heap.size rfl (.tmp 25) (.tmp 27) 46 48 (.agg #[(.int .i64 0), (.int .i64 0), (.int .i64 0), (.slice none 0 0), (.slice none 0 0)]) 72 rfl Tryz.underlying46 info48 rfl (by decide) (by omega) u4 ks1 P [.int .i64 P.f0, .int .i64 P.f1, .int .i64 P.f2, .slice A3 P.f3.length c3, .slice A4 P.f4.length c4] (fun _ => True) (fun j => some j ≠ u4.ownBlock) rfl ?aX ?aP (fun _ h => ⟨trivial, h⟩) (fun _ _ => trivial) ?aO ?aB ?aS ?aL ?_); (case aX => (show Value.slice (some ⟨w1.heap.size + 1, 0, none⟩) 1 1 = _; simp)); (case aP => exact M_alloc hM.out _); (case aO => exact R_alloc' hR1.out _); (case aB => exact (Below.refl _ _).alloc h1.out.size _); (case aS => exact Nat.le_trans h1.out.size (by simp)); (case aL => have := hL.out; omega); intro v5 w5 ho hb5 hg5 hat5; have hR5 := Aside0.mk ho; have h5 := Aside0.mk (RS.append h1.out hR1.out hg5 hW.out (by decide)); clear ho hb5 hg5 hat5) | (go_at_call 75; refine ((C2 _ h5.out).out).mono ?_; rintro e w6 ⟨rfl, r6, kb⟩; have h6 := Aside0.mk r6; have hR6 := Aside0.mk (R_rs hR5.out h5.out.is not120_48 kb); clear r6 kb) | (go_at_call_of 155 (93 : Int); refine ((C3 _ h6.out).out).mono ?_; rintro e w7 ⟨rfl, r7, kb⟩; have h7 := Aside0.mk r7; have hR7 := Aside0.mk (R_rs hR6.out h6.out.is not120_48 kb); clear r7 kb) | (go_at_call_of 155 (44 : Int); refine ((C4 _ h7.out).out).mono ?_; rintro e w8 ⟨rfl, r8, kb⟩; have h8 := Aside0.mk r8; have hR8 := Aside0.mk (R_rs hR7.out h7.out.is not120_48 kb); clear r8 kb))
              go_ret2
              exact ⟨_, rfl, Kd.R_nil _ _ _ _ _, h8.out.is, h8.out.below, h8.out.keep⟩
            | true =>
              simp only [if_true] at hf
              obtain ⟨⟨s6, a6⟩, f5, hf⟩ := Option.bind_eq_some_iff.mp hf
              have C5 : ∀ wr, RS w0 w g s5 a5 wr → Hid _ := fun wr h => Lib.hid (blanks_rs (k := kq) h f5)
              have hF := Aside0.mk hf
              clear f5 hf
              go_wp2_with (first | (go_at_call 76; refine (C1.out).mono ?_; rintro e w1 ⟨v3, v4, rfl, r3, r4, r1, kb⟩; have hR1 := Aside0.mk (R_rs hR.out h0.out.is not120_48 kb); have hM := Aside0.mk (place_mk hR.out r3 r4 h0.out.size); have h1 := Aside0.mk r1; obtain ⟨A3, c3, q3⟩ := Kd.R_slice r3; obtain ⟨A4, c4, q4⟩ := Kd.R_slice r4; subst q3; subst q4; clear r1 r3 r4 kb) | (at_builtin; (refine Kd.R_append k48 (w0 := w1) w.heap.size rfl (.tmp 25) (.tmp 27) 46 48 (.agg #[(.int .i64 0), (.int .i64 0), (.int .i64 0), (.slice none 0 0), (.slice none 0 0)]) 72 rfl Tryz.underlying46 info48 rfl (by decide) (by omega) u4 ks1 P [.int .i64 P.f0, .int .i64 P.f1, .int .i64 P.f2, .slice A3 P.f3.length c3, .slice A4 P.f4.length c4] (fun _ => True) (fun j => some j ≠ u4.ownBlock) rfl ?aX ?aP (fun _ h => ⟨trivial, h⟩) (fun _ _ => trivial) ?aO ?aB ?aS ?aL ?_); (case aX => (show Value.slice (some ⟨w1.heap.size + 1, 0, none⟩) 1 1 = _; simp)); (case aP => exact M_alloc hM.out _); (case aO => exact R_alloc' hR1.out _); (case aB => exact (Below.refl _ _).alloc h1.out.size _); (case aS => exact Nat.le_trans h1.out.size (by simp)); (case aL => have := hL.out; omega); intro v5 w5 ho hb5 hg5 hat5; have hR5 := Aside0.mk ho; have h5 := Aside0.mk (RS.append h1.out hR1.out hg5 hW.out (by decide)); clear ho hb5 hg5 hat5) | (go_at_call 75; refine ((C2 _ h5.out).out).mono ?_; rintro e w6 ⟨rfl, r6, kb⟩; have h6 := Aside0.mk r6; have hR6 := Aside0.mk (R_rs hR5.out h5.out.is not120_48 kb); clear r6 kb) | (go_at_call_of 155 (93 : Int); refine ((C3 _ h6.out).out).mono ?_; rintro e w7 ⟨rfl, r7, kb⟩; have h7 := Aside0.mk r7; have hR7 := Aside0.mk (R_rs hR6.out h6.out.is not120_48 kb); clear r7 kb) | (go_at_call_of 155 (44 : Int); refine ((C4 _ h7.out).out).mono ?_; rintro e w8 ⟨rfl, r8, kb⟩; have h8 := Aside0.mk r8; have hR8 := Aside0.mk (R_rs hR7.out h7.out.is not120_48 kb); clear r8 kb) | (go_at_call 75; refine ((C5 _ h8.out).out).mono ?_; rintro e w9 ⟨rfl, r9, kb⟩; have h9 := Aside0.mk r9; have hR9 := Aside0.mk (R_rs hR8.out h8.out.is not120_48 kb); clear r9 kb))
              go_roundg kq
              case measure => omega
              case rel => exact ⟨_, _, _, hF, ⟨by have := hK.out; omega⟩, hR9, h9⟩
        · rw [if_neg hl] at hf; cases hf
end Go.Proofs.YtdolnkknlflmeaaGreatDoor.L
