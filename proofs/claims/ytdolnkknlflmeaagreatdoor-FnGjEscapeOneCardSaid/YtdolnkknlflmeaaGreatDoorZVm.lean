/-
  Walk of the reader's members, given value at fewer rounds.
-/
import Derived.Test.YtdolnkknlflmeaaGreatDoorZVe
namespace Go.Proofs.YtdolnkknlflmeaaGreatDoor.L
open Go.RowKit Go.Proofs.YtdolnkknlflmeaaGreatDoorW.PrintWords Go.Proofs.YtdolnkknlflmeaaGreatDoorW.PrintLast Go.Proofs.YtdolnkknlflmeaaGreatDoorW.PrintMore
set_option linter.unusedVariables false
set_option linter.unusedSimpArgs false

theorem R_other {α β : Type} {d : Kd α} {d' : Kd β} {e e' base base' : Nat} {ok ok' : Nat → Prop} {v v' : Value} {xs : List α} {ys : List β} {w w1 : World} (h : d.R e w base ok v xs) (h' : d'.R e' w base' ok' v' ys) (ht : ∀ q, q ∈ e :: d.E → q ≠ e') (hg : w.grownBy w1 v'.ownBlock) : d.R e w1 base ok v xs := by
  obtain ⟨inner, ho⟩ := Kd.R_own h'
  cases hb : v'.ownBlock with
  | none => rw [hb] at hg; exact Kd.R_grown h hg (fun _ _ => by simp)
  | some b =>
    rw [hb] at hg
    obtain ⟨cells, hc⟩ := own_typed ho b hb
    exact Kd.R_mono (Kd.R_grown (Kd.R_types h hc ht) hg (fun k hk e => hk.2 (Option.some.inj e))) (fun _ hk => hk.1)
/-- The two rows of members, apart. -/
structure Rows2 (w wr : World) (vN : Value) (ns : List S84) (vK : Value) (ks : List S48) : Prop where
  n : Kd.R k84 84 wr w.heap.size (fun _ => True) vN ns
  k : Kd.R k48 48 wr w.heap.size (fun j => some j ≠ vN.ownBlock) vK ks
theorem Rows2.step {w wr w1 w0 : World} {vN vK : Value} {ns : List S84} {ks : List S48} {g : Nat} {s : ByteArray} {a : Int} (h : Rows2 w wr vN ns vK ks) (hi : IsS120 w0 wr g s a) (hk : KeepBut wr w1 g none) : Rows2 w w1 vN ns vK ks :=
  ⟨R_rs h.n hi not120_84 hk, R_rs h.k hi not120_48 hk⟩
theorem Rows2.alloc {w wr : World} {vN vK : Value} {ns : List S84} {ks : List S48} (h : Rows2 w wr vN ns vK ks) (o : Obj) : Rows2 w (wr.alloc o) vN ns vK ks := ⟨R_alloc' h.n o, R_alloc' h.k o⟩
theorem Rows2.name {w wr w1 : World} {vN vK v1 : Value} {ns ns1 : List S84} {ks : List S48} (h : Rows2 w wr vN ns vK ks) (hn : Kd.R k84 84 w1 w.heap.size (fun _ => True) v1 ns1) (hg : wr.grownBy w1 vN.ownBlock) (hat : v1.ownBlock = vN.ownBlock ∨ ∃ b, v1.ownBlock = some b ∧ wr.heap.size ≤ b) : Rows2 w w1 v1 ns1 vK ks :=
  ⟨hn, Kd.R_mono (Kd.R_after (ok := fun _ => True) (Kd.R_mono h.k (fun _ hk => ⟨trivial, hk⟩)) hg hat) (fun _ hk => hk.2)⟩
theorem Rows2.kid {w wr w1 : World} {vN vK v1 : Value} {ns : List S84} {ks ks1 : List S48} (h : Rows2 w wr vN ns vK ks) (hn : Kd.R k48 48 w1 w.heap.size (fun j => some j ≠ vN.ownBlock) v1 ks1) (hg : wr.grownBy w1 vK.ownBlock) : Rows2 w w1 vN ns v1 ks1 :=
  ⟨R_other h.n h.k (by intro q hq; rcases List.mem_cons.1 hq with rfl | hq; decide; cases hq) hg, hn⟩
theorem Rows2.fresh {w wr : World} {vN vK : Value} {ns : List S84} {ks : List S48} (h : Rows2 w wr vN ns vK ks) : ∀ j, wr.heap.size ≤ j → some j ≠ vN.ownBlock := by
  intro j hj e
  obtain ⟨inner, ho⟩ := Kd.R_own h.n
  have := own_lt ho j e.symm
  omega
theorem place_mk2 {w wr w1 : World} {vN vK v3 v4 : Value} {ns : List S84} {ks : List S48} {P : S48} (h : Rows2 w wr vN ns vK ks) (h3 : Kd.R k84 84 w1 wr.heap.size (fun _ => True) v3 P.f3) (h4 : Kd.R k48 48 w1 wr.heap.size (fun j => some j ≠ v3.ownBlock) v4 P.f4) (hb : w.heap.size ≤ wr.heap.size) :
    k48.M w1 w.heap.size (fun j => some j ≠ vN.ownBlock ∧ some j ≠ vK.ownBlock) P [.int .i64 P.f0, .int .i64 P.f1, .int .i64 P.f2, v3, v4] := by
  obtain ⟨i1, o1⟩ := Kd.R_own h.n
  obtain ⟨i2, o2⟩ := Kd.R_own h.k
  exact k48.M_lower hb (k48_mkM _ _ _ P (Kd.R_mono (Kd.R_new (Kd.R_new h3 o1) o2) (fun _ h => ⟨h.1.2, h.2⟩)) (Kd.R_mono (Kd.R_new (Kd.R_new h4 o1) o2) (fun _ h => ⟨h.1.2, h.2⟩)))

theorem RS.append0 {α : Type} {d : Kd α} {e : Nat} {ok : Nat → Prop} {v : Value} {xs : List α} {w0 w wr w5 : World} {g : Nat} {s : ByteArray} {at_ : Int} (h : RS w0 w g s at_ wr) (hR : d.R e wr w.heap.size ok v xs) (hg : wr.grownBy w5 v.ownBlock) (hW : w0.heap.size ≤ w.heap.size) (he : e ≠ 120) : RS w0 w g s at_ w5 := by
  obtain ⟨inner, ho⟩ := Kd.R_own hR
  exact h.grown hg (h.is.own_ne hR he) (fun j hj => own_base ho j hj) hW

/-- What members returns, behind a definition. -/
def MPost (ns : List S84) (ks : List S48) (ok : Bool) (w0 w : World) (g : Nat) (s' : ByteArray) (at' : Int) (e : Ending) (w' : World) : Prop := ∃ v3 v4 : Value, e = .returned (.tuple #[v3, v4, .bool ok]) ∧
    Kd.R k84 84 w' w.heap.size (fun _ => True) v3 ns ∧ Kd.R k48 48 w' w.heap.size (fun j => some j ≠ v3.ownBlock) v4 ks ∧ IsS120 w0 w' g s' at' ∧ Below w0.heap.size w0 w' ∧ KeepBut w w' g none

set_option maxHeartbeats 8000000 in
set_option maxRecDepth 100000 in
theorem members_of (k : Nat) (ih : ∀ j, j < k → VSaid j) : MSaid k := by
  intro g s at_ ns ks ok s' at' w0 w hi hb hf
  show Calls _ _ _ _ (MPost ns ks ok w0 w g s' at')
  cases k with
  | zero => simp [rm] at hf
  | succ k =>
  rw [rm] at hf
  obtain ⟨⟨s1, a1⟩, f1, hf⟩ := Option.bind_eq_some_iff.mp hf
  obtain ⟨⟨t, s2, a2⟩, f2, hf⟩ := Option.bind_eq_some_iff.mp hf
  have h0 := Aside0.mk (RS.start hi hb)
  have hW := Aside0.mk (show w0.heap.size ≤ w.heap.size from h0.out.below.size)
  have c1 := h0.out.c1
  have z1 := h0.out.f1
  have C1 : ∀ wr, RS w0 w g s (wrap64 (at_ + 1)) wr → Hid _ := fun wr h => Lib.hid (blanks_rs (k := k) h f1)
  have C2 : ∀ wr, RS w0 w g s1 a1 wr → Hid _ := fun wr h => Lib.hid (take_rs (c := 125) h f2)
  clear f1 f2 hi hb
  cases t with
  | true =>
    simp only [if_true] at hf
    simp only [Option.some.injEq, Prod.mk.injEq] at hf
    obtain ⟨rfl, rfl, rfl, rfl, rfl⟩ := hf
    go_enter Tryz.func117, Tryz.ntmps117
    go_wp2_with (first | (go_at_call 75; refine ((C1 _ (h0.out.set _)).out).mono ?_; rintro e w1 ⟨rfl, r1, -⟩; have h1 := Aside0.mk r1; clear r1) | (go_at_call 155; refine ((C2 _ h1.out).out).mono ?_; rintro e w2 ⟨rfl, r2, -⟩; have h2 := Aside0.mk r2; clear r2))
    go_ret3
    exact ⟨_, _, rfl, Kd.R_nil _ _ _ _ _, Kd.R_nil _ _ _ _ _, h2.out.is, h2.out.below, h2.out.keep⟩
  | false =>
    simp only [Bool.false_eq_true, if_false] at hf
    have hF := Aside0.mk hf
    clear hf
    go_enter Tryz.func117, Tryz.ntmps117
    go_wp2_with (first | (go_at_call 75; refine ((C1 _ (h0.out.set _)).out).mono ?_; rintro e w1 ⟨rfl, r1, -⟩; have h1 := Aside0.mk r1; clear r1) | (go_at_call 155; refine ((C2 _ h1.out).out).mono ?_; rintro e w2 ⟨rfl, r2, -⟩; have h2 := Aside0.mk r2; clear r2))
    clear C1 C2 c1 z1
    go_loopg [5, 6] k (fun kq v5 v6 wr => ∃ (ns1 : List S84) (ks1 : List S48) (s1 : ByteArray) (a1 : Int), Aside0 (rml kq s1 a1 ns1 ks1 = some (ns, ks, ok, s', at')) ∧ Aside0 (kq ≤ k) ∧ Aside0 (Rows2 w wr v5 ns1 v6 ks1) ∧ Aside0 (RS w0 w g s1 a1 wr))
    case atStart => exact ⟨[], [], _, _, hF, ⟨Nat.le_refl _⟩, ⟨⟨Kd.R_nil _ _ _ _ _, Kd.R_nil _ _ _ _ _⟩⟩, h2⟩
    case round =>
      clear hF h2 h1 h0
      obtain ⟨ns1, ks1, s1, a1, hF, hK, hR0, h0⟩ := hrel
      obtain ⟨hf⟩ := hF
      cases gk with
      | zero => simp [rml] at hf
      | succ kq =>
      rw [rml] at hf
      have c1 := h0.out.c1
      obtain ⟨⟨c, s2, a2⟩, f1, hf⟩ := Option.bind_eq_some_iff.mp hf
      have C1 : ∀ wr, RS w0 w g s1 a1 wr → Hid _ := fun wr h => Lib.hid (here_rs h f1)
      clear f1
      by_cases hc : c = 34
      case neg =>
        rw [if_neg hc] at hf
        have hcb : (c != 34) = true := bne_iff_ne.mpr hc
        clear hc
        simp only [Option.some.injEq, Prod.mk.injEq] at hf
        obtain ⟨rfl, rfl, rfl, rfl, rfl⟩ := hf
        go_wp2_with (first | (go_at_call 116; refine ((C1 _ h0.out).out).mono ?_; rintro e w1 ⟨rfl, r, kb⟩; have h1 := Aside0.mk r; have hR1 := Aside0.mk (hR0.out.step h0.out.is kb); clear r kb))
        go_ret3
        exact ⟨_, _, rfl, Kd.R_nil _ _ _ _ _, Kd.R_nil _ _ _ _ _, h1.out.is, h1.out.below, h1.out.keep⟩
      case pos =>
        obtain rfl := hc
        rw [if_pos rfl] at hf
        obtain ⟨⟨t, s3, a3⟩, f2, hf⟩ := Option.bind_eq_some_iff.mp hf
        have C2 : ∀ wr, RS w0 w g s2 a2 wr → Hid _ := fun wr h => Lib.hid (quoted_rs (k := kq) h f2)
        clear f2
        cases t with
        | false =>
          simp only [Bool.false_eq_true, if_false, Option.some.injEq, Prod.mk.injEq] at hf
          obtain ⟨rfl, rfl, rfl, rfl, rfl⟩ := hf
          go_wp2_with (first | (go_at_call 116; refine ((C1 _ h0.out).out).mono ?_; rintro e w1 ⟨rfl, r, kb⟩; have h1 := Aside0.mk r; have hR1 := Aside0.mk (hR0.out.step h0.out.is kb); clear r kb) | (go_at_call 119; refine ((C2 _ h1.out).out).mono ?_; rintro e w2 ⟨rfl, r, kb⟩; have h2 := Aside0.mk r; have hR2 := Aside0.mk (hR1.out.step h1.out.is kb); clear r kb))
          go_ret3
          exact ⟨_, _, rfl, Kd.R_nil _ _ _ _ _, Kd.R_nil _ _ _ _ _, h2.out.is, h2.out.below, h2.out.keep⟩
        | true =>
        simp only [if_true] at hf
        by_cases hl : ns1.length < 8796093022208
        case neg => rw [if_neg hl] at hf; cases hf
        rw [if_pos hl] at hf
        have hL := Aside0.mk hl
        clear hl
        obtain ⟨⟨s4, a4⟩, f3, hf⟩ := Option.bind_eq_some_iff.mp hf
        obtain ⟨⟨t, s5, a5⟩, f4, hf⟩ := Option.bind_eq_some_iff.mp hf
        have C3 : ∀ wr, RS w0 w g s3 a3 wr → Hid _ := fun wr h => Lib.hid (blanks_rs (k := kq) h f3)
        have C4 : ∀ wr, RS w0 w g s4 a4 wr → Hid _ := fun wr h => Lib.hid (take_rs (c := 58) h f4)
        clear f3 f4
        cases t with
        | false =>
          simp only [Bool.false_eq_true, if_false, Option.some.injEq, Prod.mk.injEq] at hf
          obtain ⟨rfl, rfl, rfl, rfl, rfl⟩ := hf
          go_wp2_with (first | (go_at_call 116; refine ((C1 _ h0.out).out).mono ?_; rintro e w1 ⟨rfl, r, kb⟩; have h1 := Aside0.mk r; have hR1 := Aside0.mk (hR0.out.step h0.out.is kb); clear r kb) | (go_at_call 119; refine ((C2 _ h1.out).out).mono ?_; rintro e w2 ⟨rfl, r, kb⟩; have h2 := Aside0.mk r; have hR2 := Aside0.mk (hR1.out.step h1.out.is kb); clear r kb; have c2 := h2.out.c1) | (at_builtin; refine Kd.R_append k84 (w0 := w2) w.heap.size rfl (.tmp 33) (.tmp 40) 45 84 (.agg #[(.int .i64 0), (.int .i64 0)]) 16 rfl Tryz.underlying45 info84 rfl (by decide) (by omega) u5 ns1 ⟨a1, a3⟩ [.int .i64 a1, .int .i64 a3] (fun _ => True) (fun _ => False) rfl ?aX ?aP (fun _ h => h.elim) (fun _ _ => trivial) ?aO ?aB ?aS ?aL ?_; (case aX => (show Value.slice (some ⟨w2.heap.size, 0, none⟩) 1 1 = _; rfl)); (case aP => exact k84_mkM _ _ _ (⟨a1, a3⟩ : S84)); (case aO => exact hR2.out.n); (case aB => exact Below.refl _ _); (case aS => exact h2.out.size); (case aL => have := hL.out; omega); intro v3 w3 ho hb3 hg3 hat3; have hR3 := Aside0.mk (hR2.out.name ho hg3 hat3); have h3 := Aside0.mk (h2.out.append0 hR2.out.n hg3 hW.out (by decide)); clear ho hb3 hg3 hat3 c2) | (go_at_call 75; refine ((C3 _ h3.out).out).mono ?_; rintro e w4 ⟨rfl, r, kb⟩; have h4 := Aside0.mk r; have hR4 := Aside0.mk (hR3.out.step h3.out.is kb); clear r kb) | (go_at_call_of 155 (58 : Int); refine ((C4 _ h4.out).out).mono ?_; rintro e w5 ⟨rfl, r, kb⟩; have h5 := Aside0.mk r; have hR5 := Aside0.mk (hR4.out.step h4.out.is kb); clear r kb))
          go_ret3
          exact ⟨_, _, rfl, Kd.R_nil _ _ _ _ _, Kd.R_nil _ _ _ _ _, h5.out.is, h5.out.below, h5.out.keep⟩
        | true =>
        simp only [if_true] at hf
        obtain ⟨⟨s6, a6⟩, f5, hf⟩ := Option.bind_eq_some_iff.mp hf
        obtain ⟨⟨P, t, s7, a7⟩, f6, hf⟩ := Option.bind_eq_some_iff.mp hf
        have C5 : ∀ wr, RS w0 w g s5 a5 wr → Hid _ := fun wr h => Lib.hid (blanks_rs (k := kq) h f5)
        have C6 : ∀ wr, RS w0 w g s6 a6 wr → Hid _ := fun wr h => Lib.hid (value_rs (ih kq (by have := hK.out; omega)) h f6)
        clear f5 f6
        cases t with
        | false =>
          simp only [Bool.false_eq_true, if_false, Option.some.injEq, Prod.mk.injEq] at hf
          obtain ⟨rfl, rfl, rfl, rfl, rfl⟩ := hf
          go_wp2_with (first | (go_at_call 116; refine ((C1 _ h0.out).out).mono ?_; rintro e w1 ⟨rfl, r, kb⟩; have h1 := Aside0.mk r; have hR1 := Aside0.mk (hR0.out.step h0.out.is kb); clear r kb) | (go_at_call 119; refine ((C2 _ h1.out).out).mono ?_; rintro e w2 ⟨rfl, r, kb⟩; have h2 := Aside0.mk r; have hR2 := Aside0.mk (hR1.out.step h1.out.is kb); clear r kb; have c2 := h2.out.c1) | (at_builtin; refine Kd.R_append k84 (w0 := w2) w.heap.size rfl (.tmp 33) (.tmp 40) 45 84 (.agg #[(.int .i64 0), (.int .i64 0)]) 16 rfl Tryz.underlying45 info84 rfl (by decide) (by omega) u5 ns1 ⟨a1, a3⟩ [.int .i64 a1, .int .i64 a3] (fun _ => True) (fun _ => False) rfl ?aX ?aP (fun _ h => h.elim) (fun _ _ => trivial) ?aO ?aB ?aS ?aL ?_; (case aX => (show Value.slice (some ⟨w2.heap.size, 0, none⟩) 1 1 = _; rfl)); (case aP => exact k84_mkM _ _ _ (⟨a1, a3⟩ : S84)); (case aO => exact hR2.out.n); (case aB => exact Below.refl _ _); (case aS => exact h2.out.size); (case aL => have := hL.out; omega); intro v3 w3 ho hb3 hg3 hat3; have hR3 := Aside0.mk (hR2.out.name ho hg3 hat3); have h3 := Aside0.mk (h2.out.append0 hR2.out.n hg3 hW.out (by decide)); clear ho hb3 hg3 hat3 c2) | (go_at_call 75; refine ((C3 _ h3.out).out).mono ?_; rintro e w4 ⟨rfl, r, kb⟩; have h4 := Aside0.mk r; have hR4 := Aside0.mk (hR3.out.step h3.out.is kb); clear r kb) | (go_at_call_of 155 (58 : Int); refine ((C4 _ h4.out).out).mono ?_; rintro e w5 ⟨rfl, r, kb⟩; have h5 := Aside0.mk r; have hR5 := Aside0.mk (hR4.out.step h4.out.is kb); clear r kb) | (go_at_call 75; refine ((C5 _ h5.out).out).mono ?_; rintro e w6 ⟨rfl, r, kb⟩; have h6 := Aside0.mk r; have hR6 := Aside0.mk (hR5.out.step h5.out.is kb); clear r kb) | (go_at_call 76; refine ((C6 _ h6.out).out).mono ?_; rintro e w7 ⟨y3, y4, rfl, r3, r4, r, kb⟩; have hR7 := Aside0.mk (hR6.out.step h6.out.is kb); have hM := Aside0.mk (place_mk2 hR6.out r3 r4 h6.out.size); have h7 := Aside0.mk r; obtain ⟨A3, c3, q3⟩ := Kd.R_slice r3; obtain ⟨A4, c4, q4⟩ := Kd.R_slice r4; subst q3; subst q4; clear r r3 r4 kb))
          go_ret3
          exact ⟨_, _, rfl, Kd.R_nil _ _ _ _ _, Kd.R_nil _ _ _ _ _, (h7.out.alloc _).is, (h7.out.alloc _).below, (h7.out.alloc _).keep⟩
        | true =>
        simp only [if_true] at hf
        by_cases hl : ks1.length < 1954687338268
        case neg => rw [if_neg hl] at hf; cases hf
        rw [if_pos hl] at hf
        have hL2 := Aside0.mk hl
        clear hl
        obtain ⟨⟨s8, a8⟩, f7, hf⟩ := Option.bind_eq_some_iff.mp hf
        obtain ⟨⟨t, s9, a9⟩, f8, hf⟩ := Option.bind_eq_some_iff.mp hf
        have C7 : ∀ wr, RS w0 w g s7 a7 wr → Hid _ := fun wr h => Lib.hid (blanks_rs (k := kq) h f7)
        have C8 : ∀ wr, RS w0 w g s8 a8 wr → Hid _ := fun wr h => Lib.hid (take_rs (c := 125) h f8)
        clear f7 f8
        cases t with
        | true =>
          simp only [if_true, Option.some.injEq, Prod.mk.injEq] at hf
          obtain ⟨rfl, rfl, rfl, rfl, rfl⟩ := hf
          go_wp2_with (first | (go_at_call 116; refine ((C1 _ h0.out).out).mono ?_; rintro e w1 ⟨rfl, r, kb⟩; have h1 := Aside0.mk r; have hR1 := Aside0.mk (hR0.out.step h0.out.is kb); clear r kb) | (go_at_call 119; refine ((C2 _ h1.out).out).mono ?_; rintro e w2 ⟨rfl, r, kb⟩; have h2 := Aside0.mk r; have hR2 := Aside0.mk (hR1.out.step h1.out.is kb); clear r kb; have c2 := h2.out.c1) | (at_builtin; refine Kd.R_append k84 (w0 := w2) w.heap.size rfl (.tmp 33) (.tmp 40) 45 84 (.agg #[(.int .i64 0), (.int .i64 0)]) 16 rfl Tryz.underlying45 info84 rfl (by decide) (by omega) u5 ns1 ⟨a1, a3⟩ [.int .i64 a1, .int .i64 a3] (fun _ => True) (fun _ => False) rfl ?aX ?aP (fun _ h => h.elim) (fun _ _ => trivial) ?aO ?aB ?aS ?aL ?_; (case aX => (show Value.slice (some ⟨w2.heap.size, 0, none⟩) 1 1 = _; rfl)); (case aP => exact k84_mkM _ _ _ (⟨a1, a3⟩ : S84)); (case aO => exact hR2.out.n); (case aB => exact Below.refl _ _); (case aS => exact h2.out.size); (case aL => have := hL.out; omega); intro v3 w3 ho hb3 hg3 hat3; have hR3 := Aside0.mk (hR2.out.name ho hg3 hat3); have h3 := Aside0.mk (h2.out.append0 hR2.out.n hg3 hW.out (by decide)); clear ho hb3 hg3 hat3 c2) | (go_at_call 75; refine ((C3 _ h3.out).out).mono ?_; rintro e w4 ⟨rfl, r, kb⟩; have h4 := Aside0.mk r; have hR4 := Aside0.mk (hR3.out.step h3.out.is kb); clear r kb) | (go_at_call_of 155 (58 : Int); refine ((C4 _ h4.out).out).mono ?_; rintro e w5 ⟨rfl, r, kb⟩; have h5 := Aside0.mk r; have hR5 := Aside0.mk (hR4.out.step h4.out.is kb); clear r kb) | (go_at_call 75; refine ((C5 _ h5.out).out).mono ?_; rintro e w6 ⟨rfl, r, kb⟩; have h6 := Aside0.mk r; have hR6 := Aside0.mk (hR5.out.step h5.out.is kb); clear r kb) | (go_at_call 76; refine ((C6 _ h6.out).out).mono ?_; rintro e w7 ⟨y3, y4, rfl, r3, r4, r, kb⟩; have hR7 := Aside0.mk (hR6.out.step h6.out.is kb); have hM := Aside0.mk (place_mk2 hR6.out r3 r4 h6.out.size); have h7 := Aside0.mk r; obtain ⟨A3, c3, q3⟩ := Kd.R_slice r3; obtain ⟨A4, c4, q4⟩ := Kd.R_slice r4; subst q3; subst q4; clear r r3 r4 kb) | (at_builtin; refine Kd.R_append k48 (w0 := w7) w.heap.size rfl (.tmp 56) (.tmp 58) 46 48 (.agg #[(.int .i64 0), (.int .i64 0), (.int .i64 0), (.slice none 0 0), (.slice none 0 0)]) 72 rfl Tryz.underlying46 info48 rfl (by decide) (by omega) u6 ks1 P [.int .i64 P.f0, .int .i64 P.f1, .int .i64 P.f2, .slice A3 P.f3.length c3, .slice A4 P.f4.length c4] (fun j => some j ≠ v3.ownBlock) (fun j => some j ≠ v3.ownBlock ∧ some j ≠ u6.ownBlock) rfl ?bX ?bP (fun _ h => h) ?bF ?bO ?bB ?bS ?bL ?_; (case bX => (show Value.slice (some ⟨w7.heap.size + 1, 0, none⟩) 1 1 = _; simp)); (case bP => exact M_alloc hM.out _); (case bF => exact fun j hj => hR7.out.fresh j (Nat.le_trans (by simp) hj)); (case bO => exact R_alloc' hR7.out.k _); (case bB => exact (Below.refl _ _).alloc h7.out.size _); (case bS => exact Nat.le_trans h7.out.size (by simp)); (case bL => have := hL2.out; omega); intro v8 w8 ho hb8 hg8 hat8; have hR8 := Aside0.mk ((hR7.out.alloc _).kid ho hg8); have h8 := Aside0.mk (RS.append h7.out hR7.out.k hg8 hW.out (by decide)); clear ho hb8 hg8 hat8) | (go_at_call 75; refine ((C7 _ h8.out).out).mono ?_; rintro e w9 ⟨rfl, r, kb⟩; have h9 := Aside0.mk r; have hR9 := Aside0.mk (hR8.out.step h8.out.is kb); clear r kb) | (go_at_call_of 155 (125 : Int); refine ((C8 _ h9.out).out).mono ?_; rintro e w10 ⟨rfl, r, kb⟩; have h10 := Aside0.mk r; have hR10 := Aside0.mk (hR9.out.step h9.out.is kb); clear r kb))
          go_ret3
          exact ⟨_, _, rfl, hR10.out.n, hR10.out.k, h10.out.is, h10.out.below, h10.out.keep⟩
        | false =>
        simp only [Bool.false_eq_true, if_false] at hf
        obtain ⟨⟨t, s10, a10⟩, f9, hf⟩ := Option.bind_eq_some_iff.mp hf
        have C9 : ∀ wr, RS w0 w g s9 a9 wr → Hid _ := fun wr h => Lib.hid (take_rs (c := 44) h f9)
        clear f9
        cases t with
        | false =>
          simp only [Bool.false_eq_true, if_false, Option.some.injEq, Prod.mk.injEq] at hf
          obtain ⟨rfl, rfl, rfl, rfl, rfl⟩ := hf
          go_wp2_with (first | (go_at_call 116; refine ((C1 _ h0.out).out).mono ?_; rintro e w1 ⟨rfl, r, kb⟩; have h1 := Aside0.mk r; have hR1 := Aside0.mk (hR0.out.step h0.out.is kb); clear r kb) | (go_at_call 119; refine ((C2 _ h1.out).out).mono ?_; rintro e w2 ⟨rfl, r, kb⟩; have h2 := Aside0.mk r; have hR2 := Aside0.mk (hR1.out.step h1.out.is kb); clear r kb; have c2 := h2.out.c1) | (at_builtin; refine Kd.R_append k84 (w0 := w2) w.heap.size rfl (.tmp 33) (.tmp 40) 45 84 (.agg #[(.int .i64 0), (.int .i64 0)]) 16 rfl Tryz.underlying45 info84 rfl (by decide) (by omega) u5 ns1 ⟨a1, a3⟩ [.int .i64 a1, .int .i64 a3] (fun _ => True) (fun _ => False) rfl ?aX ?aP (fun _ h => h.elim) (fun _ _ => trivial) ?aO ?aB ?aS ?aL ?_; (case aX => (show Value.slice (some ⟨w2.heap.size, 0, none⟩) 1 1 = _; rfl)); (case aP => exact k84_mkM _ _ _ (⟨a1, a3⟩ : S84)); (case aO => exact hR2.out.n); (case aB => exact Below.refl _ _); (case aS => exact h2.out.size); (case aL => have := hL.out; omega); intro v3 w3 ho hb3 hg3 hat3; have hR3 := Aside0.mk (hR2.out.name ho hg3 hat3); have h3 := Aside0.mk (h2.out.append0 hR2.out.n hg3 hW.out (by decide)); clear ho hb3 hg3 hat3 c2) | (go_at_call 75; refine ((C3 _ h3.out).out).mono ?_; rintro e w4 ⟨rfl, r, kb⟩; have h4 := Aside0.mk r; have hR4 := Aside0.mk (hR3.out.step h3.out.is kb); clear r kb) | (go_at_call_of 155 (58 : Int); refine ((C4 _ h4.out).out).mono ?_; rintro e w5 ⟨rfl, r, kb⟩; have h5 := Aside0.mk r; have hR5 := Aside0.mk (hR4.out.step h4.out.is kb); clear r kb) | (go_at_call 75; refine ((C5 _ h5.out).out).mono ?_; rintro e w6 ⟨rfl, r, kb⟩; have h6 := Aside0.mk r; have hR6 := Aside0.mk (hR5.out.step h5.out.is kb); clear r kb) | (go_at_call 76; refine ((C6 _ h6.out).out).mono ?_; rintro e w7 ⟨y3, y4, rfl, r3, r4, r, kb⟩; have hR7 := Aside0.mk (hR6.out.step h6.out.is kb); have hM := Aside0.mk (place_mk2 hR6.out r3 r4 h6.out.size); have h7 := Aside0.mk r; obtain ⟨A3, c3, q3⟩ := Kd.R_slice r3; obtain ⟨A4, c4, q4⟩ := Kd.R_slice r4; subst q3; subst q4; clear r r3 r4 kb) | (at_builtin; refine Kd.R_append k48 (w0 := w7) w.heap.size rfl (.tmp 56) (.tmp 58) 46 48 (.agg #[(.int .i64 0), (.int .i64 0), (.int .i64 0), (.slice none 0 0), (.slice none 0 0)]) 72 rfl Tryz.underlying46 info48 rfl (by decide) (by omega) u6 ks1 P [.int .i64 P.f0, .int .i64 P.f1, .int .i64 P.f2, .slice A3 P.f3.length c3, .slice A4 P.f4.length c4] (fun j => some j ≠ v3.ownBlock) (fun j => some j ≠ v3.ownBlock ∧ some j ≠ u6.ownBlock) rfl ?bX ?bP (fun _ h => h) ?bF ?bO ?bB ?bS ?bL ?_; (case bX => (show Value.slice (some ⟨w7.heap.size + 1, 0, none⟩) 1 1 = _; simp)); (case bP => exact M_alloc hM.out _); (case bF => exact fun j hj => hR7.out.fresh j (Nat.le_trans (by simp) hj)); (case bO => exact R_alloc' hR7.out.k _); (case bB => exact (Below.refl _ _).alloc h7.out.size _); (case bS => exact Nat.le_trans h7.out.size (by simp)); (case bL => have := hL2.out; omega); intro v8 w8 ho hb8 hg8 hat8; have hR8 := Aside0.mk ((hR7.out.alloc _).kid ho hg8); have h8 := Aside0.mk (RS.append h7.out hR7.out.k hg8 hW.out (by decide)); clear ho hb8 hg8 hat8) | (go_at_call 75; refine ((C7 _ h8.out).out).mono ?_; rintro e w9 ⟨rfl, r, kb⟩; have h9 := Aside0.mk r; have hR9 := Aside0.mk (hR8.out.step h8.out.is kb); clear r kb) | (go_at_call_of 155 (125 : Int); refine ((C8 _ h9.out).out).mono ?_; rintro e w10 ⟨rfl, r, kb⟩; have h10 := Aside0.mk r; have hR10 := Aside0.mk (hR9.out.step h9.out.is kb); clear r kb) | (go_at_call_of 155 (44 : Int); refine ((C9 _ h10.out).out).mono ?_; rintro e w11 ⟨rfl, r, kb⟩; have h11 := Aside0.mk r; have hR11 := Aside0.mk (hR10.out.step h10.out.is kb); clear r kb))
          go_ret3
          exact ⟨_, _, rfl, Kd.R_nil _ _ _ _ _, Kd.R_nil _ _ _ _ _, h11.out.is, h11.out.below, h11.out.keep⟩
        | true =>
          simp only [if_true] at hf
          obtain ⟨⟨s11, a11⟩, f10, hf⟩ := Option.bind_eq_some_iff.mp hf
          have C10 : ∀ wr, RS w0 w g s10 a10 wr → Hid _ := fun wr h => Lib.hid (blanks_rs (k := kq) h f10)
          have hF := Aside0.mk hf
          clear f10 hf
          go_wp2_with (first | (go_at_call 116; refine ((C1 _ h0.out).out).mono ?_; rintro e w1 ⟨rfl, r, kb⟩; have h1 := Aside0.mk r; have hR1 := Aside0.mk (hR0.out.step h0.out.is kb); clear r kb) | (go_at_call 119; refine ((C2 _ h1.out).out).mono ?_; rintro e w2 ⟨rfl, r, kb⟩; have h2 := Aside0.mk r; have hR2 := Aside0.mk (hR1.out.step h1.out.is kb); clear r kb; have c2 := h2.out.c1) | (at_builtin; refine Kd.R_append k84 (w0 := w2) w.heap.size rfl (.tmp 33) (.tmp 40) 45 84 (.agg #[(.int .i64 0), (.int .i64 0)]) 16 rfl Tryz.underlying45 info84 rfl (by decide) (by omega) u5 ns1 ⟨a1, a3⟩ [.int .i64 a1, .int .i64 a3] (fun _ => True) (fun _ => False) rfl ?aX ?aP (fun _ h => h.elim) (fun _ _ => trivial) ?aO ?aB ?aS ?aL ?_; (case aX => (show Value.slice (some ⟨w2.heap.size, 0, none⟩) 1 1 = _; rfl)); (case aP => exact k84_mkM _ _ _ (⟨a1, a3⟩ : S84)); (case aO => exact hR2.out.n); (case aB => exact Below.refl _ _); (case aS => exact h2.out.size); (case aL => have := hL.out; omega); intro v3 w3 ho hb3 hg3 hat3; have hR3 := Aside0.mk (hR2.out.name ho hg3 hat3); have h3 := Aside0.mk (h2.out.append0 hR2.out.n hg3 hW.out (by decide)); clear ho hb3 hg3 hat3 c2) | (go_at_call 75; refine ((C3 _ h3.out).out).mono ?_; rintro e w4 ⟨rfl, r, kb⟩; have h4 := Aside0.mk r; have hR4 := Aside0.mk (hR3.out.step h3.out.is kb); clear r kb) | (go_at_call_of 155 (58 : Int); refine ((C4 _ h4.out).out).mono ?_; rintro e w5 ⟨rfl, r, kb⟩; have h5 := Aside0.mk r; have hR5 := Aside0.mk (hR4.out.step h4.out.is kb); clear r kb) | (go_at_call 75; refine ((C5 _ h5.out).out).mono ?_; rintro e w6 ⟨rfl, r, kb⟩; have h6 := Aside0.mk r; have hR6 := Aside0.mk (hR5.out.step h5.out.is kb); clear r kb) | (go_at_call 76; refine ((C6 _ h6.out).out).mono ?_; rintro e w7 ⟨y3, y4, rfl, r3, r4, r, kb⟩; have hR7 := Aside0.mk (hR6.out.step h6.out.is kb); have hM := Aside0.mk (place_mk2 hR6.out r3 r4 h6.out.size); have h7 := Aside0.mk r; obtain ⟨A3, c3, q3⟩ := Kd.R_slice r3; obtain ⟨A4, c4, q4⟩ := Kd.R_slice r4; subst q3; subst q4; clear r r3 r4 kb) | (at_builtin; refine Kd.R_append k48 (w0 := w7) w.heap.size rfl (.tmp 56) (.tmp 58) 46 48 (.agg #[(.int .i64 0), (.int .i64 0), (.int .i64 0), (.slice none 0 0), (.slice none 0 0)]) 72 rfl Tryz.underlying46 info48 rfl (by decide) (by omega) u6 ks1 P [.int .i64 P.f0, .int .i64 P.f1, .int .i64 P.f2, .slice A3 P.f3.length c3, .slice A4 P.f4.length c4] (fun j => some j ≠ v3.ownBlock) (fun j => some j ≠ v3.ownBlock ∧ some j ≠ u6.ownBlock) rfl ?bX ?bP (fun _ h => h) ?bF ?bO ?bB ?bS ?bL ?_; (case bX => (show Value.slice (some ⟨w7.heap.size + 1, 0, none⟩) 1 1 = _; simp)); (case bP => exact M_alloc hM.out _); (case bF => exact fun j hj => hR7.out.fresh j (Nat.le_trans (by simp) hj)); (case bO => exact R_alloc' hR7.out.k _); (case bB => exact (Below.refl _ _).alloc h7.out.size _); (case bS => exact Nat.le_trans h7.out.size (by simp)); (case bL => have := hL2.out; omega); intro v8 w8 ho hb8 hg8 hat8; have hR8 := Aside0.mk ((hR7.out.alloc _).kid ho hg8); have h8 := Aside0.mk (RS.append h7.out hR7.out.k hg8 hW.out (by decide)); clear ho hb8 hg8 hat8) | (go_at_call 75; refine ((C7 _ h8.out).out).mono ?_; rintro e w9 ⟨rfl, r, kb⟩; have h9 := Aside0.mk r; have hR9 := Aside0.mk (hR8.out.step h8.out.is kb); clear r kb) | (go_at_call_of 155 (125 : Int); refine ((C8 _ h9.out).out).mono ?_; rintro e w10 ⟨rfl, r, kb⟩; have h10 := Aside0.mk r; have hR10 := Aside0.mk (hR9.out.step h9.out.is kb); clear r kb) | (go_at_call_of 155 (44 : Int); refine ((C9 _ h10.out).out).mono ?_; rintro e w11 ⟨rfl, r, kb⟩; have h11 := Aside0.mk r; have hR11 := Aside0.mk (hR10.out.step h10.out.is kb); clear r kb) | (go_at_call 75; refine ((C10 _ h11.out).out).mono ?_; rintro e w12 ⟨rfl, r, kb⟩; have h12 := Aside0.mk r; have hR12 := Aside0.mk (hR11.out.step h11.out.is kb); clear r kb))
          go_roundg kq
          case measure => omega
          case rel => exact ⟨_, _, _, _, hF, ⟨by have := hK.out; omega⟩, hR12, h12⟩
end Go.Proofs.YtdolnkknlflmeaaGreatDoor.L
