/-
  Part of the proof (Lx7).
-/
import Derived.Test.YtdolnkknlflmeaaGreatDoorZLx0
-- printed by a program for this claim
namespace Go.Proofs.YtdolnkknlflmeaaGreatDoor.L
open Go.RowKit Go.Proofs.YtdolnkknlflmeaaGreatDoorW.PrintWords Go.Proofs.YtdolnkknlflmeaaGreatDoorW.PrintLast Go.Proofs.YtdolnkknlflmeaaGreatDoorW.PrintMore
attribute [local go_sem] max2_int min2_int max_two min_two max_three min_three max_four min_four   -- for this text's walks alone
set_option linter.unusedVariables false
set_option linter.unusedSimpArgs false

/-! ### spec_shortOf: function 113 -/
def spec_shortOf.f (a0 : Int) : Option (Int × Bool) := if a0 = 8 then (some (98, true)) else (if a0 = 12 then (some (102, true)) else (if a0 = 10 then (some (110, true)) else (if a0 = 13 then (some (114, true)) else (if a0 = 9 then (some (116, true)) else (if a0 = 34 then (some (a0, true)) else (if a0 = 92 then (some (a0, true)) else (if a0 = 47 then (some (a0, true)) else (some (0, false)))))))))
set_option maxHeartbeats 8000000 in
set_option maxRecDepth 100000 in
theorem spec_shortOf.calls (a0 : Int) (r1 : Int) (r2 : Bool) (w : World) (h : spec_shortOf.f a0 = some (r1, r2)) :
    Calls Tryz.prog 113 #[.int .u8 a0] w fun e w' => e = .returned (.tuple #[.int .u8 r1, .bool r2]) ∧ Drawn0 w w' := by
  have H : (if a0 = 8 then (some (98, true)) else (if a0 = 12 then (some (102, true)) else (if a0 = 10 then (some (110, true)) else (if a0 = 13 then (some (114, true)) else (if a0 = 9 then (some (116, true)) else (if a0 = 34 then (some (a0, true)) else (if a0 = 92 then (some (a0, true)) else (if a0 = 47 then (some (a0, true)) else (some (0, false)))))))))) = some (r1, r2) := h
  clear h
  by_cases c2 : a0 = 8
  · rw [if_pos c2] at H
    have c2b0 : (a0 == 8) = true := beq_iff_eq.mpr c2
    have c2b1 : (a0 != 8) = false := bne_eq_false_iff_eq.mpr c2
    clear c2
    simp only [Option.some.injEq, Prod.mk.injEq] at H
    obtain ⟨rfl, rfl⟩ := H
    go_enter Tryz.func113, Tryz.ntmps113
    go_wp2
    go_ret2
    exact ⟨by first | rfl | (simp; done) | (simp [*]; done), by repeat (first | exact Drawn0.refl _ | apply Drawn0.step)⟩
  · rw [if_neg c2] at H
    have c2b0 : (a0 == 8) = false := beq_eq_false_iff_ne.mpr c2
    have c2b1 : (a0 != 8) = true := bne_iff_ne.mpr c2
    by_cases c3 : a0 = 12
    · rw [if_pos c3] at H
      have c3b0 : (a0 == 12) = true := beq_iff_eq.mpr c3
      have c3b1 : (a0 != 12) = false := bne_eq_false_iff_eq.mpr c3
      clear c3
      simp only [Option.some.injEq, Prod.mk.injEq] at H
      obtain ⟨rfl, rfl⟩ := H
      go_enter Tryz.func113, Tryz.ntmps113
      go_wp2
      go_ret2
      exact ⟨by first | rfl | (simp; done) | (simp [*]; done), by repeat (first | exact Drawn0.refl _ | apply Drawn0.step)⟩
    · rw [if_neg c3] at H
      have c3b0 : (a0 == 12) = false := beq_eq_false_iff_ne.mpr c3
      have c3b1 : (a0 != 12) = true := bne_iff_ne.mpr c3
      by_cases c4 : a0 = 10
      · rw [if_pos c4] at H
        have c4b0 : (a0 == 10) = true := beq_iff_eq.mpr c4
        have c4b1 : (a0 != 10) = false := bne_eq_false_iff_eq.mpr c4
        clear c4
        simp only [Option.some.injEq, Prod.mk.injEq] at H
        obtain ⟨rfl, rfl⟩ := H
        go_enter Tryz.func113, Tryz.ntmps113
        go_wp2
        go_ret2
        exact ⟨by first | rfl | (simp; done) | (simp [*]; done), by repeat (first | exact Drawn0.refl _ | apply Drawn0.step)⟩
      · rw [if_neg c4] at H
        have c4b0 : (a0 == 10) = false := beq_eq_false_iff_ne.mpr c4
        have c4b1 : (a0 != 10) = true := bne_iff_ne.mpr c4
        by_cases c5 : a0 = 13
        · rw [if_pos c5] at H
          have c5b0 : (a0 == 13) = true := beq_iff_eq.mpr c5
          have c5b1 : (a0 != 13) = false := bne_eq_false_iff_eq.mpr c5
          clear c5
          simp only [Option.some.injEq, Prod.mk.injEq] at H
          obtain ⟨rfl, rfl⟩ := H
          go_enter Tryz.func113, Tryz.ntmps113
          go_wp2
          go_ret2
          exact ⟨by first | rfl | (simp; done) | (simp [*]; done), by repeat (first | exact Drawn0.refl _ | apply Drawn0.step)⟩
        · rw [if_neg c5] at H
          have c5b0 : (a0 == 13) = false := beq_eq_false_iff_ne.mpr c5
          have c5b1 : (a0 != 13) = true := bne_iff_ne.mpr c5
          by_cases c6 : a0 = 9
          · rw [if_pos c6] at H
            have c6b0 : (a0 == 9) = true := beq_iff_eq.mpr c6
            have c6b1 : (a0 != 9) = false := bne_eq_false_iff_eq.mpr c6
            clear c6
            simp only [Option.some.injEq, Prod.mk.injEq] at H
            obtain ⟨rfl, rfl⟩ := H
            go_enter Tryz.func113, Tryz.ntmps113
            go_wp2
            go_ret2
            exact ⟨by first | rfl | (simp; done) | (simp [*]; done), by repeat (first | exact Drawn0.refl _ | apply Drawn0.step)⟩
          · rw [if_neg c6] at H
            have c6b0 : (a0 == 9) = false := beq_eq_false_iff_ne.mpr c6
            have c6b1 : (a0 != 9) = true := bne_iff_ne.mpr c6
            by_cases c7 : a0 = 34
            · rw [if_pos c7] at H
              have c7b0 : (a0 == 34) = true := beq_iff_eq.mpr c7
              have c7b1 : (a0 != 34) = false := bne_eq_false_iff_eq.mpr c7
              clear c7
              simp only [Option.some.injEq, Prod.mk.injEq] at H
              obtain ⟨rfl, rfl⟩ := H
              go_enter Tryz.func113, Tryz.ntmps113
              go_wp2
              go_ret2
              exact ⟨by first | rfl | (simp; done) | (simp [*]; done), by repeat (first | exact Drawn0.refl _ | apply Drawn0.step)⟩
            · rw [if_neg c7] at H
              have c7b0 : (a0 == 34) = false := beq_eq_false_iff_ne.mpr c7
              have c7b1 : (a0 != 34) = true := bne_iff_ne.mpr c7
              by_cases c8 : a0 = 92
              · rw [if_pos c8] at H
                have c8b0 : (a0 == 92) = true := beq_iff_eq.mpr c8
                have c8b1 : (a0 != 92) = false := bne_eq_false_iff_eq.mpr c8
                clear c8
                simp only [Option.some.injEq, Prod.mk.injEq] at H
                obtain ⟨rfl, rfl⟩ := H
                go_enter Tryz.func113, Tryz.ntmps113
                go_wp2
                go_ret2
                exact ⟨by first | rfl | (simp; done) | (simp [*]; done), by repeat (first | exact Drawn0.refl _ | apply Drawn0.step)⟩
              · rw [if_neg c8] at H
                have c8b0 : (a0 == 92) = false := beq_eq_false_iff_ne.mpr c8
                have c8b1 : (a0 != 92) = true := bne_iff_ne.mpr c8
                by_cases c9 : a0 = 47
                · rw [if_pos c9] at H
                  have c9b0 : (a0 == 47) = true := beq_iff_eq.mpr c9
                  have c9b1 : (a0 != 47) = false := bne_eq_false_iff_eq.mpr c9
                  clear c9
                  simp only [Option.some.injEq, Prod.mk.injEq] at H
                  obtain ⟨rfl, rfl⟩ := H
                  go_enter Tryz.func113, Tryz.ntmps113
                  go_wp2
                  go_ret2
                  exact ⟨by first | rfl | (simp; done) | (simp [*]; done), by repeat (first | exact Drawn0.refl _ | apply Drawn0.step)⟩
                · rw [if_neg c9] at H
                  have c9b0 : (a0 == 47) = false := beq_eq_false_iff_ne.mpr c9
                  have c9b1 : (a0 != 47) = true := bne_iff_ne.mpr c9
                  simp only [Option.some.injEq, Prod.mk.injEq] at H
                  obtain ⟨rfl, rfl⟩ := H
                  go_enter Tryz.func113, Tryz.ntmps113
                  go_wp2
                  go_ret2
                  exact ⟨by first | rfl | (simp; done) | (simp [*]; done), by repeat (first | exact Drawn0.refl _ | apply Drawn0.step)⟩

/-! ### spec_digitOf: function 114 -/
def spec_digitOf.f (a0 : Int) (a1 : Bool) : Option (Int) := if a0 < 10 then (some ((wrap64 (48 + a0)) % 256)) else (if a1 = true then (some ((wrap64 ((wrap64 (65 + a0)) - 10)) % 256)) else (some ((wrap64 ((wrap64 (97 + a0)) - 10)) % 256)))
set_option maxHeartbeats 8000000 in
set_option maxRecDepth 100000 in
theorem spec_digitOf.calls (a0 : Int) (a1 : Bool) (r : Int) (w : World) (h : spec_digitOf.f a0 a1 = some r) :
    Calls Tryz.prog 114 #[.int .i64 a0, .bool a1] w fun e w' => e = .returned (.int .u8 r) ∧ Drawn0 w w' := by
  have H : (if a0 < 10 then (some ((wrap64 (48 + a0)) % 256)) else (if a1 = true then (some ((wrap64 ((wrap64 (65 + a0)) - 10)) % 256)) else (some ((wrap64 ((wrap64 (97 + a0)) - 10)) % 256)))) = some r := h
  clear h
  by_cases c3 : a0 < 10
  · rw [if_pos c3] at H
    have c3b0 : decide (a0 < 10) = true := decide_eq_true c3
    clear c3
    obtain rfl := Option.some.inj H
    go_enter Tryz.func114, Tryz.ntmps114
    go_wp2
    go_ret
    exact ⟨by first | rfl | (simp; done) | (simp [*]; done), by repeat (first | exact Drawn0.refl _ | apply Drawn0.step)⟩
  · rw [if_neg c3] at H
    have c3b0 : decide (a0 < 10) = false := decide_eq_false c3
    clear c3
    by_cases c4 : a1 = true
    · subst c4
      have H1 : (some ((wrap64 ((wrap64 (65 + a0)) - 10)) % 256)) = some r := by rw [if_pos rfl] at H; exact H
      clear H
      have H := H1
      clear H1
      obtain rfl := Option.some.inj H
      go_enter Tryz.func114, Tryz.ntmps114
      go_wp2
      go_ret
      exact ⟨by first | rfl | (simp; done) | (simp [*]; done), by repeat (first | exact Drawn0.refl _ | apply Drawn0.step)⟩
    · replace c4 := Bool.eq_false_iff.mpr c4
      subst c4
      have H1 : (some ((wrap64 ((wrap64 (97 + a0)) - 10)) % 256)) = some r := by rw [if_neg (show ¬ (false = true) by decide)] at H; exact H
      clear H
      have H := H1
      clear H1
      obtain rfl := Option.some.inj H
      go_enter Tryz.func114, Tryz.ntmps114
      go_wp2
      go_ret
      exact ⟨by first | rfl | (simp; done) | (simp [*]; done), by repeat (first | exact Drawn0.refl _ | apply Drawn0.step)⟩

/-! ### spec_Quote: function 73 -/
mutual
def spec_Quote.l0 : Nat → ByteArray → List Int → Int → Option (ByteArray)
  | 0, _, _, _ => none
  | k + 1, x0, x3, x4 => if x4 < (x0.size : Int) then (if 0 ≤ x4 then ((spec_shortOf.f (bt x0 x4)).bind fun bt213 => (if bt213.2 = true then (spec_Quote.j1 k x0 x3 x4 (bt x0 x4) bt213.1 ((bt x0 x4) != 47)) else (spec_Quote.j1 k x0 x3 x4 (bt x0 x4) bt213.1 false))) else (none)) else (if x3.length < 140737488355328 then (some (strOfNums (x3 ++ [34]))) else (none))
def spec_Quote.j1 : Nat → ByteArray → List Int → Int → Int → Int → Bool → Option (ByteArray)
  | 0, _, _, _, _, _, _ => none
  | k + 1, x0, x3, x4, x5, x6, x27 => if x27 = true then ((some (([92, x6] : List Int) : List Int)).bind fun y215 => (if x3.length + y215.length < 140737488355328 then (spec_Quote.l0 k x0 (x3 ++ y215) (wrap64 (x4 + 1))) else (none))) else (if x5 < 32 then ((spec_digitOf.f (wrap64 (Int.tmod x5 16)) false).bind fun t221 => ((some (([92, 117, 48, 48, (48 + ((Int.tdiv x5 16) % 256)) % 256, t221] : List Int) : List Int)).bind fun y222 => (if x3.length + y222.length < 140737488355328 then (spec_Quote.l0 k x0 (x3 ++ y222) (wrap64 (x4 + 1))) else (none)))) else (if x3.length < 140737488355328 then (spec_Quote.l0 k x0 (x3 ++ [x5]) (wrap64 (x4 + 1))) else (none)))
end
def spec_Quote.f (k : Nat) (a0 : ByteArray) : Option (ByteArray) := spec_Quote.l0 k a0 (([34] : List Int)) 0
set_option maxHeartbeats 8000000 in
set_option maxRecDepth 100000 in
theorem spec_Quote.calls (k : Nat) (a0 : ByteArray) (r : ByteArray) (w : World) (h : spec_Quote.f k a0 = some r) :
    Calls Tryz.prog 73 #[.string a0] w fun e w' => e = .returned (.string r) ∧ Below w.heap.size w w' := by
  have HB := Aside0.mk (Below.refl w.heap.size w)
  have H : (spec_Quote.l0 k a0 (([34] : List Int)) 0) = some r := h
  clear h
  obtain ⟨y207, hy207⟩ : ∃ y_ : List Int, y_ = (([34] : List Int)) := ⟨_, rfl⟩
  replace H : (spec_Quote.l0 k a0 y207 0) = some r := by first | (rw [hy207]; with_reducible exact H) | (have H2_ := (Option.bind_some _ _).symm.trans H; rw [hy207]; with_reducible exact H2_) | (have H2_ := (Option.bind_some _ _).symm.trans H; with_reducible exact H2_) | with_reducible exact H | (rw [hy207]; exact H) | exact H
  have Ny207 := Aside0.mk hy207
  clear hy207
  have H' := Aside0.mk H
  clear H
  go_enter Tryz.func73, Tryz.ntmps73
  go_wp2_with (first | ((with_reducible refine gate_dst (N := 8) rfl ?_); refine Kd.R_lit (Kd.int .u8) _ 5 ?hg (N := 8) ?hd (xs := ([34] : List Int)) (inner := [.int .u8 34]) (ok := fun _ => True) (okp := fun _ => True) ?hr ?hp (fun _ hk => hk) trivial (Below.refl _ _) (Nat.le_refl _) (by simp) ?_; (case hd => rfl); (case hg => rfl); (case hr => first | (go_simp; done) | (go_simp; rfl)); (case hp => exact (Reps.one (show Kd.M (Kd.int .u8) _ _ _ 34 [.int .u8 34] from rfl) (Reps.none _ _))); intro v208 w2 ho3 hb hg_ hnew_; clear hg_ hnew_; (first | rw [← Ny207.out] at ho3 | (simp only [Int.reduceToNat] at ho3; rw [← Ny207.out] at ho3)); have n0_ := Aside0.mk (Kd.R_lower ho3 (below_size (by repeat (first | (with_reducible first | exact HB.out | apply below_alloc | apply pw_below_drewN | apply below_drew1) | exact HB.out)))); have n1_ := Aside0.mk (below_step (by repeat (first | (with_reducible first | exact HB.out | apply below_alloc | apply pw_below_drewN | apply below_drew1) | exact HB.out)) hb); clear HB; have HO209 := n0_; have HB := n1_; clear n0_ n1_; clear hb ho3))
  go_loopg [3, 4] k (fun kq v3 v4 w' => ∃ (x3_1 : List Int) (x4_1 : Int), v4 = .int .i64 x4_1 ∧ Aside0 (spec_Quote.l0 kq a0 x3_1 x4_1 = some r) ∧ Aside0 (kq ≤ k) ∧ Aside0 (Kd.R (Kd.int .u8) 5 w' w.heap.size (fun _ => True) v3 x3_1) ∧ Aside0 (Below w.heap.size w w'))
  case atStart => exact ⟨(y207), (0), (by first | rfl | (simp; done) | (simp [*]; done)), H', ⟨Nat.le_refl _⟩, ⟨by (with_reducible repeat (first | apply Kd.R_alloc | apply Kd.R_drewN | apply Kd.R_drew)); exact HO209.out⟩, ⟨by repeat (first | (with_reducible first | exact HB.out | apply below_alloc | apply pw_below_drewN | apply below_drew1) | exact HB.out)⟩⟩
  case round =>
    clear H'
    try clear p2
    obtain ⟨x3_1, x4_1, rfl, HA, HK1, HO_3, HB⟩ := hrel
    cases gk with
    | zero => exact absurd HA.out (by simp [spec_Quote.l0])
    | succ k1 =>
      have H := HA.out
      clear HA
      simp only [spec_Quote.l0] at H
      by_cases c4 : x4_1 < (a0.size : Int)
      · rw [if_pos c4] at H
        have c4b0 : decide (x4_1 < (a0.size : Int)) = true := decide_eq_true c4
        clear c4
        by_cases c5 : 0 ≤ x4_1
        · rw [if_pos c5] at H
          have c5b0 : decide (0 ≤ x4_1) = true := decide_eq_true c5
          clear c5
          replace H := Option.bind_eq_some_iff.mp H
          obtain ⟨⟨t213, t214⟩, A70, H⟩ := H
          replace H : (if t214 = true then (spec_Quote.j1 k1 a0 x3_1 x4_1 (bt a0 x4_1) t213 ((bt a0 x4_1) != 47)) else (spec_Quote.j1 k1 a0 x3_1 x4_1 (bt a0 x4_1) t213 false)) = some r := H
          have A7 := Aside0.mk A70
          clear A70
          have HC8 := Aside0.mk H
          clear H
          have p6 : 0 ≤ (x4_1 : Int) := of_decide_eq_true (by first | (with_reducible assumption) | assumption)
          have q6 : x4_1 < (a0.size : Int) := of_decide_eq_true (by first | (with_reducible assumption) | assumption)
          have hx6 := bt_at a0 x4_1
          replace p6 := eq_true p6
          replace q6 := eq_true q6
          go_upto_region 8 with (first | ((with_reducible refine gate_callee (f := 113) rfl ?_); refine goesL_ (some 20) rfl rfl Tryz.func113 (by kernel_rfl) rfl #[.int .u8 (bt a0 x4_1)] rfl (by (try simp only [List.map_toArray, List.map_cons, List.map_nil]); first | done | rfl | (simp only [List.length_drop, List.length_take]; rfl)) ?_; (with_reducible refine (spec_shortOf.calls (bt a0 x4_1) t213 t214 _ A7.out).mono ?_); rintro e w' ⟨rfl, ⟨nd, rfl⟩⟩; refine ⟨_, rfl, ?_⟩))
          (try simp only [Act.put, List.setIfInBounds_toArray, List.set_cons_zero, List.set_cons_succ])
          go_cut [27] (fun v27 wc => ∃ (kq : Nat) (x27_7 : Bool), v27 = .bool x27_7 ∧ Aside0 (spec_Quote.j1 kq a0 x3_1 x4_1 (bt a0 x4_1) t213 x27_7 = some r) ∧ Aside0 (kq ≤ k1) ∧ Aside0 (Kd.R (Kd.int .u8) 5 wc w.heap.size (fun _ => True) u3 x3_1) ∧ Aside0 (Below w.heap.size w wc))
          case first =>
            have H := HC8.out
            clear HC8
            by_cases c9 : t214 = true
            · subst c9
              have H1 : (spec_Quote.j1 k1 a0 x3_1 x4_1 (bt a0 x4_1) t213 ((bt a0 x4_1) != 47)) = some r := by rw [if_pos rfl] at H; exact H
              clear H
              have H := H1
              clear H1
              have H' := Aside0.mk H
              clear H
              go_wp2
              go_meet
              case rel => exact ⟨_, (((bt a0 x4_1) != 47)), (by first | rfl | (simp; done) | (simp [*]; done)), H', ⟨by have := HK1.out; first | omega | exact Nat.le_refl _⟩, ⟨by (with_reducible repeat (first | apply Kd.R_alloc | apply Kd.R_drewN | apply Kd.R_drew)); exact HO_3.out⟩, ⟨by repeat (first | (with_reducible first | exact HB.out | apply below_alloc | apply pw_below_drewN | apply below_drew1) | exact HB.out)⟩⟩
            · replace c9 := Bool.eq_false_iff.mpr c9
              subst c9
              have H1 : (spec_Quote.j1 k1 a0 x3_1 x4_1 (bt a0 x4_1) t213 false) = some r := by rw [if_neg (show ¬ (false = true) by decide)] at H; exact H
              clear H
              have H := H1
              clear H1
              have H' := Aside0.mk H
              clear H
              go_wp2
              go_meet
              case rel => exact ⟨_, (false), (by first | rfl | (simp; done) | (simp [*]; done)), H', ⟨by have := HK1.out; first | omega | exact Nat.le_refl _⟩, ⟨by (with_reducible repeat (first | apply Kd.R_alloc | apply Kd.R_drewN | apply Kd.R_drew)); exact HO_3.out⟩, ⟨by repeat (first | (with_reducible first | exact HB.out | apply below_alloc | apply pw_below_drewN | apply below_drew1) | exact HB.out)⟩⟩
          case rest =>
            clear HC8
            try clear c1
            try clear p2
            try clear c4
            try clear c4b0
            try clear c5
            try clear c5b0
            try clear p6
            try clear q6
            try clear hx6
            try clear c7
            try clear c9
            try clear p2
            try clear p6
            try clear q6
            obtain ⟨kq, x27_7, rfl, HA, HJ7, HO_3, HB⟩ := hcut
            cases kq with
            | zero => exact absurd HA.out (by simp [spec_Quote.j1])
            | succ kj7 =>
              have H := HA.out
              clear HA
              simp only [spec_Quote.j1] at H
              by_cases c10 : x27_7 = true
              · subst c10
                have H1 : ((some (([92, t213] : List Int) : List Int)).bind fun y215 => (if x3_1.length + y215.length < 140737488355328 then (spec_Quote.l0 kj7 a0 (x3_1 ++ y215) (wrap64 (x4_1 + 1))) else (none))) = some r := by rw [if_pos rfl] at H; exact H
                clear H
                have H := H1
                clear H1
                obtain ⟨y215, hy215⟩ : ∃ y_ : List Int, y_ = (([92, t213] : List Int)) := ⟨_, rfl⟩
                replace H : (if x3_1.length + y215.length < 140737488355328 then (spec_Quote.l0 kj7 a0 (x3_1 ++ y215) (wrap64 (x4_1 + 1))) else (none)) = some r := by first | (rw [hy215]; with_reducible exact H) | (have H2_ := (Option.bind_some _ _).symm.trans H; rw [hy215]; with_reducible exact H2_) | (have H2_ := (Option.bind_some _ _).symm.trans H; with_reducible exact H2_) | with_reducible exact H | (rw [hy215]; exact H) | exact H
                have Ny215 := Aside0.mk hy215
                clear hy215
                by_cases c11 : x3_1.length + y215.length < 140737488355328
                · rw [if_pos c11] at H
                  have LMc11 := Aside0.mk c11
                  clear c11
                  obtain ⟨y218, hy218⟩ : ∃ y_ : List Int, y_ = (x3_1 ++ y215) := ⟨_, rfl⟩
                  replace H : (spec_Quote.l0 kj7 a0 y218 (wrap64 (x4_1 + 1))) = some r := by first | (rw [hy218]; with_reducible exact H) | (have H2_ := (Option.bind_some _ _).symm.trans H; rw [hy218]; with_reducible exact H2_) | (have H2_ := (Option.bind_some _ _).symm.trans H; with_reducible exact H2_) | with_reducible exact H | (rw [hy218]; exact H) | exact H
                  have Ny218 := Aside0.mk hy218
                  clear hy218
                  have H' := Aside0.mk H
                  clear H
                  go_wp2_with (first | ((with_reducible refine gate_dst (N := 35) rfl ?_); refine Kd.R_lit (Kd.int .u8) _ 5 ?hg (N := 35) ?hd (xs := ([92, t213] : List Int)) (inner := [.int .u8 92, .int .u8 t213]) (ok := fun _ => True) (okp := fun _ => True) ?hr ?hp (fun _ hk => hk) trivial (Below.refl _ _) (Nat.le_refl _) (by simp) ?_; (case hd => rfl); (case hg => rfl); (case hr => first | (go_simp; done) | (go_simp; rfl)); (case hp => exact (Reps.one (show Kd.M (Kd.int .u8) _ _ _ 92 [.int .u8 92] from rfl) (Reps.one (show Kd.M (Kd.int .u8) _ _ _ t213 [.int .u8 t213] from rfl) (Reps.none _ _)))); intro v216 w12 ho13 hb hg_ hnew_; clear hg_ hnew_; (first | rw [← Ny215.out] at ho13 | (simp only [Int.reduceToNat] at ho13; rw [← Ny215.out] at ho13)); have n0_ := Aside0.mk (Kd.R_elder' (by (with_reducible repeat (first | apply Kd.R_alloc | apply Kd.R_drewN | apply Kd.R_drew)); exact HO_3.out) (Kd.R_base ho13) hb); have n1_ := Aside0.mk (Kd.R_lower (Kd.R_new' ho13 (Kd.R_lt (by (with_reducible repeat (first | apply Kd.R_alloc | apply Kd.R_drewN | apply Kd.R_drew)); exact HO_3.out))) (below_size (by repeat (first | (with_reducible first | exact HB.out | apply below_alloc | apply pw_below_drewN | apply below_drew1) | exact HB.out)))); have n2_ := Aside0.mk (below_step (by repeat (first | (with_reducible first | exact HB.out | apply below_alloc | apply pw_below_drewN | apply below_drew1) | exact HB.out)) hb); clear HO_3; clear HB; have HO_3 := n0_; have HO217 := n1_; have HB := n2_; clear n0_ n1_ n2_; clear hb ho13; obtain ⟨Ao15, co15, eo15⟩ := Kd.R_slice HO217.out; subst eo15) | ((with_reducible refine gate_builtin (b := .append) (xs := #[.tmp 33, .tmp 35]) rfl ?_); at_builtin; refine Kd.R_append_rows (Kd.int .u8) (w0 := w) w.heap.size rfl (.tmp 33) (.tmp 35) 80 5 (.int .u8 0) 1 rfl Tryz.underlying80 info5 rfl (by decide) (by omega) u3 x3_1 y215 _ _ _ (fun k_ => some k_ ≠ (.slice Ao15 y215.length co15 : Value).ownBlock) (fun _ => False) rfl rfl ?aO ?aR (fun _ _ h => h) (fun _ h => h.elim) ?aF ?aB ?aS ?aL ?_; (case aR => repeat (first | exact (Kd.R_reads' HO217.out).2.2 | (with_reducible refine Kd.C_alloc ?_ _) | (with_reducible refine Kd.C_drewN ?_ _) | (with_reducible refine Kd.C_drew ?_))); (case aB => exact (by repeat (first | (with_reducible first | exact HB.out | apply below_alloc | apply pw_below_drewN | apply below_drew1) | exact HB.out))); (case aF => exact (fun k_ hk => Kd.fresh' (Kd.R_lt (by (with_reducible repeat (first | apply Kd.R_alloc | apply Kd.R_drewN | apply Kd.R_drew)); exact HO217.out)) k_ hk)); (case aO => exact (by (with_reducible repeat (first | apply Kd.R_alloc | apply Kd.R_drewN | apply Kd.R_drew)); exact Kd.R_mono HO_3.out (fun _ hk => hk.2))); (case aS => exact (below_size (by repeat (first | (with_reducible first | exact HB.out | apply below_alloc | apply pw_below_drewN | apply below_drew1) | exact HB.out)))); (case aL => have := LMc11.out; omega); intro v219 w14 ho hb hg hat; rw [← Ny218.out] at ho; have n0_ := Aside0.mk (Kd.R_after (ok := (fun _ => True)) (by (with_reducible repeat (first | apply Kd.R_alloc | apply Kd.R_drewN | apply Kd.R_drew)); exact HO217.out) hg hat); have n1_ := Aside0.mk (hb); have n2_ := Aside0.mk (ho); clear HO217; clear HB; clear HO_3; have HO217 := n0_; have HB := n1_; have HO220 := n2_; clear n0_ n1_ n2_; clear ho hb hg hat))
                  go_roundg kj7
                  case measure => have := HK1.out; have := HJ7.out; omega
                  case rel => exact ⟨(y218), (wrap64 (x4_1 + 1)), (by first | rfl | (simp; done) | (simp [*]; done)), H', ⟨by have := HK1.out; have := HJ7.out; omega⟩, ⟨by (with_reducible repeat (first | apply Kd.R_alloc | apply Kd.R_drewN | apply Kd.R_drew)); exact Kd.R_mono HO220.out (fun _ hk => trivial)⟩, ⟨by repeat (first | (with_reducible first | exact HB.out | apply below_alloc | apply pw_below_drewN | apply below_drew1) | exact HB.out)⟩⟩
                · rw [if_neg c11] at H
                  exact absurd H (by simp)
              · replace c10 := Bool.eq_false_iff.mpr c10
                subst c10
                have H1 : (if (bt a0 x4_1) < 32 then ((spec_digitOf.f (wrap64 (Int.tmod (bt a0 x4_1) 16)) false).bind fun t221 => ((some (([92, 117, 48, 48, (48 + ((Int.tdiv (bt a0 x4_1) 16) % 256)) % 256, t221] : List Int) : List Int)).bind fun y222 => (if x3_1.length + y222.length < 140737488355328 then (spec_Quote.l0 kj7 a0 (x3_1 ++ y222) (wrap64 (x4_1 + 1))) else (none)))) else (if x3_1.length < 140737488355328 then (spec_Quote.l0 kj7 a0 (x3_1 ++ [(bt a0 x4_1)]) (wrap64 (x4_1 + 1))) else (none))) = some r := by rw [if_neg (show ¬ (false = true) by decide)] at H; exact H
                clear H
                have H := H1
                clear H1
                by_cases c16 : (bt a0 x4_1) < 32
                · rw [if_pos c16] at H
                  have c16b0 : decide ((bt a0 x4_1) < 32) = true := decide_eq_true c16
                  clear c16
                  replace H := Option.bind_eq_some_iff.mp H
                  obtain ⟨t221, A170, H⟩ := H
                  replace H : ((some (([92, 117, 48, 48, (48 + ((Int.tdiv (bt a0 x4_1) 16) % 256)) % 256, t221] : List Int) : List Int)).bind fun y222 => (if x3_1.length + y222.length < 140737488355328 then (spec_Quote.l0 kj7 a0 (x3_1 ++ y222) (wrap64 (x4_1 + 1))) else (none))) = some r := H
                  have A17 := Aside0.mk A170
                  clear A170
                  obtain ⟨y222, hy222⟩ : ∃ y_ : List Int, y_ = (([92, 117, 48, 48, (48 + ((Int.tdiv (bt a0 x4_1) 16) % 256)) % 256, t221] : List Int)) := ⟨_, rfl⟩
                  replace H : (if x3_1.length + y222.length < 140737488355328 then (spec_Quote.l0 kj7 a0 (x3_1 ++ y222) (wrap64 (x4_1 + 1))) else (none)) = some r := by first | (rw [hy222]; with_reducible exact H) | (have H2_ := (Option.bind_some _ _).symm.trans H; rw [hy222]; with_reducible exact H2_) | (have H2_ := (Option.bind_some _ _).symm.trans H; with_reducible exact H2_) | with_reducible exact H | (rw [hy222]; exact H) | exact H
                  have Ny222 := Aside0.mk hy222
                  clear hy222
                  by_cases c18 : x3_1.length + y222.length < 140737488355328
                  · rw [if_pos c18] at H
                    have LMc18 := Aside0.mk c18
                    clear c18
                    obtain ⟨y225, hy225⟩ : ∃ y_ : List Int, y_ = (x3_1 ++ y222) := ⟨_, rfl⟩
                    replace H : (spec_Quote.l0 kj7 a0 y225 (wrap64 (x4_1 + 1))) = some r := by first | (rw [hy225]; with_reducible exact H) | (have H2_ := (Option.bind_some _ _).symm.trans H; rw [hy225]; with_reducible exact H2_) | (have H2_ := (Option.bind_some _ _).symm.trans H; with_reducible exact H2_) | with_reducible exact H | (rw [hy225]; exact H) | exact H
                    have Ny225 := Aside0.mk hy225
                    clear hy225
                    have H' := Aside0.mk H
                    clear H
                    go_wp2_with (first | ((with_reducible refine gate_callee (f := 114) rfl ?_); refine goesL_ (some 47) rfl rfl Tryz.func114 (by kernel_rfl) rfl #[.int .i64 (wrap64 (Int.tmod (bt a0 x4_1) 16)), .bool false] rfl (by (try simp only [List.map_toArray, List.map_cons, List.map_nil]); first | done | rfl | (simp only [List.length_drop, List.length_take]; rfl)) ?_; (with_reducible refine (spec_digitOf.calls (wrap64 (Int.tmod (bt a0 x4_1) 16)) false t221 _ A17.out).mono ?_); rintro e w' ⟨rfl, ⟨nd, rfl⟩⟩; refine ⟨_, rfl, ?_⟩) | ((with_reducible refine gate_dst (N := 48) rfl ?_); refine Kd.R_lit (Kd.int .u8) _ 5 ?hg (N := 48) ?hd (xs := ([92, 117, 48, 48, (48 + ((Int.tdiv (bt a0 x4_1) 16) % 256)) % 256, t221] : List Int)) (inner := [.int .u8 92, .int .u8 117, .int .u8 48, .int .u8 48, .int .u8 ((48 + ((Int.tdiv (bt a0 x4_1) 16) % 256)) % 256), .int .u8 t221]) (ok := fun _ => True) (okp := fun _ => True) ?hr ?hp (fun _ hk => hk) trivial (Below.refl _ _) (Nat.le_refl _) (by simp) ?_; (case hd => rfl); (case hg => rfl); (case hr => first | (go_simp; done) | (go_simp; rfl)); (case hp => exact (Reps.one (show Kd.M (Kd.int .u8) _ _ _ 92 [.int .u8 92] from rfl) (Reps.one (show Kd.M (Kd.int .u8) _ _ _ 117 [.int .u8 117] from rfl) (Reps.one (show Kd.M (Kd.int .u8) _ _ _ 48 [.int .u8 48] from rfl) (Reps.one (show Kd.M (Kd.int .u8) _ _ _ 48 [.int .u8 48] from rfl) (Reps.one (show Kd.M (Kd.int .u8) _ _ _ ((48 + ((Int.tdiv (bt a0 x4_1) 16) % 256)) % 256) [.int .u8 ((48 + ((Int.tdiv (bt a0 x4_1) 16) % 256)) % 256)] from rfl) (Reps.one (show Kd.M (Kd.int .u8) _ _ _ t221 [.int .u8 t221] from rfl) (Reps.none _ _)))))))); intro v223 w19 ho20 hb hg_ hnew_; clear hg_ hnew_; (first | rw [← Ny222.out] at ho20 | (simp only [Int.reduceToNat] at ho20; rw [← Ny222.out] at ho20)); have n0_ := Aside0.mk (Kd.R_elder' (by (with_reducible repeat (first | apply Kd.R_alloc | apply Kd.R_drewN | apply Kd.R_drew)); exact HO_3.out) (Kd.R_base ho20) hb); have n1_ := Aside0.mk (Kd.R_lower (Kd.R_new' ho20 (Kd.R_lt (by (with_reducible repeat (first | apply Kd.R_alloc | apply Kd.R_drewN | apply Kd.R_drew)); exact HO_3.out))) (below_size (by repeat (first | (with_reducible first | exact HB.out | apply below_alloc | apply pw_below_drewN | apply below_drew1) | exact HB.out)))); have n2_ := Aside0.mk (below_step (by repeat (first | (with_reducible first | exact HB.out | apply below_alloc | apply pw_below_drewN | apply below_drew1) | exact HB.out)) hb); clear HO_3; clear HB; have HO_3 := n0_; have HO224 := n1_; have HB := n2_; clear n0_ n1_ n2_; clear hb ho20; obtain ⟨Ao22, co22, eo22⟩ := Kd.R_slice HO224.out; subst eo22) | ((with_reducible refine gate_builtin (b := .append) (xs := #[.tmp 40, .tmp 48]) rfl ?_); at_builtin; refine Kd.R_append_rows (Kd.int .u8) (w0 := w) w.heap.size rfl (.tmp 40) (.tmp 48) 80 5 (.int .u8 0) 1 rfl Tryz.underlying80 info5 rfl (by decide) (by omega) u3 x3_1 y222 _ _ _ (fun k_ => some k_ ≠ (.slice Ao22 y222.length co22 : Value).ownBlock) (fun _ => False) rfl rfl ?aO ?aR (fun _ _ h => h) (fun _ h => h.elim) ?aF ?aB ?aS ?aL ?_; (case aR => repeat (first | exact (Kd.R_reads' HO224.out).2.2 | (with_reducible refine Kd.C_alloc ?_ _) | (with_reducible refine Kd.C_drewN ?_ _) | (with_reducible refine Kd.C_drew ?_))); (case aB => exact (by repeat (first | (with_reducible first | exact HB.out | apply below_alloc | apply pw_below_drewN | apply below_drew1) | exact HB.out))); (case aF => exact (fun k_ hk => Kd.fresh' (Kd.R_lt (by (with_reducible repeat (first | apply Kd.R_alloc | apply Kd.R_drewN | apply Kd.R_drew)); exact HO224.out)) k_ hk)); (case aO => exact (by (with_reducible repeat (first | apply Kd.R_alloc | apply Kd.R_drewN | apply Kd.R_drew)); exact Kd.R_mono HO_3.out (fun _ hk => hk.2))); (case aS => exact (below_size (by repeat (first | (with_reducible first | exact HB.out | apply below_alloc | apply pw_below_drewN | apply below_drew1) | exact HB.out)))); (case aL => have := LMc18.out; omega); intro v226 w21 ho hb hg hat; rw [← Ny225.out] at ho; have n0_ := Aside0.mk (Kd.R_after (ok := (fun _ => True)) (by (with_reducible repeat (first | apply Kd.R_alloc | apply Kd.R_drewN | apply Kd.R_drew)); exact HO224.out) hg hat); have n1_ := Aside0.mk (hb); have n2_ := Aside0.mk (ho); clear HO224; clear HB; clear HO_3; have HO224 := n0_; have HB := n1_; have HO227 := n2_; clear n0_ n1_ n2_; clear ho hb hg hat))
                    go_roundg kj7
                    case measure => have := HK1.out; have := HJ7.out; omega
                    case rel => exact ⟨(y225), (wrap64 (x4_1 + 1)), (by first | rfl | (simp; done) | (simp [*]; done)), H', ⟨by have := HK1.out; have := HJ7.out; omega⟩, ⟨by (with_reducible repeat (first | apply Kd.R_alloc | apply Kd.R_drewN | apply Kd.R_drew)); exact Kd.R_mono HO227.out (fun _ hk => trivial)⟩, ⟨by repeat (first | (with_reducible first | exact HB.out | apply below_alloc | apply pw_below_drewN | apply below_drew1) | exact HB.out)⟩⟩
                  · rw [if_neg c18] at H
                    exact absurd H (by simp)
                · rw [if_neg c16] at H
                  have c16b0 : decide ((bt a0 x4_1) < 32) = false := decide_eq_false c16
                  clear c16
                  by_cases c23 : x3_1.length < 140737488355328
                  · rw [if_pos c23] at H
                    have LMc23 := Aside0.mk c23
                    clear c23
                    obtain ⟨y228, hy228⟩ : ∃ y_ : List Int, y_ = (x3_1 ++ [(bt a0 x4_1)]) := ⟨_, rfl⟩
                    replace H : (spec_Quote.l0 kj7 a0 y228 (wrap64 (x4_1 + 1))) = some r := by first | (rw [hy228]; with_reducible exact H) | (have H2_ := (Option.bind_some _ _).symm.trans H; rw [hy228]; with_reducible exact H2_) | (have H2_ := (Option.bind_some _ _).symm.trans H; with_reducible exact H2_) | with_reducible exact H | (rw [hy228]; exact H) | exact H
                    have Ny228 := Aside0.mk hy228
                    clear hy228
                    have H' := Aside0.mk H
                    clear H
                    go_wp2_with (first | ((with_reducible refine gate_builtin (b := .append) (xs := #[.tmp 23, .tmp 25]) rfl ?_); at_builtin; refine Kd.R_append (Kd.int .u8) (w0 := w) w.heap.size rfl (.tmp 23) (.tmp 25) 80 5 (.int .u8 0) 1 rfl Tryz.underlying80 info5 rfl (by decide) (by omega) u3 x3_1 (bt a0 x4_1) [.int .u8 (bt a0 x4_1)] (fun _ => True) (fun _ => False) rfl rfl ?aP (fun _ hk => hk.elim) ?aF ?aO ?aB ?aS ?aL ?_; (case aP => exact rfl); (case aB => exact (by repeat (first | (with_reducible first | exact HB.out | apply below_alloc | apply pw_below_drewN | apply below_drew1) | exact HB.out))); (case aF => exact (fun _ _ => trivial)); (case aO => exact (by (with_reducible repeat (first | apply Kd.R_alloc | apply Kd.R_drewN | apply Kd.R_drew)); exact HO_3.out)); (case aS => exact (below_size (by repeat (first | (with_reducible first | exact HB.out | apply below_alloc | apply pw_below_drewN | apply below_drew1) | exact HB.out)))); (case aL => have := LMc23.out; omega); intro v229 w24 ho hb hg hat; rw [← Ny228.out] at ho; have n0_ := Aside0.mk (hb); have n1_ := Aside0.mk (ho); clear HB; clear HO_3; have HB := n0_; have HO230 := n1_; clear n0_ n1_; clear ho hb hg hat))
                    go_roundg kj7
                    case measure => have := HK1.out; have := HJ7.out; omega
                    case rel => exact ⟨(y228), (wrap64 (x4_1 + 1)), (by first | rfl | (simp; done) | (simp [*]; done)), H', ⟨by have := HK1.out; have := HJ7.out; omega⟩, ⟨by (with_reducible repeat (first | apply Kd.R_alloc | apply Kd.R_drewN | apply Kd.R_drew)); exact HO230.out⟩, ⟨by repeat (first | (with_reducible first | exact HB.out | apply below_alloc | apply pw_below_drewN | apply below_drew1) | exact HB.out)⟩⟩
                  · rw [if_neg c23] at H
                    exact absurd H (by simp)
        · rw [if_neg c5] at H
          exact absurd H (by simp)
      · rw [if_neg c4] at H
        have c4b0 : decide (x4_1 < (a0.size : Int)) = false := decide_eq_false c4
        clear c4
        by_cases c25 : x3_1.length < 140737488355328
        · rw [if_pos c25] at H
          have LMc25 := Aside0.mk c25
          clear c25
          obtain ⟨y210, hy210⟩ : ∃ y_ : List Int, y_ = (x3_1 ++ [34]) := ⟨_, rfl⟩
          replace H : (some (strOfNums y210)) = some r := by first | (rw [hy210]; with_reducible exact H) | (have H2_ := (Option.bind_some _ _).symm.trans H; rw [hy210]; with_reducible exact H2_) | (have H2_ := (Option.bind_some _ _).symm.trans H; with_reducible exact H2_) | with_reducible exact H | (rw [hy210]; exact H) | exact H
          have Ny210 := Aside0.mk hy210
          clear hy210
          obtain rfl := Option.some.inj H
          go_wp2_with (first | ((with_reducible refine gate_builtin (b := .append) (xs := #[.tmp 50, .tmp 51]) rfl ?_); at_builtin; refine Kd.R_append (Kd.int .u8) (w0 := w) w.heap.size rfl (.tmp 50) (.tmp 51) 80 5 (.int .u8 0) 1 rfl Tryz.underlying80 info5 rfl (by decide) (by omega) u3 x3_1 34 [.int .u8 34] (fun _ => True) (fun _ => False) rfl rfl ?aP (fun _ hk => hk.elim) ?aF ?aO ?aB ?aS ?aL ?_; (case aP => exact rfl); (case aB => exact (by repeat (first | (with_reducible first | exact HB.out | apply below_alloc | apply pw_below_drewN | apply below_drew1) | exact HB.out))); (case aF => exact (fun _ _ => trivial)); (case aO => exact (by (with_reducible repeat (first | apply Kd.R_alloc | apply Kd.R_drewN | apply Kd.R_drew)); exact HO_3.out)); (case aS => exact (below_size (by repeat (first | (with_reducible first | exact HB.out | apply below_alloc | apply pw_below_drewN | apply below_drew1) | exact HB.out)))); (case aL => have := LMc25.out; omega); intro v211 w26 ho hb hg hat; rw [← Ny210.out] at ho; have n0_ := Aside0.mk (hb); have n1_ := Aside0.mk (ho); clear HB; clear HO_3; have HB := n0_; have HO212 := n1_; clear n0_ n1_; clear ho hb hg hat; have hcv27 := own_string (P := Tryz.prog) Tryz.underlying80 Tryz.underlying5 Tryz.underlying9 (Kd.own_of_R HO212.out)))
          go_ret
          exact ⟨by first | rfl | (simp [errW_none, errW_some] <;> rfl) | (simp [*, errW_none, errW_some] <;> rfl), by repeat (first | (with_reducible first | exact HB.out | apply below_alloc | apply pw_below_drewN | apply below_drew1) | exact HB.out)⟩
        · rw [if_neg c25] at H
          exact absurd H (by simp)

/-! ### spec_Blank: function 115 -/
def spec_Blank.f (a0 : Int) : Option (Bool) := if a0 = 32 then (some true) else (if a0 = 9 then (some true) else (if a0 = 10 then (some true) else (some (a0 == 13))))
set_option maxHeartbeats 8000000 in
set_option maxRecDepth 100000 in
theorem spec_Blank.calls (a0 : Int) (r : Bool) (w : World) (h : spec_Blank.f a0 = some r) :
    Calls Tryz.prog 115 #[.int .u8 a0] w fun e w' => e = .returned (.bool r) ∧ Drawn0 w w' := by
  have H : (if a0 = 32 then (some true) else (if a0 = 9 then (some true) else (if a0 = 10 then (some true) else (some (a0 == 13))))) = some r := h
  clear h
  by_cases c2 : a0 = 32
  · rw [if_pos c2] at H
    have c2b0 : (a0 == 32) = true := beq_iff_eq.mpr c2
    have c2b1 : (a0 != 32) = false := bne_eq_false_iff_eq.mpr c2
    clear c2
    obtain rfl := Option.some.inj H
    go_enter Tryz.func115, Tryz.ntmps115
    go_wp2
    go_ret
    exact ⟨by first | rfl | (simp; done) | (simp [*]; done), by repeat (first | exact Drawn0.refl _ | apply Drawn0.step)⟩
  · rw [if_neg c2] at H
    have c2b0 : (a0 == 32) = false := beq_eq_false_iff_ne.mpr c2
    have c2b1 : (a0 != 32) = true := bne_iff_ne.mpr c2
    by_cases c3 : a0 = 9
    · rw [if_pos c3] at H
      have c3b0 : (a0 == 9) = true := beq_iff_eq.mpr c3
      have c3b1 : (a0 != 9) = false := bne_eq_false_iff_eq.mpr c3
      clear c3
      obtain rfl := Option.some.inj H
      go_enter Tryz.func115, Tryz.ntmps115
      go_wp2
      go_ret
      exact ⟨by first | rfl | (simp; done) | (simp [*]; done), by repeat (first | exact Drawn0.refl _ | apply Drawn0.step)⟩
    · rw [if_neg c3] at H
      have c3b0 : (a0 == 9) = false := beq_eq_false_iff_ne.mpr c3
      have c3b1 : (a0 != 9) = true := bne_iff_ne.mpr c3
      by_cases c4 : a0 = 10
      · rw [if_pos c4] at H
        have c4b0 : (a0 == 10) = true := beq_iff_eq.mpr c4
        have c4b1 : (a0 != 10) = false := bne_eq_false_iff_eq.mpr c4
        clear c4
        obtain rfl := Option.some.inj H
        go_enter Tryz.func115, Tryz.ntmps115
        go_wp2
        go_ret
        exact ⟨by first | rfl | (simp; done) | (simp [*]; done), by repeat (first | exact Drawn0.refl _ | apply Drawn0.step)⟩
      · rw [if_neg c4] at H
        have c4b0 : (a0 == 10) = false := beq_eq_false_iff_ne.mpr c4
        have c4b1 : (a0 != 10) = true := bne_iff_ne.mpr c4
        obtain rfl := Option.some.inj H
        go_enter Tryz.func115, Tryz.ntmps115
        go_wp2
        go_ret
        exact ⟨by first | rfl | (simp; done) | (simp [*]; done), by repeat (first | exact Drawn0.refl _ | apply Drawn0.step)⟩

/-- A state of type 120 at block g of W; what its slices lead to came in by w0. -/
def IsS120 (w0 W : World) (g : Nat) (f0 : ByteArray) (f1 : Int) : Prop := W.heap[g]? = some (.cells #[.string f0, .int .i64 f1] 120 (0, 0)) ∧ w0.heap.size ≤ g
theorem IsS120.grown {w0 W : World} {g : Nat} {f0 : ByteArray} {f1 : Int} {W1 : World} {row : Option Nat} (h : IsS120 w0 W g f0 f1) (hw : W.grownBy W1 row) (hne : some g ≠ row) : IsS120 w0 W1 g f0 f1 := by
  obtain ⟨hb, hg⟩ := h
  exact ⟨blk_grown hb hw hne, hg⟩
theorem IsS120.fresh {w0 W : World} {g : Nat} {f0 : ByteArray} {f1 : Int} (h : IsS120 w0 W g f0 f1) : ∀ k, W.heap.size ≤ k → k ≠ g := by
  obtain ⟨hb, hg⟩ := h
  exact Kd.freshB hb
theorem IsS120.kept {w0 W : World} {g : Nat} {f0 : ByteArray} {f1 : Int} {W1 : World} {S : Nat → Prop} (h : IsS120 w0 W g f0 f1) (hk : Kept W W1 S) (hne : ¬ S g) : IsS120 w0 W1 g f0 f1 := by
  obtain ⟨hb, hg⟩ := h
  exact ⟨blk_kept hb hk hne, hg⟩
theorem IsS120.below {w0 W : World} {g : Nat} {f0 : ByteArray} {f1 : Int} {W1 : World} (h : IsS120 w0 W g f0 f1) (hw : Below W.heap.size W W1) : IsS120 w0 W1 g f0 f1 := h.grown (grown_of_below hw none) (by simp)
theorem IsS120.alloc {w0 W : World} {g : Nat} {f0 : ByteArray} {f1 : Int} (h : IsS120 w0 W g f0 f1) (o : Obj) : IsS120 w0 (W.alloc o) g f0 f1 := h.below (below_alloc (Below.refl _ _) o)
theorem IsS120.drewN {w0 W : World} {g : Nat} {f0 : ByteArray} {f1 : Int} (h : IsS120 w0 W g f0 f1) (m : Nat) : IsS120 w0 (W.drewN m) g f0 f1 := h
theorem IsS120.drew {w0 W : World} {g : Nat} {f0 : ByteArray} {f1 : Int} (h : IsS120 w0 W g f0 f1) : IsS120 w0 W.drew g f0 f1 := h
theorem IsS120.at_ {w0 W : World} {g : Nat} {f0 : ByteArray} {f1 : Int} {w' : World} {m : Nat} (hq : W.drewN m = w') (h : IsS120 w0 W g f0 f1) : IsS120 w0 w' g f0 f1 := by subst hq; exact IsS120.drewN h m
theorem IsS120.apart {w0 W : World} {g : Nat} {f0 : ByteArray} {f1 : Int} {α : Type} {d : Kd α} {e : Nat} {base : Nat} {ok : Nat → Prop} {v : Value} {xs : List α} (h : IsS120 w0 W g f0 f1) (ho : d.R e W base ok v xs) (ht : ∀ q, q ∈ e :: d.E → q ≠ 120) : d.R e W base (fun k => ok k ∧ k ≠ g) v xs := by
  obtain ⟨hb, hg⟩ := h
  exact Kd.R_types ho hb ht
theorem IsS120.own_ne {w0 W : World} {g : Nat} {f0 : ByteArray} {f1 : Int} {α : Type} {d : Kd α} {e : Nat} {base : Nat} {ok : Nat → Prop} {v : Value} {xs : List α} (h : IsS120 w0 W g f0 f1) (ho : d.R e W base ok v xs) (ht : e ≠ 120) : some g ≠ v.ownBlock := by
  obtain ⟨hb, hg⟩ := h
  exact Kd.R_ne ho hb ht
theorem IsS120.lt {w0 W : World} {g : Nat} {f0 : ByteArray} {f1 : Int} (h : IsS120 w0 W g f0 f1) : g < W.heap.size := by
  obtain ⟨hb, hg⟩ := h
  exact blk_lt hb
theorem IsS120.ge {w0 W : World} {g : Nat} {f0 : ByteArray} {f1 : Int} (h : IsS120 w0 W g f0 f1) : w0.heap.size ≤ g := by
  obtain ⟨hb, hg⟩ := h
  exact hg
theorem IsS120.far {w0 W : World} {g : Nat} {f0 : ByteArray} {f1 : Int} {p : Addr} (h : IsS120 w0 W g f0 f1) (hne : g ≠ p.block) (u : Value) : IsS120 w0 (W.setCell p u) g f0 f1 := by
  obtain ⟨hb, hg⟩ := h
  exact ⟨blk_far hb hne u, hg⟩
theorem cellS120_0 {W : World} {g : Nat} {f0 : ByteArray} {f1 : Int} (h : W.heap[g]? = some (.cells #[.string f0, .int .i64 f1] 120 (0, 0))) : W.cell? ⟨g, 0, none⟩ = some (.string f0) := (blk_cell h 0).trans rfl
theorem IsS120.set_0 {w0 W : World} {g : Nat} {f0 : ByteArray} {f1 : Int} (h : IsS120 w0 W g f0 f1) (x : ByteArray) : IsS120 w0 (W.setCell ⟨g, 0, none⟩ (.string x)) g x f1 := by
  obtain ⟨hb, hg⟩ := h
  exact ⟨by simpa using blk_set hb 0 (.string x), hg⟩
theorem cellS120_1 {W : World} {g : Nat} {f0 : ByteArray} {f1 : Int} (h : W.heap[g]? = some (.cells #[.string f0, .int .i64 f1] 120 (0, 0))) : W.cell? ⟨g, 1, none⟩ = some (.int .i64 f1) := (blk_cell h 1).trans rfl
theorem IsS120.set_1 {w0 W : World} {g : Nat} {f0 : ByteArray} {f1 : Int} (h : IsS120 w0 W g f0 f1) (x : Int) : IsS120 w0 (W.setCell ⟨g, 1, none⟩ (.int .i64 x)) g f0 x := by
  obtain ⟨hb, hg⟩ := h
  exact ⟨by simpa using blk_set hb 1 (.int .i64 x), hg⟩
theorem IsS120.new (w0 W : World) (f0 : ByteArray) (f1 : Int) (hB : Below w0.heap.size w0 W) : IsS120 w0 (W.alloc (.cells #[.string f0, .int .i64 f1] 120)) W.heap.size f0 f1 := ⟨by simpa using heap_alloc_new W _, hB.size⟩

/-! ### spec_reader_blanks: function 75 -/
def spec_reader_blanks.l0 : Nat → ByteArray → Int → Option (ByteArray × Int)
  | 0, _, _ => none
  | k + 1, x1000, x1001 => if x1001 < (x1000.size : Int) then (if 0 ≤ x1001 then ((spec_Blank.f (bt x1000 x1001)).bind fun t231 => (if t231 = true then (spec_reader_blanks.l0 k x1000 (wrap64 (x1001 + 1))) else (some (x1000, x1001)))) else (none)) else (some (x1000, x1001))
def spec_reader_blanks.f (k : Nat) (s0_0 : ByteArray) (s0_1 : Int) : Option (ByteArray × Int) := spec_reader_blanks.l0 k s0_0 s0_1
set_option maxHeartbeats 8000000 in
set_option maxRecDepth 100000 in
theorem spec_reader_blanks.calls (k : Nat) (g : Nat) (s0_0 : ByteArray) (s0_1 : Int) (r1 : ByteArray) (r2 : Int) (w0 w : World) (hI : IsS120 w0 w g s0_0 s0_1) (hB : Below w0.heap.size w0 w) (h : spec_reader_blanks.f k s0_0 s0_1 = some (r1, r2)) :
    Calls Tryz.prog 75 #[.pointer (some ⟨g, 0, none⟩)] w fun e w' => e = .returned (.tuple #[]) ∧ IsS120 w0 w' g r1 r2 ∧ Below w0.heap.size w0 w' ∧ KeepBut w w' g none := by
  have HI0 := Aside0.mk hI
  have HK := Aside0.mk (KeepBut.refl w g none)
  have HL := Aside0.mk hB.size
  clear hI
  have HW0 := Aside0.mk hB.size
  have HB := Aside0.mk hB
  clear hB
  have H : (spec_reader_blanks.l0 k s0_0 s0_1) = some (r1, r2) := h
  clear h
  have H' := Aside0.mk H
  clear H
  go_enter Tryz.func75, Tryz.ntmps75
  go_wp2
  repeat (go_quiet (fail); try go_wp2)
  go_loopg [] k (fun kq w' => ∃ (x1001_1 : Int), Aside0 (spec_reader_blanks.l0 kq s0_0 x1001_1 = some (r1, r2)) ∧ Aside0 (kq ≤ k) ∧ Aside0 (IsS120 w0 w' g s0_0 x1001_1) ∧ Aside0 (KeepBut w w' g none) ∧ Aside0 (Below w0.heap.size w0 w'))
  case atStart => exact ⟨(s0_1), H', ⟨Nat.le_refl _⟩, ⟨by repeat (first | (with_reducible first | exact HI0.out | apply IsS120.alloc | apply IsS120.drewN | apply IsS120.drew | apply IsS120.set_0 | apply IsS120.set_1) | exact HI0.out)⟩, ⟨by repeat (first | (with_reducible first | exact HK.out | apply KeepBut.set_ | apply keep_drewN | apply keep_drew | apply keep_alloc) | exact HK.out)⟩, ⟨by repeat (first | (with_reducible first | exact HB.out | apply below_alloc | apply pw_below_drewN | apply below_drew1 | refine below_set ?_ (IsS120.ge HI0.out)) | exact HB.out)⟩⟩
  case round =>
    clear H'
    obtain ⟨x1001_1, HA, HK1, HI0, HK, HB⟩ := hrel
    cases gk with
    | zero => exact absurd HA.out (by simp [spec_reader_blanks.l0])
    | succ k1 =>
      have H := HA.out
      clear HA
      simp only [spec_reader_blanks.l0] at H
      by_cases c2 : x1001_1 < (s0_0.size : Int)
      · rw [if_pos c2] at H
        have c2b0 : decide (x1001_1 < (s0_0.size : Int)) = true := decide_eq_true c2
        clear c2
        by_cases c3 : 0 ≤ x1001_1
        · rw [if_pos c3] at H
          have c3b0 : decide (0 ≤ x1001_1) = true := decide_eq_true c3
          clear c3
          replace H := Option.bind_eq_some_iff.mp H
          obtain ⟨t231, A50, H⟩ := H
          replace H : (if t231 = true then (spec_reader_blanks.l0 k1 s0_0 (wrap64 (x1001_1 + 1))) else (some (s0_0, x1001_1))) = some (r1, r2) := H
          have A5 := Aside0.mk A50
          clear A50
          by_cases c6 : t231 = true
          · subst c6
            have H1 : (spec_reader_blanks.l0 k1 s0_0 (wrap64 (x1001_1 + 1))) = some (r1, r2) := by rw [if_pos rfl] at H; exact H
            clear H
            have H := H1
            clear H1
            have H' := Aside0.mk H
            clear H
            obtain ⟨HGz7, hgz7⟩ := HI0.out
            have hcz7_0 := cellS120_0 HGz7
            have hcz7_1 := cellS120_1 HGz7
            have hfz7_0 := blk_frozen HGz7 0
            have hfz7_1 := blk_frozen HGz7 1
            clear HGz7 hgz7
            have p4 : 0 ≤ (x1001_1 : Int) := of_decide_eq_true (by first | (with_reducible assumption) | assumption)
            have q4 : x1001_1 < (s0_0.size : Int) := of_decide_eq_true (by first | (with_reducible assumption) | assumption)
            have hx4 := bt_at s0_0 x1001_1
            replace p4 := eq_true p4
            replace q4 := eq_true q4
            go_wp2_with (first | (go_at_call 115; (with_reducible refine (spec_Blank.calls (bt s0_0 x1001_1) true _ A5.out).mono ?_); rintro e w' ⟨rfl, ⟨nd, rfl⟩⟩; (try first | exact ⟨rfl, _, World.drewN_drewN _ _ _⟩ | exact ⟨rfl, _, Eq.trans (World.drewN_drewN _ _ _) (congrArg (World.drewN _) (Nat.add_assoc _ _ _))⟩)))
            repeat (go_quiet (first | (go_at_call 115; (with_reducible refine (spec_Blank.calls (bt s0_0 x1001_1) true _ A5.out).mono ?_); rintro e w' ⟨rfl, ⟨nd, rfl⟩⟩; (try first | exact ⟨rfl, _, World.drewN_drewN _ _ _⟩ | exact ⟨rfl, _, Eq.trans (World.drewN_drewN _ _ _) (congrArg (World.drewN _) (Nat.add_assoc _ _ _))⟩))); try go_wp2_with (first | (go_at_call 115; (with_reducible refine (spec_Blank.calls (bt s0_0 x1001_1) true _ A5.out).mono ?_); rintro e w' ⟨rfl, ⟨nd, rfl⟩⟩; (try first | exact ⟨rfl, _, World.drewN_drewN _ _ _⟩ | exact ⟨rfl, _, Eq.trans (World.drewN_drewN _ _ _) (congrArg (World.drewN _) (Nat.add_assoc _ _ _))⟩))))
            go_roundg k1
            case measure => have := HK1.out; omega
            case rel => exact ⟨(wrap64 (x1001_1 + 1)), H', ⟨by have := HK1.out; omega⟩, ⟨by repeat (first | (with_reducible first | exact HI0.out | apply IsS120.alloc | apply IsS120.drewN | apply IsS120.drew | apply IsS120.set_0 | apply IsS120.set_1) | exact HI0.out)⟩, ⟨by repeat (first | (with_reducible first | exact HK.out | apply KeepBut.set_ | apply keep_drewN | apply keep_drew | apply keep_alloc) | exact HK.out)⟩, ⟨by repeat (first | (with_reducible first | exact HB.out | apply below_alloc | apply pw_below_drewN | apply below_drew1 | refine below_set ?_ (IsS120.ge HI0.out)) | exact HB.out)⟩⟩
          · replace c6 := Bool.eq_false_iff.mpr c6
            subst c6
            have H1 : (some (s0_0, x1001_1)) = some (r1, r2) := by rw [if_neg (show ¬ (false = true) by decide)] at H; exact H
            clear H
            have H := H1
            clear H1
            simp only [Option.some.injEq, Prod.mk.injEq] at H
            obtain ⟨rfl, rfl⟩ := H
            obtain ⟨HGz8, hgz8⟩ := HI0.out
            have hcz8_0 := cellS120_0 HGz8
            have hcz8_1 := cellS120_1 HGz8
            have hfz8_0 := blk_frozen HGz8 0
            have hfz8_1 := blk_frozen HGz8 1
            clear HGz8 hgz8
            have p4 : 0 ≤ (x1001_1 : Int) := of_decide_eq_true (by first | (with_reducible assumption) | assumption)
            have q4 : x1001_1 < (s0_0.size : Int) := of_decide_eq_true (by first | (with_reducible assumption) | assumption)
            have hx4 := bt_at s0_0 x1001_1
            replace p4 := eq_true p4
            replace q4 := eq_true q4
            go_wp2_with (first | (go_at_call 115; (with_reducible refine (spec_Blank.calls (bt s0_0 x1001_1) false _ A5.out).mono ?_); rintro e w' ⟨rfl, ⟨nd, rfl⟩⟩; (try first | exact ⟨rfl, _, World.drewN_drewN _ _ _⟩ | exact ⟨rfl, _, Eq.trans (World.drewN_drewN _ _ _) (congrArg (World.drewN _) (Nat.add_assoc _ _ _))⟩)))
            repeat (go_quiet (first | (go_at_call 115; (with_reducible refine (spec_Blank.calls (bt s0_0 x1001_1) false _ A5.out).mono ?_); rintro e w' ⟨rfl, ⟨nd, rfl⟩⟩; (try first | exact ⟨rfl, _, World.drewN_drewN _ _ _⟩ | exact ⟨rfl, _, Eq.trans (World.drewN_drewN _ _ _) (congrArg (World.drewN _) (Nat.add_assoc _ _ _))⟩))); try go_wp2_with (first | (go_at_call 115; (with_reducible refine (spec_Blank.calls (bt s0_0 x1001_1) false _ A5.out).mono ?_); rintro e w' ⟨rfl, ⟨nd, rfl⟩⟩; (try first | exact ⟨rfl, _, World.drewN_drewN _ _ _⟩ | exact ⟨rfl, _, Eq.trans (World.drewN_drewN _ _ _) (congrArg (World.drewN _) (Nat.add_assoc _ _ _))⟩))))
            first | go_end0 | ((try simp only [Exit.inBlock, Exit.then]); refine bodyPost_ret (results_none rfl _ _ _) rfl ?_)
            exact ⟨by first | rfl | (simp [errW_none, errW_some] <;> rfl) | (simp [*, errW_none, errW_some] <;> rfl), by repeat (first | (with_reducible first | exact HI0.out | apply IsS120.alloc | apply IsS120.drewN | apply IsS120.drew | apply IsS120.set_0 | apply IsS120.set_1) | exact HI0.out), by repeat (first | (with_reducible first | exact HB.out | apply below_alloc | apply pw_below_drewN | apply below_drew1 | refine below_set ?_ (IsS120.ge HI0.out)) | exact HB.out), by repeat (first | (with_reducible first | exact HK.out | apply KeepBut.set_ | apply keep_drewN | apply keep_drew | apply keep_alloc) | exact HK.out)⟩
        · rw [if_neg c3] at H
          exact absurd H (by simp)
      · rw [if_neg c2] at H
        have c2b0 : decide (x1001_1 < (s0_0.size : Int)) = false := decide_eq_false c2
        clear c2
        simp only [Option.some.injEq, Prod.mk.injEq] at H
        obtain ⟨rfl, rfl⟩ := H
        obtain ⟨HGz9, hgz9⟩ := HI0.out
        have hcz9_0 := cellS120_0 HGz9
        have hcz9_1 := cellS120_1 HGz9
        have hfz9_0 := blk_frozen HGz9 0
        have hfz9_1 := blk_frozen HGz9 1
        clear HGz9 hgz9
        go_wp2
        repeat (go_quiet (fail); try go_wp2)
        first | go_end0 | ((try simp only [Exit.inBlock, Exit.then]); refine bodyPost_ret (results_none rfl _ _ _) rfl ?_)
        exact ⟨by first | rfl | (simp [errW_none, errW_some] <;> rfl) | (simp [*, errW_none, errW_some] <;> rfl), by repeat (first | (with_reducible first | exact HI0.out | apply IsS120.alloc | apply IsS120.drewN | apply IsS120.drew | apply IsS120.set_0 | apply IsS120.set_1) | exact HI0.out), by repeat (first | (with_reducible first | exact HB.out | apply below_alloc | apply pw_below_drewN | apply below_drew1 | refine below_set ?_ (IsS120.ge HI0.out)) | exact HB.out), by repeat (first | (with_reducible first | exact HK.out | apply KeepBut.set_ | apply keep_drewN | apply keep_drew | apply keep_alloc) | exact HK.out)⟩

/-! ### spec_reader_here: function 116 -/
def spec_reader_here.f (s0_0 : ByteArray) (s0_1 : Int) : Option (Int × ByteArray × Int) := if s0_1 < (s0_0.size : Int) then (if 0 ≤ s0_1 then (some (bt s0_0 s0_1, s0_0, s0_1)) else (none)) else (some (0, s0_0, s0_1))
set_option maxHeartbeats 8000000 in
set_option maxRecDepth 100000 in
theorem spec_reader_here.calls (g : Nat) (s0_0 : ByteArray) (s0_1 : Int) (r1 : Int) (r2 : ByteArray) (r3 : Int) (w0 w : World) (hI : IsS120 w0 w g s0_0 s0_1) (hB : Below w0.heap.size w0 w) (h : spec_reader_here.f s0_0 s0_1 = some (r1, r2, r3)) :
    Calls Tryz.prog 116 #[.pointer (some ⟨g, 0, none⟩)] w fun e w' => e = .returned (.int .u8 r1) ∧ IsS120 w0 w' g r2 r3 ∧ Below w0.heap.size w0 w' ∧ KeepBut w w' g none := by
  have HI0 := Aside0.mk hI
  have HK := Aside0.mk (KeepBut.refl w g none)
  have HL := Aside0.mk hB.size
  clear hI
  have HW0 := Aside0.mk hB.size
  have HB := Aside0.mk hB
  clear hB
  have H : (if s0_1 < (s0_0.size : Int) then (if 0 ≤ s0_1 then (some (bt s0_0 s0_1, s0_0, s0_1)) else (none)) else (some (0, s0_0, s0_1))) = some (r1, r2, r3) := h
  clear h
  by_cases c2 : s0_1 < (s0_0.size : Int)
  · rw [if_pos c2] at H
    have c2b0 : decide (s0_1 < (s0_0.size : Int)) = true := decide_eq_true c2
    clear c2
    by_cases c3 : 0 ≤ s0_1
    · rw [if_pos c3] at H
      have c3b0 : decide (0 ≤ s0_1) = true := decide_eq_true c3
      clear c3
      simp only [Option.some.injEq, Prod.mk.injEq] at H
      obtain ⟨rfl, rfl, rfl⟩ := H
      obtain ⟨HGz5, hgz5⟩ := HI0.out
      have hcz5_0 := cellS120_0 HGz5
      have hcz5_1 := cellS120_1 HGz5
      have hfz5_0 := blk_frozen HGz5 0
      have hfz5_1 := blk_frozen HGz5 1
      clear HGz5 hgz5
      have p4 : 0 ≤ (s0_1 : Int) := of_decide_eq_true (by first | (with_reducible assumption) | assumption)
      have q4 : s0_1 < (s0_0.size : Int) := of_decide_eq_true (by first | (with_reducible assumption) | assumption)
      have hx4 := bt_at s0_0 s0_1
      replace p4 := eq_true p4
      replace q4 := eq_true q4
      go_enter Tryz.func116, Tryz.ntmps116
      go_wp2
      repeat (go_quiet (fail); try go_wp2)
      go_ret
      exact ⟨by first | rfl | (simp [errW_none, errW_some] <;> rfl) | (simp [*, errW_none, errW_some] <;> rfl), by repeat (first | (with_reducible first | exact HI0.out | apply IsS120.alloc | apply IsS120.drewN | apply IsS120.drew | apply IsS120.set_0 | apply IsS120.set_1) | exact HI0.out), by repeat (first | (with_reducible first | exact HB.out | apply below_alloc | apply pw_below_drewN | apply below_drew1 | refine below_set ?_ (IsS120.ge HI0.out)) | exact HB.out), by repeat (first | (with_reducible first | exact HK.out | apply KeepBut.set_ | apply keep_drewN | apply keep_drew | apply keep_alloc) | exact HK.out)⟩
    · rw [if_neg c3] at H
      exact absurd H (by simp)
  · rw [if_neg c2] at H
    have c2b0 : decide (s0_1 < (s0_0.size : Int)) = false := decide_eq_false c2
    clear c2
    simp only [Option.some.injEq, Prod.mk.injEq] at H
    obtain ⟨rfl, rfl, rfl⟩ := H
    obtain ⟨HGz6, hgz6⟩ := HI0.out
    have hcz6_0 := cellS120_0 HGz6
    have hcz6_1 := cellS120_1 HGz6
    have hfz6_0 := blk_frozen HGz6 0
    have hfz6_1 := blk_frozen HGz6 1
    clear HGz6 hgz6
    go_enter Tryz.func116, Tryz.ntmps116
    go_wp2
    repeat (go_quiet (fail); try go_wp2)
    go_ret
    exact ⟨by first | rfl | (simp [errW_none, errW_some] <;> rfl) | (simp [*, errW_none, errW_some] <;> rfl), by repeat (first | (with_reducible first | exact HI0.out | apply IsS120.alloc | apply IsS120.drewN | apply IsS120.drew | apply IsS120.set_0 | apply IsS120.set_1) | exact HI0.out), by repeat (first | (with_reducible first | exact HB.out | apply below_alloc | apply pw_below_drewN | apply below_drew1 | refine below_set ?_ (IsS120.ge HI0.out)) | exact HB.out), by repeat (first | (with_reducible first | exact HK.out | apply KeepBut.set_ | apply keep_drewN | apply keep_drew | apply keep_alloc) | exact HK.out)⟩

end Go.Proofs.YtdolnkknlflmeaaGreatDoor.L
