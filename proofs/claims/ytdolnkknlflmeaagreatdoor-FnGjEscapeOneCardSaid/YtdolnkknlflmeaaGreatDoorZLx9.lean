/-
  Part of the proof (Lx9).
-/
import Derived.Test.YtdolnkknlflmeaaGreatDoorZLx0
import Derived.Test.YtdolnkknlflmeaaGreatDoorZLx7
import Derived.Test.YtdolnkknlflmeaaGreatDoorZLx8
-- printed by a program for this claim
namespace Go.Proofs.YtdolnkknlflmeaaGreatDoor.L
open Go.RowKit Go.Proofs.YtdolnkknlflmeaaGreatDoorW.PrintWords Go.Proofs.YtdolnkknlflmeaaGreatDoorW.PrintLast Go.Proofs.YtdolnkknlflmeaaGreatDoorW.PrintMore
attribute [local go_sem] max2_int min2_int max_two min_two max_three min_three max_four min_four   -- for this text's walks alone
set_option linter.unusedVariables false
set_option linter.unusedSimpArgs false

/-! ### spec_reader_number: function 120 -/
mutual
def spec_reader_number.j0 : Nat → Bool → ByteArray → Int → Option (Bool × ByteArray × Int)
  | 0, _, _, _ => none
  | k + 1, x12, x1000, x1001 => if x12 = true then (some (false, x1000, x1001)) else ((spec_reader_take.f x1000 x1001 46).bind fun bt258 => (if bt258.1 = true then ((spec_reader_digits.f k bt258.2.1 bt258.2.2).bind fun bt261 => (spec_reader_number.j1 k (!bt261.1) bt261.2.1 bt261.2.2)) else (spec_reader_number.j1 k false bt258.2.1 bt258.2.2)))
def spec_reader_number.j1 : Nat → Bool → ByteArray → Int → Option (Bool × ByteArray × Int)
  | 0, _, _, _ => none
  | k + 1, x19, x1000, x1001 => if x19 = true then (some (false, x1000, x1001)) else ((spec_reader_take.f x1000 x1001 101).bind fun bt264 => (if bt264.1 = true then (spec_reader_number.j2 k true bt264.2.1 bt264.2.2) else ((spec_reader_take.f bt264.2.1 bt264.2.2 69).bind fun bt267 => (spec_reader_number.j2 k bt267.1 bt267.2.1 bt267.2.2))))
def spec_reader_number.j2 : Nat → Bool → ByteArray → Int → Option (Bool × ByteArray × Int)
  | 0, _, _, _ => none
  | k + 1, x25, x1000, x1001 => if x25 = true then ((spec_reader_take.f x1000 x1001 43).bind fun bt270 => (if bt270.1 = true then ((spec_reader_digits.f k bt270.2.1 bt270.2.2).bind fun bt273 => (some (bt273.1, bt273.2.1, bt273.2.2))) else ((spec_reader_take.f bt270.2.1 bt270.2.2 45).bind fun bt276 => ((spec_reader_digits.f k bt276.2.1 bt276.2.2).bind fun bt279 => (some (bt279.1, bt279.2.1, bt279.2.2)))))) else (some (true, x1000, x1001))
end
def spec_reader_number.f (k : Nat) (s0_0 : ByteArray) (s0_1 : Int) : Option (Bool × ByteArray × Int) := (spec_reader_take.f s0_0 s0_1 45).bind fun bt249 => ((spec_reader_take.f bt249.2.1 bt249.2.2 48).bind fun bt252 => (if bt252.1 = true then (spec_reader_number.j0 k false bt252.2.1 bt252.2.2) else ((spec_reader_digits.f k bt252.2.1 bt252.2.2).bind fun bt255 => (spec_reader_number.j0 k (!bt255.1) bt255.2.1 bt255.2.2))))
set_option maxHeartbeats 8000000 in
set_option maxRecDepth 100000 in
theorem spec_reader_number.calls (k : Nat) (g : Nat) (s0_0 : ByteArray) (s0_1 : Int) (r1 : Bool) (r2 : ByteArray) (r3 : Int) (w0 w : World) (hI : IsS120 w0 w g s0_0 s0_1) (hB : Below w0.heap.size w0 w) (h : spec_reader_number.f k s0_0 s0_1 = some (r1, r2, r3)) :
    Calls Tryz.prog 120 #[.pointer (some ⟨g, 0, none⟩)] w fun e w' => e = .returned (.bool r1) ∧ IsS120 w0 w' g r2 r3 ∧ Below w0.heap.size w0 w' ∧ KeepBut w w' g none := by
  have HI0 := Aside0.mk hI
  have HK := Aside0.mk (KeepBut.refl w g none)
  have HL := Aside0.mk hB.size
  clear hI
  have HW0 := Aside0.mk hB.size
  have HB := Aside0.mk hB
  clear hB
  have H : ((spec_reader_take.f s0_0 s0_1 45).bind fun bt249 => ((spec_reader_take.f bt249.2.1 bt249.2.2 48).bind fun bt252 => (if bt252.1 = true then (spec_reader_number.j0 k false bt252.2.1 bt252.2.2) else ((spec_reader_digits.f k bt252.2.1 bt252.2.2).bind fun bt255 => (spec_reader_number.j0 k (!bt255.1) bt255.2.1 bt255.2.2))))) = some (r1, r2, r3) := h
  clear h
  replace H := Option.bind_eq_some_iff.mp H
  obtain ⟨⟨t249, t250, t251⟩, A20, H⟩ := H
  replace H : ((spec_reader_take.f t250 t251 48).bind fun bt252 => (if bt252.1 = true then (spec_reader_number.j0 k false bt252.2.1 bt252.2.2) else ((spec_reader_digits.f k bt252.2.1 bt252.2.2).bind fun bt255 => (spec_reader_number.j0 k (!bt255.1) bt255.2.1 bt255.2.2)))) = some (r1, r2, r3) := H
  have A2 := Aside0.mk A20
  clear A20
  have HC3 := Aside0.mk H
  clear H
  go_enter Tryz.func120, Tryz.ntmps120
  go_upto_region 2 with (first | ((with_reducible refine gate_callee (f := 155) rfl ?_); refine goesL_ (some 4) rfl rfl Tryz.func155 (by kernel_rfl) rfl #[.pointer (some ⟨g, 0, none⟩), .int .u8 45] rfl (by (try simp only [List.map_toArray, List.map_cons, List.map_nil]); first | done | rfl | (simp only [List.length_drop, List.length_take]; rfl)) ?_; (with_reducible refine (spec_reader_take.calls g s0_0 s0_1 45 t249 t250 t251 w0 _ ?side1 ?side2 A2.out).mono ?_); (case side1 => repeat (first | (with_reducible first | exact HI0.out | apply IsS120.alloc | apply IsS120.drewN | apply IsS120.drew | apply IsS120.set_0 | apply IsS120.set_1) | exact HI0.out)); (case side2 => repeat (first | (with_reducible first | exact HB.out | apply below_alloc | apply pw_below_drewN | apply below_drew1 | refine below_set ?_ (IsS120.ge HI0.out)) | exact HB.out)); rintro e w4 ⟨rfl, hi, hb, hk⟩; refine ⟨_, rfl, ?_⟩; have n0_ := Aside0.mk (KeepBut.trans (by repeat (first | (with_reducible first | exact HK.out | apply KeepBut.set_ | apply keep_drewN | apply keep_drew | apply keep_alloc) | exact HK.out)) hk (.inl rfl)); have n1_ := Aside0.mk (hb); have n2_ := Aside0.mk (hi); clear HK; clear HB; clear HI0; have HK := n0_; have HB := n1_; have HI0 := n2_; clear n0_ n1_ n2_; (try clear hb); (try clear hb2); (try clear hk); (try clear hi)))
  (try simp only [Act.put, List.setIfInBounds_toArray, List.set_cons_zero, List.set_cons_succ])
  go_cut [12] (fun v12 wc => ∃ (kq : Nat) (x12_2 : Bool) (x1000_2 : ByteArray) (x1001_2 : Int), v12 = .bool x12_2 ∧ Aside0 (spec_reader_number.j0 kq x12_2 x1000_2 x1001_2 = some (r1, r2, r3)) ∧ Aside0 (kq ≤ k) ∧ Aside0 (IsS120 w0 wc g x1000_2 x1001_2) ∧ Aside0 (KeepBut w wc g none) ∧ Aside0 (Below w0.heap.size w0 wc))
  case first =>
    have H := HC3.out
    clear HC3
    replace H := Option.bind_eq_some_iff.mp H
    obtain ⟨⟨t252, t253, t254⟩, A50, H⟩ := H
    replace H : (if t252 = true then (spec_reader_number.j0 k false t253 t254) else ((spec_reader_digits.f k t253 t254).bind fun bt255 => (spec_reader_number.j0 k (!bt255.1) bt255.2.1 bt255.2.2))) = some (r1, r2, r3) := H
    have A5 := Aside0.mk A50
    clear A50
    by_cases c6 : t252 = true
    · subst c6
      have H1 : (spec_reader_number.j0 k false t253 t254) = some (r1, r2, r3) := by rw [if_pos rfl] at H; exact H
      clear H
      have H := H1
      clear H1
      have H' := Aside0.mk H
      clear H
      go_wp2_with (first | ((with_reducible refine gate_callee (f := 155) rfl ?_); refine goesL_ (some 6) rfl rfl Tryz.func155 (by kernel_rfl) rfl #[.pointer (some ⟨g, 0, none⟩), .int .u8 48] rfl (by (try simp only [List.map_toArray, List.map_cons, List.map_nil]); first | done | rfl | (simp only [List.length_drop, List.length_take]; rfl)) ?_; (with_reducible refine (spec_reader_take.calls g t250 t251 48 true t253 t254 w0 _ ?side1 ?side2 A5.out).mono ?_); (case side1 => repeat (first | (with_reducible first | exact HI0.out | apply IsS120.alloc | apply IsS120.drewN | apply IsS120.drew | apply IsS120.set_0 | apply IsS120.set_1) | exact HI0.out)); (case side2 => repeat (first | (with_reducible first | exact HB.out | apply below_alloc | apply pw_below_drewN | apply below_drew1 | refine below_set ?_ (IsS120.ge HI0.out)) | exact HB.out)); rintro e w7 ⟨rfl, hi, hb, hk⟩; refine ⟨_, rfl, ?_⟩; have n0_ := Aside0.mk (KeepBut.trans (by repeat (first | (with_reducible first | exact HK.out | apply KeepBut.set_ | apply keep_drewN | apply keep_drew | apply keep_alloc) | exact HK.out)) hk (.inl rfl)); have n1_ := Aside0.mk (hb); have n2_ := Aside0.mk (hi); clear HK; clear HB; clear HI0; have HK := n0_; have HB := n1_; have HI0 := n2_; clear n0_ n1_ n2_; (try clear hb); (try clear hb2); (try clear hk); (try clear hi)))
      go_meet
      case rel => exact ⟨_, (false), (t253), (t254), (by first | rfl | (simp; done) | (simp [*]; done)), H', ⟨by first | omega | exact Nat.le_refl _⟩, ⟨by repeat (first | (with_reducible first | exact HI0.out | apply IsS120.alloc | apply IsS120.drewN | apply IsS120.drew | apply IsS120.set_0 | apply IsS120.set_1) | exact HI0.out)⟩, ⟨by repeat (first | (with_reducible first | exact HK.out | apply KeepBut.set_ | apply keep_drewN | apply keep_drew | apply keep_alloc) | exact HK.out)⟩, ⟨by repeat (first | (with_reducible first | exact HB.out | apply below_alloc | apply pw_below_drewN | apply below_drew1 | refine below_set ?_ (IsS120.ge HI0.out)) | exact HB.out)⟩⟩
    · replace c6 := Bool.eq_false_iff.mpr c6
      subst c6
      have H1 : ((spec_reader_digits.f k t253 t254).bind fun bt255 => (spec_reader_number.j0 k (!bt255.1) bt255.2.1 bt255.2.2)) = some (r1, r2, r3) := by rw [if_neg (show ¬ (false = true) by decide)] at H; exact H
      clear H
      have H := H1
      clear H1
      replace H := Option.bind_eq_some_iff.mp H
      obtain ⟨⟨t255, t256, t257⟩, A80, H⟩ := H
      replace H : (spec_reader_number.j0 k (!t255) t256 t257) = some (r1, r2, r3) := H
      have A8 := Aside0.mk A80
      clear A80
      have H' := Aside0.mk H
      clear H
      go_wp2_with (first | ((with_reducible refine gate_callee (f := 155) rfl ?_); refine goesL_ (some 6) rfl rfl Tryz.func155 (by kernel_rfl) rfl #[.pointer (some ⟨g, 0, none⟩), .int .u8 48] rfl (by (try simp only [List.map_toArray, List.map_cons, List.map_nil]); first | done | rfl | (simp only [List.length_drop, List.length_take]; rfl)) ?_; (with_reducible refine (spec_reader_take.calls g t250 t251 48 false t253 t254 w0 _ ?side1 ?side2 A5.out).mono ?_); (case side1 => repeat (first | (with_reducible first | exact HI0.out | apply IsS120.alloc | apply IsS120.drewN | apply IsS120.drew | apply IsS120.set_0 | apply IsS120.set_1) | exact HI0.out)); (case side2 => repeat (first | (with_reducible first | exact HB.out | apply below_alloc | apply pw_below_drewN | apply below_drew1 | refine below_set ?_ (IsS120.ge HI0.out)) | exact HB.out)); rintro e w9 ⟨rfl, hi, hb, hk⟩; refine ⟨_, rfl, ?_⟩; have n0_ := Aside0.mk (KeepBut.trans (by repeat (first | (with_reducible first | exact HK.out | apply KeepBut.set_ | apply keep_drewN | apply keep_drew | apply keep_alloc) | exact HK.out)) hk (.inl rfl)); have n1_ := Aside0.mk (hb); have n2_ := Aside0.mk (hi); clear HK; clear HB; clear HI0; have HK := n0_; have HB := n1_; have HI0 := n2_; clear n0_ n1_ n2_; (try clear hb); (try clear hb2); (try clear hk); (try clear hi)) | (go_at_call 157; (with_reducible refine (spec_reader_digits.calls k g t253 t254 t255 t256 t257 w0 _ ?side1 ?side2 A8.out).mono ?_); (case side1 => repeat (first | (with_reducible first | exact HI0.out | apply IsS120.alloc | apply IsS120.drewN | apply IsS120.drew | apply IsS120.set_0 | apply IsS120.set_1) | exact HI0.out)); (case side2 => repeat (first | (with_reducible first | exact HB.out | apply below_alloc | apply pw_below_drewN | apply below_drew1 | refine below_set ?_ (IsS120.ge HI0.out)) | exact HB.out)); rintro e w10 ⟨rfl, hi, hb, hk⟩; have n0_ := Aside0.mk (KeepBut.trans (by repeat (first | (with_reducible first | exact HK.out | apply KeepBut.set_ | apply keep_drewN | apply keep_drew | apply keep_alloc) | exact HK.out)) hk (.inl rfl)); have n1_ := Aside0.mk (hb); have n2_ := Aside0.mk (hi); clear HK; clear HB; clear HI0; have HK := n0_; have HB := n1_; have HI0 := n2_; clear n0_ n1_ n2_; (try clear hb); (try clear hb2); (try clear hk); (try clear hi)))
      go_meet
      case rel => exact ⟨_, (!t255), (t256), (t257), (by first | rfl | (simp; done) | (simp [*]; done)), H', ⟨by first | omega | exact Nat.le_refl _⟩, ⟨by repeat (first | (with_reducible first | exact HI0.out | apply IsS120.alloc | apply IsS120.drewN | apply IsS120.drew | apply IsS120.set_0 | apply IsS120.set_1) | exact HI0.out)⟩, ⟨by repeat (first | (with_reducible first | exact HK.out | apply KeepBut.set_ | apply keep_drewN | apply keep_drew | apply keep_alloc) | exact HK.out)⟩, ⟨by repeat (first | (with_reducible first | exact HB.out | apply below_alloc | apply pw_below_drewN | apply below_drew1 | refine below_set ?_ (IsS120.ge HI0.out)) | exact HB.out)⟩⟩
  case rest =>
    clear HC3
    try clear c1
    try clear p2
    try clear c6
    obtain ⟨kq, x12_2, x1000_2, x1001_2, rfl, HA, HJ2, HI0, HK, HB⟩ := hcut
    cases kq with
    | zero => exact absurd HA.out (by simp [spec_reader_number.j0])
    | succ kj2 =>
      have H := HA.out
      clear HA
      simp only [spec_reader_number.j0] at H
      by_cases c11 : x12_2 = true
      · subst c11
        have H1 : (some (false, x1000_2, x1001_2)) = some (r1, r2, r3) := by rw [if_pos rfl] at H; exact H
        clear H
        have H := H1
        clear H1
        simp only [Option.some.injEq, Prod.mk.injEq] at H
        obtain ⟨rfl, rfl, rfl⟩ := H
        go_wp2
        go_ret
        exact ⟨by first | rfl | (simp [errW_none, errW_some] <;> rfl) | (simp [*, errW_none, errW_some] <;> rfl), by repeat (first | (with_reducible first | exact HI0.out | apply IsS120.alloc | apply IsS120.drewN | apply IsS120.drew | apply IsS120.set_0 | apply IsS120.set_1) | exact HI0.out), by repeat (first | (with_reducible first | exact HB.out | apply below_alloc | apply pw_below_drewN | apply below_drew1 | refine below_set ?_ (IsS120.ge HI0.out)) | exact HB.out), by repeat (first | (with_reducible first | exact HK.out | apply KeepBut.set_ | apply keep_drewN | apply keep_drew | apply keep_alloc) | exact HK.out)⟩
      · replace c11 := Bool.eq_false_iff.mpr c11
        subst c11
        have H1 : ((spec_reader_take.f x1000_2 x1001_2 46).bind fun bt258 => (if bt258.1 = true then ((spec_reader_digits.f kj2 bt258.2.1 bt258.2.2).bind fun bt261 => (spec_reader_number.j1 kj2 (!bt261.1) bt261.2.1 bt261.2.2)) else (spec_reader_number.j1 kj2 false bt258.2.1 bt258.2.2))) = some (r1, r2, r3) := by rw [if_neg (show ¬ (false = true) by decide)] at H; exact H
        clear H
        have H := H1
        clear H1
        have HC12 := Aside0.mk H
        clear H
        go_upto_region 4 with (fail)
        go_cut [19] (fun v19 wc => ∃ (kq : Nat) (x19_11 : Bool) (x1000_11 : ByteArray) (x1001_11 : Int), v19 = .bool x19_11 ∧ Aside0 (spec_reader_number.j1 kq x19_11 x1000_11 x1001_11 = some (r1, r2, r3)) ∧ Aside0 (kq ≤ kj2) ∧ Aside0 (IsS120 w0 wc g x1000_11 x1001_11) ∧ Aside0 (KeepBut w wc g none) ∧ Aside0 (Below w0.heap.size w0 wc))
        case first =>
          have H := HC12.out
          clear HC12
          replace H := Option.bind_eq_some_iff.mp H
          obtain ⟨⟨t258, t259, t260⟩, A130, H⟩ := H
          replace H : (if t258 = true then ((spec_reader_digits.f kj2 t259 t260).bind fun bt261 => (spec_reader_number.j1 kj2 (!bt261.1) bt261.2.1 bt261.2.2)) else (spec_reader_number.j1 kj2 false t259 t260)) = some (r1, r2, r3) := H
          have A13 := Aside0.mk A130
          clear A130
          by_cases c14 : t258 = true
          · subst c14
            have H1 : ((spec_reader_digits.f kj2 t259 t260).bind fun bt261 => (spec_reader_number.j1 kj2 (!bt261.1) bt261.2.1 bt261.2.2)) = some (r1, r2, r3) := by rw [if_pos rfl] at H; exact H
            clear H
            have H := H1
            clear H1
            replace H := Option.bind_eq_some_iff.mp H
            obtain ⟨⟨t261, t262, t263⟩, A150, H⟩ := H
            replace H : (spec_reader_number.j1 kj2 (!t261) t262 t263) = some (r1, r2, r3) := H
            have A15 := Aside0.mk A150
            clear A150
            have H' := Aside0.mk H
            clear H
            go_wp2_with (first | ((with_reducible refine gate_callee (f := 155) rfl ?_); refine goesL_ (some 14) rfl rfl Tryz.func155 (by kernel_rfl) rfl #[.pointer (some ⟨g, 0, none⟩), .int .u8 46] rfl (by (try simp only [List.map_toArray, List.map_cons, List.map_nil]); first | done | rfl | (simp only [List.length_drop, List.length_take]; rfl)) ?_; (with_reducible refine (spec_reader_take.calls g x1000_2 x1001_2 46 true t259 t260 w0 _ ?side1 ?side2 A13.out).mono ?_); (case side1 => repeat (first | (with_reducible first | exact HI0.out | apply IsS120.alloc | apply IsS120.drewN | apply IsS120.drew | apply IsS120.set_0 | apply IsS120.set_1) | exact HI0.out)); (case side2 => repeat (first | (with_reducible first | exact HB.out | apply below_alloc | apply pw_below_drewN | apply below_drew1 | refine below_set ?_ (IsS120.ge HI0.out)) | exact HB.out)); rintro e w16 ⟨rfl, hi, hb, hk⟩; refine ⟨_, rfl, ?_⟩; have n0_ := Aside0.mk (KeepBut.trans (by repeat (first | (with_reducible first | exact HK.out | apply KeepBut.set_ | apply keep_drewN | apply keep_drew | apply keep_alloc) | exact HK.out)) hk (.inl rfl)); have n1_ := Aside0.mk (hb); have n2_ := Aside0.mk (hi); clear HK; clear HB; clear HI0; have HK := n0_; have HB := n1_; have HI0 := n2_; clear n0_ n1_ n2_; (try clear hb); (try clear hb2); (try clear hk); (try clear hi)) | (go_at_call 157; (with_reducible refine (spec_reader_digits.calls kj2 g t259 t260 t261 t262 t263 w0 _ ?side1 ?side2 A15.out).mono ?_); (case side1 => repeat (first | (with_reducible first | exact HI0.out | apply IsS120.alloc | apply IsS120.drewN | apply IsS120.drew | apply IsS120.set_0 | apply IsS120.set_1) | exact HI0.out)); (case side2 => repeat (first | (with_reducible first | exact HB.out | apply below_alloc | apply pw_below_drewN | apply below_drew1 | refine below_set ?_ (IsS120.ge HI0.out)) | exact HB.out)); rintro e w17 ⟨rfl, hi, hb, hk⟩; have n0_ := Aside0.mk (KeepBut.trans (by repeat (first | (with_reducible first | exact HK.out | apply KeepBut.set_ | apply keep_drewN | apply keep_drew | apply keep_alloc) | exact HK.out)) hk (.inl rfl)); have n1_ := Aside0.mk (hb); have n2_ := Aside0.mk (hi); clear HK; clear HB; clear HI0; have HK := n0_; have HB := n1_; have HI0 := n2_; clear n0_ n1_ n2_; (try clear hb); (try clear hb2); (try clear hk); (try clear hi)))
            go_meet
            case rel => exact ⟨_, (!t261), (t262), (t263), (by first | rfl | (simp; done) | (simp [*]; done)), H', ⟨by have := HJ2.out; first | omega | exact Nat.le_refl _⟩, ⟨by repeat (first | (with_reducible first | exact HI0.out | apply IsS120.alloc | apply IsS120.drewN | apply IsS120.drew | apply IsS120.set_0 | apply IsS120.set_1) | exact HI0.out)⟩, ⟨by repeat (first | (with_reducible first | exact HK.out | apply KeepBut.set_ | apply keep_drewN | apply keep_drew | apply keep_alloc) | exact HK.out)⟩, ⟨by repeat (first | (with_reducible first | exact HB.out | apply below_alloc | apply pw_below_drewN | apply below_drew1 | refine below_set ?_ (IsS120.ge HI0.out)) | exact HB.out)⟩⟩
          · replace c14 := Bool.eq_false_iff.mpr c14
            subst c14
            have H1 : (spec_reader_number.j1 kj2 false t259 t260) = some (r1, r2, r3) := by rw [if_neg (show ¬ (false = true) by decide)] at H; exact H
            clear H
            have H := H1
            clear H1
            have H' := Aside0.mk H
            clear H
            go_wp2_with (first | ((with_reducible refine gate_callee (f := 155) rfl ?_); refine goesL_ (some 14) rfl rfl Tryz.func155 (by kernel_rfl) rfl #[.pointer (some ⟨g, 0, none⟩), .int .u8 46] rfl (by (try simp only [List.map_toArray, List.map_cons, List.map_nil]); first | done | rfl | (simp only [List.length_drop, List.length_take]; rfl)) ?_; (with_reducible refine (spec_reader_take.calls g x1000_2 x1001_2 46 false t259 t260 w0 _ ?side1 ?side2 A13.out).mono ?_); (case side1 => repeat (first | (with_reducible first | exact HI0.out | apply IsS120.alloc | apply IsS120.drewN | apply IsS120.drew | apply IsS120.set_0 | apply IsS120.set_1) | exact HI0.out)); (case side2 => repeat (first | (with_reducible first | exact HB.out | apply below_alloc | apply pw_below_drewN | apply below_drew1 | refine below_set ?_ (IsS120.ge HI0.out)) | exact HB.out)); rintro e w18 ⟨rfl, hi, hb, hk⟩; refine ⟨_, rfl, ?_⟩; have n0_ := Aside0.mk (KeepBut.trans (by repeat (first | (with_reducible first | exact HK.out | apply KeepBut.set_ | apply keep_drewN | apply keep_drew | apply keep_alloc) | exact HK.out)) hk (.inl rfl)); have n1_ := Aside0.mk (hb); have n2_ := Aside0.mk (hi); clear HK; clear HB; clear HI0; have HK := n0_; have HB := n1_; have HI0 := n2_; clear n0_ n1_ n2_; (try clear hb); (try clear hb2); (try clear hk); (try clear hi)))
            go_meet
            case rel => exact ⟨_, (false), (t259), (t260), (by first | rfl | (simp; done) | (simp [*]; done)), H', ⟨by have := HJ2.out; first | omega | exact Nat.le_refl _⟩, ⟨by repeat (first | (with_reducible first | exact HI0.out | apply IsS120.alloc | apply IsS120.drewN | apply IsS120.drew | apply IsS120.set_0 | apply IsS120.set_1) | exact HI0.out)⟩, ⟨by repeat (first | (with_reducible first | exact HK.out | apply KeepBut.set_ | apply keep_drewN | apply keep_drew | apply keep_alloc) | exact HK.out)⟩, ⟨by repeat (first | (with_reducible first | exact HB.out | apply below_alloc | apply pw_below_drewN | apply below_drew1 | refine below_set ?_ (IsS120.ge HI0.out)) | exact HB.out)⟩⟩
        case rest =>
          clear HC12
          try clear c1
          try clear p2
          try clear c6
          try clear c11
          try clear c12
          try clear c14
          try clear c15
          try clear p2
          obtain ⟨kq, x19_11, x1000_11, x1001_11, rfl, HA, HJ11, HI0, HK, HB⟩ := hcut
          cases kq with
          | zero => exact absurd HA.out (by simp [spec_reader_number.j1])
          | succ kj11 =>
            have H := HA.out
            clear HA
            simp only [spec_reader_number.j1] at H
            by_cases c19 : x19_11 = true
            · subst c19
              have H1 : (some (false, x1000_11, x1001_11)) = some (r1, r2, r3) := by rw [if_pos rfl] at H; exact H
              clear H
              have H := H1
              clear H1
              simp only [Option.some.injEq, Prod.mk.injEq] at H
              obtain ⟨rfl, rfl, rfl⟩ := H
              go_wp2
              go_ret
              exact ⟨by first | rfl | (simp [errW_none, errW_some] <;> rfl) | (simp [*, errW_none, errW_some] <;> rfl), by repeat (first | (with_reducible first | exact HI0.out | apply IsS120.alloc | apply IsS120.drewN | apply IsS120.drew | apply IsS120.set_0 | apply IsS120.set_1) | exact HI0.out), by repeat (first | (with_reducible first | exact HB.out | apply below_alloc | apply pw_below_drewN | apply below_drew1 | refine below_set ?_ (IsS120.ge HI0.out)) | exact HB.out), by repeat (first | (with_reducible first | exact HK.out | apply KeepBut.set_ | apply keep_drewN | apply keep_drew | apply keep_alloc) | exact HK.out)⟩
            · replace c19 := Bool.eq_false_iff.mpr c19
              subst c19
              have H1 : ((spec_reader_take.f x1000_11 x1001_11 101).bind fun bt264 => (if bt264.1 = true then (spec_reader_number.j2 kj11 true bt264.2.1 bt264.2.2) else ((spec_reader_take.f bt264.2.1 bt264.2.2 69).bind fun bt267 => (spec_reader_number.j2 kj11 bt267.1 bt267.2.1 bt267.2.2)))) = some (r1, r2, r3) := by rw [if_neg (show ¬ (false = true) by decide)] at H; exact H
              clear H
              have H := H1
              clear H1
              have HC20 := Aside0.mk H
              clear H
              go_upto_region 6 with (fail)
              go_cut [25] (fun v25 wc => ∃ (kq : Nat) (x25_19 : Bool) (x1000_19 : ByteArray) (x1001_19 : Int), v25 = .bool x25_19 ∧ Aside0 (spec_reader_number.j2 kq x25_19 x1000_19 x1001_19 = some (r1, r2, r3)) ∧ Aside0 (kq ≤ kj11) ∧ Aside0 (IsS120 w0 wc g x1000_19 x1001_19) ∧ Aside0 (KeepBut w wc g none) ∧ Aside0 (Below w0.heap.size w0 wc))
              case first =>
                have H := HC20.out
                clear HC20
                replace H := Option.bind_eq_some_iff.mp H
                obtain ⟨⟨t264, t265, t266⟩, A210, H⟩ := H
                replace H : (if t264 = true then (spec_reader_number.j2 kj11 true t265 t266) else ((spec_reader_take.f t265 t266 69).bind fun bt267 => (spec_reader_number.j2 kj11 bt267.1 bt267.2.1 bt267.2.2))) = some (r1, r2, r3) := H
                have A21 := Aside0.mk A210
                clear A210
                by_cases c22 : t264 = true
                · subst c22
                  have H1 : (spec_reader_number.j2 kj11 true t265 t266) = some (r1, r2, r3) := by rw [if_pos rfl] at H; exact H
                  clear H
                  have H := H1
                  clear H1
                  have H' := Aside0.mk H
                  clear H
                  go_wp2_with (first | ((with_reducible refine gate_callee (f := 155) rfl ?_); refine goesL_ (some 21) rfl rfl Tryz.func155 (by kernel_rfl) rfl #[.pointer (some ⟨g, 0, none⟩), .int .u8 101] rfl (by (try simp only [List.map_toArray, List.map_cons, List.map_nil]); first | done | rfl | (simp only [List.length_drop, List.length_take]; rfl)) ?_; (with_reducible refine (spec_reader_take.calls g x1000_11 x1001_11 101 true t265 t266 w0 _ ?side1 ?side2 A21.out).mono ?_); (case side1 => repeat (first | (with_reducible first | exact HI0.out | apply IsS120.alloc | apply IsS120.drewN | apply IsS120.drew | apply IsS120.set_0 | apply IsS120.set_1) | exact HI0.out)); (case side2 => repeat (first | (with_reducible first | exact HB.out | apply below_alloc | apply pw_below_drewN | apply below_drew1 | refine below_set ?_ (IsS120.ge HI0.out)) | exact HB.out)); rintro e w23 ⟨rfl, hi, hb, hk⟩; refine ⟨_, rfl, ?_⟩; have n0_ := Aside0.mk (KeepBut.trans (by repeat (first | (with_reducible first | exact HK.out | apply KeepBut.set_ | apply keep_drewN | apply keep_drew | apply keep_alloc) | exact HK.out)) hk (.inl rfl)); have n1_ := Aside0.mk (hb); have n2_ := Aside0.mk (hi); clear HK; clear HB; clear HI0; have HK := n0_; have HB := n1_; have HI0 := n2_; clear n0_ n1_ n2_; (try clear hb); (try clear hb2); (try clear hk); (try clear hi)))
                  go_meet
                  case rel => exact ⟨_, (true), (t265), (t266), (by first | rfl | (simp; done) | (simp [*]; done)), H', ⟨by have := HJ2.out; have := HJ11.out; first | omega | exact Nat.le_refl _⟩, ⟨by repeat (first | (with_reducible first | exact HI0.out | apply IsS120.alloc | apply IsS120.drewN | apply IsS120.drew | apply IsS120.set_0 | apply IsS120.set_1) | exact HI0.out)⟩, ⟨by repeat (first | (with_reducible first | exact HK.out | apply KeepBut.set_ | apply keep_drewN | apply keep_drew | apply keep_alloc) | exact HK.out)⟩, ⟨by repeat (first | (with_reducible first | exact HB.out | apply below_alloc | apply pw_below_drewN | apply below_drew1 | refine below_set ?_ (IsS120.ge HI0.out)) | exact HB.out)⟩⟩
                · replace c22 := Bool.eq_false_iff.mpr c22
                  subst c22
                  have H1 : ((spec_reader_take.f t265 t266 69).bind fun bt267 => (spec_reader_number.j2 kj11 bt267.1 bt267.2.1 bt267.2.2)) = some (r1, r2, r3) := by rw [if_neg (show ¬ (false = true) by decide)] at H; exact H
                  clear H
                  have H := H1
                  clear H1
                  replace H := Option.bind_eq_some_iff.mp H
                  obtain ⟨⟨t267, t268, t269⟩, A240, H⟩ := H
                  replace H : (spec_reader_number.j2 kj11 t267 t268 t269) = some (r1, r2, r3) := H
                  have A24 := Aside0.mk A240
                  clear A240
                  have H' := Aside0.mk H
                  clear H
                  go_wp2_with (first | ((with_reducible refine gate_callee (f := 155) rfl ?_); refine goesL_ (some 21) rfl rfl Tryz.func155 (by kernel_rfl) rfl #[.pointer (some ⟨g, 0, none⟩), .int .u8 101] rfl (by (try simp only [List.map_toArray, List.map_cons, List.map_nil]); first | done | rfl | (simp only [List.length_drop, List.length_take]; rfl)) ?_; (with_reducible refine (spec_reader_take.calls g x1000_11 x1001_11 101 false t265 t266 w0 _ ?side1 ?side2 A21.out).mono ?_); (case side1 => repeat (first | (with_reducible first | exact HI0.out | apply IsS120.alloc | apply IsS120.drewN | apply IsS120.drew | apply IsS120.set_0 | apply IsS120.set_1) | exact HI0.out)); (case side2 => repeat (first | (with_reducible first | exact HB.out | apply below_alloc | apply pw_below_drewN | apply below_drew1 | refine below_set ?_ (IsS120.ge HI0.out)) | exact HB.out)); rintro e w25 ⟨rfl, hi, hb, hk⟩; refine ⟨_, rfl, ?_⟩; have n0_ := Aside0.mk (KeepBut.trans (by repeat (first | (with_reducible first | exact HK.out | apply KeepBut.set_ | apply keep_drewN | apply keep_drew | apply keep_alloc) | exact HK.out)) hk (.inl rfl)); have n1_ := Aside0.mk (hb); have n2_ := Aside0.mk (hi); clear HK; clear HB; clear HI0; have HK := n0_; have HB := n1_; have HI0 := n2_; clear n0_ n1_ n2_; (try clear hb); (try clear hb2); (try clear hk); (try clear hi)) | (go_at_call 155; (with_reducible refine (spec_reader_take.calls g t265 t266 69 t267 t268 t269 w0 _ ?side1 ?side2 A24.out).mono ?_); (case side1 => repeat (first | (with_reducible first | exact HI0.out | apply IsS120.alloc | apply IsS120.drewN | apply IsS120.drew | apply IsS120.set_0 | apply IsS120.set_1) | exact HI0.out)); (case side2 => repeat (first | (with_reducible first | exact HB.out | apply below_alloc | apply pw_below_drewN | apply below_drew1 | refine below_set ?_ (IsS120.ge HI0.out)) | exact HB.out)); rintro e w26 ⟨rfl, hi, hb, hk⟩; have n0_ := Aside0.mk (KeepBut.trans (by repeat (first | (with_reducible first | exact HK.out | apply KeepBut.set_ | apply keep_drewN | apply keep_drew | apply keep_alloc) | exact HK.out)) hk (.inl rfl)); have n1_ := Aside0.mk (hb); have n2_ := Aside0.mk (hi); clear HK; clear HB; clear HI0; have HK := n0_; have HB := n1_; have HI0 := n2_; clear n0_ n1_ n2_; (try clear hb); (try clear hb2); (try clear hk); (try clear hi)))
                  go_meet
                  case rel => exact ⟨_, (t267), (t268), (t269), (by first | rfl | (simp; done) | (simp [*]; done)), H', ⟨by have := HJ2.out; have := HJ11.out; first | omega | exact Nat.le_refl _⟩, ⟨by repeat (first | (with_reducible first | exact HI0.out | apply IsS120.alloc | apply IsS120.drewN | apply IsS120.drew | apply IsS120.set_0 | apply IsS120.set_1) | exact HI0.out)⟩, ⟨by repeat (first | (with_reducible first | exact HK.out | apply KeepBut.set_ | apply keep_drewN | apply keep_drew | apply keep_alloc) | exact HK.out)⟩, ⟨by repeat (first | (with_reducible first | exact HB.out | apply below_alloc | apply pw_below_drewN | apply below_drew1 | refine below_set ?_ (IsS120.ge HI0.out)) | exact HB.out)⟩⟩
              case rest =>
                clear HC20
                try clear c1
                try clear c2
                try clear p2
                try clear c6
                try clear c11
                try clear c12
                try clear c14
                try clear c15
                try clear c19
                try clear c22
                try clear p2
                obtain ⟨kq, x25_19, x1000_19, x1001_19, rfl, HA, HJ19, HI0, HK, HB⟩ := hcut
                cases kq with
                | zero => exact absurd HA.out (by simp [spec_reader_number.j2])
                | succ kj19 =>
                  have H := HA.out
                  clear HA
                  simp only [spec_reader_number.j2] at H
                  by_cases c27 : x25_19 = true
                  · subst c27
                    have H1 : ((spec_reader_take.f x1000_19 x1001_19 43).bind fun bt270 => (if bt270.1 = true then ((spec_reader_digits.f kj19 bt270.2.1 bt270.2.2).bind fun bt273 => (some (bt273.1, bt273.2.1, bt273.2.2))) else ((spec_reader_take.f bt270.2.1 bt270.2.2 45).bind fun bt276 => ((spec_reader_digits.f kj19 bt276.2.1 bt276.2.2).bind fun bt279 => (some (bt279.1, bt279.2.1, bt279.2.2)))))) = some (r1, r2, r3) := by rw [if_pos rfl] at H; exact H
                    clear H
                    have H := H1
                    clear H1
                    replace H := Option.bind_eq_some_iff.mp H
                    obtain ⟨⟨t270, t271, t272⟩, A280, H⟩ := H
                    replace H : (if t270 = true then ((spec_reader_digits.f kj19 t271 t272).bind fun bt273 => (some (bt273.1, bt273.2.1, bt273.2.2))) else ((spec_reader_take.f t271 t272 45).bind fun bt276 => ((spec_reader_digits.f kj19 bt276.2.1 bt276.2.2).bind fun bt279 => (some (bt279.1, bt279.2.1, bt279.2.2))))) = some (r1, r2, r3) := H
                    have A28 := Aside0.mk A280
                    clear A280
                    by_cases c29 : t270 = true
                    · subst c29
                      have H1 : ((spec_reader_digits.f kj19 t271 t272).bind fun bt273 => (some (bt273.1, bt273.2.1, bt273.2.2))) = some (r1, r2, r3) := by rw [if_pos rfl] at H; exact H
                      clear H
                      have H := H1
                      clear H1
                      replace H := Option.bind_eq_some_iff.mp H
                      obtain ⟨⟨t273, t274, t275⟩, A300, H⟩ := H
                      replace H : (some (t273, t274, t275)) = some (r1, r2, r3) := H
                      have A30 := Aside0.mk A300
                      clear A300
                      simp only [Option.some.injEq, Prod.mk.injEq] at H
                      obtain ⟨rfl, rfl, rfl⟩ := H
                      go_wp2_with (first | ((with_reducible refine gate_callee (f := 155) rfl ?_); refine goesL_ (some 27) rfl rfl Tryz.func155 (by kernel_rfl) rfl #[.pointer (some ⟨g, 0, none⟩), .int .u8 43] rfl (by (try simp only [List.map_toArray, List.map_cons, List.map_nil]); first | done | rfl | (simp only [List.length_drop, List.length_take]; rfl)) ?_; (with_reducible refine (spec_reader_take.calls g x1000_19 x1001_19 43 true t271 t272 w0 _ ?side1 ?side2 A28.out).mono ?_); (case side1 => repeat (first | (with_reducible first | exact HI0.out | apply IsS120.alloc | apply IsS120.drewN | apply IsS120.drew | apply IsS120.set_0 | apply IsS120.set_1) | exact HI0.out)); (case side2 => repeat (first | (with_reducible first | exact HB.out | apply below_alloc | apply pw_below_drewN | apply below_drew1 | refine below_set ?_ (IsS120.ge HI0.out)) | exact HB.out)); rintro e w31 ⟨rfl, hi, hb, hk⟩; refine ⟨_, rfl, ?_⟩; have n0_ := Aside0.mk (KeepBut.trans (by repeat (first | (with_reducible first | exact HK.out | apply KeepBut.set_ | apply keep_drewN | apply keep_drew | apply keep_alloc) | exact HK.out)) hk (.inl rfl)); have n1_ := Aside0.mk (hb); have n2_ := Aside0.mk (hi); clear HK; clear HB; clear HI0; have HK := n0_; have HB := n1_; have HI0 := n2_; clear n0_ n1_ n2_; (try clear hb); (try clear hb2); (try clear hk); (try clear hi)) | ((with_reducible refine gate_callee (f := 157) rfl ?_); refine goesL_ (some 32) rfl rfl Tryz.func157 (by kernel_rfl) rfl #[.pointer (some ⟨g, 0, none⟩)] rfl (by (try simp only [List.map_toArray, List.map_cons, List.map_nil]); first | done | rfl | (simp only [List.length_drop, List.length_take]; rfl)) ?_; (with_reducible refine (spec_reader_digits.calls kj19 g t271 t272 t273 t274 t275 w0 _ ?side1 ?side2 A30.out).mono ?_); (case side1 => repeat (first | (with_reducible first | exact HI0.out | apply IsS120.alloc | apply IsS120.drewN | apply IsS120.drew | apply IsS120.set_0 | apply IsS120.set_1) | exact HI0.out)); (case side2 => repeat (first | (with_reducible first | exact HB.out | apply below_alloc | apply pw_below_drewN | apply below_drew1 | refine below_set ?_ (IsS120.ge HI0.out)) | exact HB.out)); rintro e w32 ⟨rfl, hi, hb, hk⟩; refine ⟨_, rfl, ?_⟩; have n0_ := Aside0.mk (KeepBut.trans (by repeat (first | (with_reducible first | exact HK.out | apply KeepBut.set_ | apply keep_drewN | apply keep_drew | apply keep_alloc) | exact HK.out)) hk (.inl rfl)); have n1_ := Aside0.mk (hb); have n2_ := Aside0.mk (hi); clear HK; clear HB; clear HI0; have HK := n0_; have HB := n1_; have HI0 := n2_; clear n0_ n1_ n2_; (try clear hb); (try clear hb2); (try clear hk); (try clear hi)))
                      go_ret
                      exact ⟨by first | rfl | (simp [errW_none, errW_some] <;> rfl) | (simp [*, errW_none, errW_some] <;> rfl), by repeat (first | (with_reducible first | exact HI0.out | apply IsS120.alloc | apply IsS120.drewN | apply IsS120.drew | apply IsS120.set_0 | apply IsS120.set_1) | exact HI0.out), by repeat (first | (with_reducible first | exact HB.out | apply below_alloc | apply pw_below_drewN | apply below_drew1 | refine below_set ?_ (IsS120.ge HI0.out)) | exact HB.out), by repeat (first | (with_reducible first | exact HK.out | apply KeepBut.set_ | apply keep_drewN | apply keep_drew | apply keep_alloc) | exact HK.out)⟩
                    · replace c29 := Bool.eq_false_iff.mpr c29
                      subst c29
                      have H1 : ((spec_reader_take.f t271 t272 45).bind fun bt276 => ((spec_reader_digits.f kj19 bt276.2.1 bt276.2.2).bind fun bt279 => (some (bt279.1, bt279.2.1, bt279.2.2)))) = some (r1, r2, r3) := by rw [if_neg (show ¬ (false = true) by decide)] at H; exact H
                      clear H
                      have H := H1
                      clear H1
                      replace H := Option.bind_eq_some_iff.mp H
                      obtain ⟨⟨t276, t277, t278⟩, A330, H⟩ := H
                      replace H : ((spec_reader_digits.f kj19 t277 t278).bind fun bt279 => (some (bt279.1, bt279.2.1, bt279.2.2))) = some (r1, r2, r3) := H
                      have A33 := Aside0.mk A330
                      clear A330
                      replace H := Option.bind_eq_some_iff.mp H
                      obtain ⟨⟨t279, t280, t281⟩, A340, H⟩ := H
                      replace H : (some (t279, t280, t281)) = some (r1, r2, r3) := H
                      have A34 := Aside0.mk A340
                      clear A340
                      simp only [Option.some.injEq, Prod.mk.injEq] at H
                      obtain ⟨rfl, rfl, rfl⟩ := H
                      go_wp2_with (first | ((with_reducible refine gate_callee (f := 155) rfl ?_); refine goesL_ (some 27) rfl rfl Tryz.func155 (by kernel_rfl) rfl #[.pointer (some ⟨g, 0, none⟩), .int .u8 43] rfl (by (try simp only [List.map_toArray, List.map_cons, List.map_nil]); first | done | rfl | (simp only [List.length_drop, List.length_take]; rfl)) ?_; (with_reducible refine (spec_reader_take.calls g x1000_19 x1001_19 43 false t271 t272 w0 _ ?side1 ?side2 A28.out).mono ?_); (case side1 => repeat (first | (with_reducible first | exact HI0.out | apply IsS120.alloc | apply IsS120.drewN | apply IsS120.drew | apply IsS120.set_0 | apply IsS120.set_1) | exact HI0.out)); (case side2 => repeat (first | (with_reducible first | exact HB.out | apply below_alloc | apply pw_below_drewN | apply below_drew1 | refine below_set ?_ (IsS120.ge HI0.out)) | exact HB.out)); rintro e w35 ⟨rfl, hi, hb, hk⟩; refine ⟨_, rfl, ?_⟩; have n0_ := Aside0.mk (KeepBut.trans (by repeat (first | (with_reducible first | exact HK.out | apply KeepBut.set_ | apply keep_drewN | apply keep_drew | apply keep_alloc) | exact HK.out)) hk (.inl rfl)); have n1_ := Aside0.mk (hb); have n2_ := Aside0.mk (hi); clear HK; clear HB; clear HI0; have HK := n0_; have HB := n1_; have HI0 := n2_; clear n0_ n1_ n2_; (try clear hb); (try clear hb2); (try clear hk); (try clear hi)) | ((with_reducible refine gate_callee (f := 155) rfl ?_); refine goesL_ (some 30) rfl rfl Tryz.func155 (by kernel_rfl) rfl #[.pointer (some ⟨g, 0, none⟩), .int .u8 45] rfl (by (try simp only [List.map_toArray, List.map_cons, List.map_nil]); first | done | rfl | (simp only [List.length_drop, List.length_take]; rfl)) ?_; (with_reducible refine (spec_reader_take.calls g t271 t272 45 t276 t277 t278 w0 _ ?side1 ?side2 A33.out).mono ?_); (case side1 => repeat (first | (with_reducible first | exact HI0.out | apply IsS120.alloc | apply IsS120.drewN | apply IsS120.drew | apply IsS120.set_0 | apply IsS120.set_1) | exact HI0.out)); (case side2 => repeat (first | (with_reducible first | exact HB.out | apply below_alloc | apply pw_below_drewN | apply below_drew1 | refine below_set ?_ (IsS120.ge HI0.out)) | exact HB.out)); rintro e w36 ⟨rfl, hi, hb, hk⟩; refine ⟨_, rfl, ?_⟩; have n0_ := Aside0.mk (KeepBut.trans (by repeat (first | (with_reducible first | exact HK.out | apply KeepBut.set_ | apply keep_drewN | apply keep_drew | apply keep_alloc) | exact HK.out)) hk (.inl rfl)); have n1_ := Aside0.mk (hb); have n2_ := Aside0.mk (hi); clear HK; clear HB; clear HI0; have HK := n0_; have HB := n1_; have HI0 := n2_; clear n0_ n1_ n2_; (try clear hb); (try clear hb2); (try clear hk); (try clear hi)) | ((with_reducible refine gate_callee (f := 157) rfl ?_); refine goesL_ (some 32) rfl rfl Tryz.func157 (by kernel_rfl) rfl #[.pointer (some ⟨g, 0, none⟩)] rfl (by (try simp only [List.map_toArray, List.map_cons, List.map_nil]); first | done | rfl | (simp only [List.length_drop, List.length_take]; rfl)) ?_; (with_reducible refine (spec_reader_digits.calls kj19 g t277 t278 t279 t280 t281 w0 _ ?side1 ?side2 A34.out).mono ?_); (case side1 => repeat (first | (with_reducible first | exact HI0.out | apply IsS120.alloc | apply IsS120.drewN | apply IsS120.drew | apply IsS120.set_0 | apply IsS120.set_1) | exact HI0.out)); (case side2 => repeat (first | (with_reducible first | exact HB.out | apply below_alloc | apply pw_below_drewN | apply below_drew1 | refine below_set ?_ (IsS120.ge HI0.out)) | exact HB.out)); rintro e w37 ⟨rfl, hi, hb, hk⟩; refine ⟨_, rfl, ?_⟩; have n0_ := Aside0.mk (KeepBut.trans (by repeat (first | (with_reducible first | exact HK.out | apply KeepBut.set_ | apply keep_drewN | apply keep_drew | apply keep_alloc) | exact HK.out)) hk (.inl rfl)); have n1_ := Aside0.mk (hb); have n2_ := Aside0.mk (hi); clear HK; clear HB; clear HI0; have HK := n0_; have HB := n1_; have HI0 := n2_; clear n0_ n1_ n2_; (try clear hb); (try clear hb2); (try clear hk); (try clear hi)))
                      go_ret
                      exact ⟨by first | rfl | (simp [errW_none, errW_some] <;> rfl) | (simp [*, errW_none, errW_some] <;> rfl), by repeat (first | (with_reducible first | exact HI0.out | apply IsS120.alloc | apply IsS120.drewN | apply IsS120.drew | apply IsS120.set_0 | apply IsS120.set_1) | exact HI0.out), by repeat (first | (with_reducible first | exact HB.out | apply below_alloc | apply pw_below_drewN | apply below_drew1 | refine below_set ?_ (IsS120.ge HI0.out)) | exact HB.out), by repeat (first | (with_reducible first | exact HK.out | apply KeepBut.set_ | apply keep_drewN | apply keep_drew | apply keep_alloc) | exact HK.out)⟩
                  · replace c27 := Bool.eq_false_iff.mpr c27
                    subst c27
                    have H1 : (some (true, x1000_19, x1001_19)) = some (r1, r2, r3) := by rw [if_neg (show ¬ (false = true) by decide)] at H; exact H
                    clear H
                    have H := H1
                    clear H1
                    simp only [Option.some.injEq, Prod.mk.injEq] at H
                    obtain ⟨rfl, rfl, rfl⟩ := H
                    go_wp2
                    go_ret
                    exact ⟨by first | rfl | (simp [errW_none, errW_some] <;> rfl) | (simp [*, errW_none, errW_some] <;> rfl), by repeat (first | (with_reducible first | exact HI0.out | apply IsS120.alloc | apply IsS120.drewN | apply IsS120.drew | apply IsS120.set_0 | apply IsS120.set_1) | exact HI0.out), by repeat (first | (with_reducible first | exact HB.out | apply below_alloc | apply pw_below_drewN | apply below_drew1 | refine below_set ?_ (IsS120.ge HI0.out)) | exact HB.out), by repeat (first | (with_reducible first | exact HK.out | apply KeepBut.set_ | apply keep_drewN | apply keep_drew | apply keep_alloc) | exact HK.out)⟩

/-! ### spec_reader_word: function 121 -/
def spec_reader_word.f (s0_0 : ByteArray) (s0_1 : Int) (a1 : ByteArray) : Option (Bool × ByteArray × Int) := if (wrap64 ((s0_0.size : Int) - s0_1)) < (a1.size : Int) then (some (false, s0_0, s0_1)) else (if 0 ≤ s0_1 then (if s0_1 ≤ (wrap64 (s0_1 + (a1.size : Int))) then (if (wrap64 (s0_1 + (a1.size : Int))) ≤ (s0_0.size : Int) then (if (s0_0.extract (s0_1 : Int).toNat ((wrap64 (s0_1 + (a1.size : Int))) : Int).toNat).toList = a1.toList then (some (true, s0_0, wrap64 (s0_1 + (a1.size : Int)))) else (some (false, s0_0, s0_1))) else (none)) else (none)) else (none))
set_option maxHeartbeats 8000000 in
set_option maxRecDepth 100000 in
theorem spec_reader_word.calls (g : Nat) (s0_0 : ByteArray) (s0_1 : Int) (a1 : ByteArray) (r1 : Bool) (r2 : ByteArray) (r3 : Int) (w0 w : World) (hI : IsS120 w0 w g s0_0 s0_1) (hB : Below w0.heap.size w0 w) (h : spec_reader_word.f s0_0 s0_1 a1 = some (r1, r2, r3)) :
    Calls Tryz.prog 121 #[.pointer (some ⟨g, 0, none⟩), .string a1] w fun e w' => e = .returned (.bool r1) ∧ IsS120 w0 w' g r2 r3 ∧ Below w0.heap.size w0 w' ∧ KeepBut w w' g none := by
  have HI0 := Aside0.mk hI
  have HK := Aside0.mk (KeepBut.refl w g none)
  have HL := Aside0.mk hB.size
  clear hI
  have HW0 := Aside0.mk hB.size
  have HB := Aside0.mk hB
  clear hB
  have H : (if (wrap64 ((s0_0.size : Int) - s0_1)) < (a1.size : Int) then (some (false, s0_0, s0_1)) else (if 0 ≤ s0_1 then (if s0_1 ≤ (wrap64 (s0_1 + (a1.size : Int))) then (if (wrap64 (s0_1 + (a1.size : Int))) ≤ (s0_0.size : Int) then (if (s0_0.extract (s0_1 : Int).toNat ((wrap64 (s0_1 + (a1.size : Int))) : Int).toNat).toList = a1.toList then (some (true, s0_0, wrap64 (s0_1 + (a1.size : Int)))) else (some (false, s0_0, s0_1))) else (none)) else (none)) else (none))) = some (r1, r2, r3) := h
  clear h
  by_cases c3 : (wrap64 ((s0_0.size : Int) - s0_1)) < (a1.size : Int)
  · rw [if_pos c3] at H
    have c3b0 : decide ((wrap64 ((s0_0.size : Int) - s0_1)) < (a1.size : Int)) = true := decide_eq_true c3
    clear c3
    simp only [Option.some.injEq, Prod.mk.injEq] at H
    obtain ⟨rfl, rfl, rfl⟩ := H
    obtain ⟨HGz4, hgz4⟩ := HI0.out
    have hcz4_0 := cellS120_0 HGz4
    have hcz4_1 := cellS120_1 HGz4
    have hfz4_0 := blk_frozen HGz4 0
    have hfz4_1 := blk_frozen HGz4 1
    clear HGz4 hgz4
    go_enter Tryz.func121, Tryz.ntmps121
    go_wp2
    repeat (go_quiet (fail); try go_wp2)
    go_ret
    exact ⟨by first | rfl | (simp [errW_none, errW_some] <;> rfl) | (simp [*, errW_none, errW_some] <;> rfl), by repeat (first | (with_reducible first | exact HI0.out | apply IsS120.alloc | apply IsS120.drewN | apply IsS120.drew | apply IsS120.set_0 | apply IsS120.set_1) | exact HI0.out), by repeat (first | (with_reducible first | exact HB.out | apply below_alloc | apply pw_below_drewN | apply below_drew1 | refine below_set ?_ (IsS120.ge HI0.out)) | exact HB.out), by repeat (first | (with_reducible first | exact HK.out | apply KeepBut.set_ | apply keep_drewN | apply keep_drew | apply keep_alloc) | exact HK.out)⟩
  · rw [if_neg c3] at H
    have c3b0 : decide ((wrap64 ((s0_0.size : Int) - s0_1)) < (a1.size : Int)) = false := decide_eq_false c3
    clear c3
    by_cases c5 : 0 ≤ s0_1
    · rw [if_pos c5] at H
      have c5b0 := eq_true c5
      have c5b1 : decide (0 ≤ s0_1) = true := decide_eq_true c5
      clear c5
      by_cases c6 : s0_1 ≤ (wrap64 (s0_1 + (a1.size : Int)))
      · rw [if_pos c6] at H
        have c6b0 := eq_true c6
        have c6b1 : decide (s0_1 ≤ (wrap64 (s0_1 + (a1.size : Int)))) = true := decide_eq_true c6
        by_cases c7 : (wrap64 (s0_1 + (a1.size : Int))) ≤ (s0_0.size : Int)
        · rw [if_pos c7] at H
          have c7b0 := eq_true c7
          have c7b1 : decide ((wrap64 (s0_1 + (a1.size : Int))) ≤ (s0_0.size : Int)) = true := decide_eq_true c7
          by_cases c8 : (s0_0.extract (s0_1 : Int).toNat ((wrap64 (s0_1 + (a1.size : Int))) : Int).toNat).toList = a1.toList
          · rw [if_pos c8] at H
            have c8b0 : ((s0_0.extract (s0_1 : Int).toNat ((wrap64 (s0_1 + (a1.size : Int))) : Int).toNat).toList == a1.toList) = true := beq_iff_eq.mpr c8
            have c8b1 : ((s0_0.extract (s0_1 : Int).toNat ((wrap64 (s0_1 + (a1.size : Int))) : Int).toNat).toList != a1.toList) = false := bne_eq_false_iff_eq.mpr c8
            clear c8
            simp only [Option.some.injEq, Prod.mk.injEq] at H
            obtain ⟨rfl, rfl, rfl⟩ := H
            obtain ⟨HGz9, hgz9⟩ := HI0.out
            have hcz9_0 := cellS120_0 HGz9
            have hcz9_1 := cellS120_1 HGz9
            have hfz9_0 := blk_frozen HGz9 0
            have hfz9_1 := blk_frozen HGz9 1
            clear HGz9 hgz9
            go_enter Tryz.func121, Tryz.ntmps121
            go_wp2
            repeat (go_quiet (fail); try go_wp2)
            go_ret
            exact ⟨by first | rfl | (simp [errW_none, errW_some] <;> rfl) | (simp [*, errW_none, errW_some] <;> rfl), by repeat (first | (with_reducible first | exact HI0.out | apply IsS120.alloc | apply IsS120.drewN | apply IsS120.drew | apply IsS120.set_0 | apply IsS120.set_1) | exact HI0.out), by repeat (first | (with_reducible first | exact HB.out | apply below_alloc | apply pw_below_drewN | apply below_drew1 | refine below_set ?_ (IsS120.ge HI0.out)) | exact HB.out), by repeat (first | (with_reducible first | exact HK.out | apply KeepBut.set_ | apply keep_drewN | apply keep_drew | apply keep_alloc) | exact HK.out)⟩
          · rw [if_neg c8] at H
            have c8b0 : ((s0_0.extract (s0_1 : Int).toNat ((wrap64 (s0_1 + (a1.size : Int))) : Int).toNat).toList == a1.toList) = false := beq_eq_false_iff_ne.mpr c8
            have c8b1 : ((s0_0.extract (s0_1 : Int).toNat ((wrap64 (s0_1 + (a1.size : Int))) : Int).toNat).toList != a1.toList) = true := bne_iff_ne.mpr c8
            simp only [Option.some.injEq, Prod.mk.injEq] at H
            obtain ⟨rfl, rfl, rfl⟩ := H
            obtain ⟨HGz10, hgz10⟩ := HI0.out
            have hcz10_0 := cellS120_0 HGz10
            have hcz10_1 := cellS120_1 HGz10
            have hfz10_0 := blk_frozen HGz10 0
            have hfz10_1 := blk_frozen HGz10 1
            clear HGz10 hgz10
            go_enter Tryz.func121, Tryz.ntmps121
            go_wp2
            repeat (go_quiet (fail); try go_wp2)
            go_ret
            exact ⟨by first | rfl | (simp [errW_none, errW_some] <;> rfl) | (simp [*, errW_none, errW_some] <;> rfl), by repeat (first | (with_reducible first | exact HI0.out | apply IsS120.alloc | apply IsS120.drewN | apply IsS120.drew | apply IsS120.set_0 | apply IsS120.set_1) | exact HI0.out), by repeat (first | (with_reducible first | exact HB.out | apply below_alloc | apply pw_below_drewN | apply below_drew1 | refine below_set ?_ (IsS120.ge HI0.out)) | exact HB.out), by repeat (first | (with_reducible first | exact HK.out | apply KeepBut.set_ | apply keep_drewN | apply keep_drew | apply keep_alloc) | exact HK.out)⟩
        · rw [if_neg c7] at H
          exact absurd H (by simp)
      · rw [if_neg c6] at H
        exact absurd H (by simp)
    · rw [if_neg c5] at H
      exact absurd H (by simp)

/-! ### laws_gjKind: function 39 -/
def laws_gjKind.f (a0 : Int) : Option (Int) := if a0 = 1 then (some 1) else (if a0 = 3 then (some 2) else (if a0 = 4 then (some 3) else (if a0 = 2 then (some 4) else (if a0 = 5 then (some 5) else (if a0 = 6 then (some 5) else (some 0))))))
set_option maxHeartbeats 8000000 in
set_option maxRecDepth 100000 in
theorem laws_gjKind.calls (a0 : Int) (r : Int) (w : World) (h : laws_gjKind.f a0 = some r) :
    Calls Tryz.prog 39 #[.int .i64 a0] w fun e w' => e = .returned (.int .i64 r) ∧ Drawn0 w w' := by
  have H : (if a0 = 1 then (some 1) else (if a0 = 3 then (some 2) else (if a0 = 4 then (some 3) else (if a0 = 2 then (some 4) else (if a0 = 5 then (some 5) else (if a0 = 6 then (some 5) else (some 0))))))) = some r := h
  clear h
  by_cases c2 : a0 = 1
  · rw [if_pos c2] at H
    have c2b0 : (a0 == 1) = true := beq_iff_eq.mpr c2
    have c2b1 : (a0 != 1) = false := bne_eq_false_iff_eq.mpr c2
    clear c2
    obtain rfl := Option.some.inj H
    go_enter Tryz.func39, Tryz.ntmps39
    go_wp2
    go_ret
    exact ⟨by first | rfl | (simp; done) | (simp [*]; done), by repeat (first | exact Drawn0.refl _ | apply Drawn0.step)⟩
  · rw [if_neg c2] at H
    have c2b0 : (a0 == 1) = false := beq_eq_false_iff_ne.mpr c2
    have c2b1 : (a0 != 1) = true := bne_iff_ne.mpr c2
    by_cases c3 : a0 = 3
    · rw [if_pos c3] at H
      have c3b0 : (a0 == 3) = true := beq_iff_eq.mpr c3
      have c3b1 : (a0 != 3) = false := bne_eq_false_iff_eq.mpr c3
      clear c3
      obtain rfl := Option.some.inj H
      go_enter Tryz.func39, Tryz.ntmps39
      go_wp2
      go_ret
      exact ⟨by first | rfl | (simp; done) | (simp [*]; done), by repeat (first | exact Drawn0.refl _ | apply Drawn0.step)⟩
    · rw [if_neg c3] at H
      have c3b0 : (a0 == 3) = false := beq_eq_false_iff_ne.mpr c3
      have c3b1 : (a0 != 3) = true := bne_iff_ne.mpr c3
      by_cases c4 : a0 = 4
      · rw [if_pos c4] at H
        have c4b0 : (a0 == 4) = true := beq_iff_eq.mpr c4
        have c4b1 : (a0 != 4) = false := bne_eq_false_iff_eq.mpr c4
        clear c4
        obtain rfl := Option.some.inj H
        go_enter Tryz.func39, Tryz.ntmps39
        go_wp2
        go_ret
        exact ⟨by first | rfl | (simp; done) | (simp [*]; done), by repeat (first | exact Drawn0.refl _ | apply Drawn0.step)⟩
      · rw [if_neg c4] at H
        have c4b0 : (a0 == 4) = false := beq_eq_false_iff_ne.mpr c4
        have c4b1 : (a0 != 4) = true := bne_iff_ne.mpr c4
        by_cases c5 : a0 = 2
        · rw [if_pos c5] at H
          have c5b0 : (a0 == 2) = true := beq_iff_eq.mpr c5
          have c5b1 : (a0 != 2) = false := bne_eq_false_iff_eq.mpr c5
          clear c5
          obtain rfl := Option.some.inj H
          go_enter Tryz.func39, Tryz.ntmps39
          go_wp2
          go_ret
          exact ⟨by first | rfl | (simp; done) | (simp [*]; done), by repeat (first | exact Drawn0.refl _ | apply Drawn0.step)⟩
        · rw [if_neg c5] at H
          have c5b0 : (a0 == 2) = false := beq_eq_false_iff_ne.mpr c5
          have c5b1 : (a0 != 2) = true := bne_iff_ne.mpr c5
          by_cases c6 : a0 = 5
          · rw [if_pos c6] at H
            have c6b0 : (a0 == 5) = true := beq_iff_eq.mpr c6
            have c6b1 : (a0 != 5) = false := bne_eq_false_iff_eq.mpr c6
            clear c6
            obtain rfl := Option.some.inj H
            go_enter Tryz.func39, Tryz.ntmps39
            go_wp2
            go_ret
            exact ⟨by first | rfl | (simp; done) | (simp [*]; done), by repeat (first | exact Drawn0.refl _ | apply Drawn0.step)⟩
          · rw [if_neg c6] at H
            have c6b0 : (a0 == 5) = false := beq_eq_false_iff_ne.mpr c6
            have c6b1 : (a0 != 5) = true := bne_iff_ne.mpr c6
            by_cases c7 : a0 = 6
            · rw [if_pos c7] at H
              have c7b0 : (a0 == 6) = true := beq_iff_eq.mpr c7
              have c7b1 : (a0 != 6) = false := bne_eq_false_iff_eq.mpr c7
              clear c7
              obtain rfl := Option.some.inj H
              go_enter Tryz.func39, Tryz.ntmps39
              go_wp2
              go_ret
              exact ⟨by first | rfl | (simp; done) | (simp [*]; done), by repeat (first | exact Drawn0.refl _ | apply Drawn0.step)⟩
            · rw [if_neg c7] at H
              have c7b0 : (a0 == 6) = false := beq_eq_false_iff_ne.mpr c7
              have c7b1 : (a0 != 6) = true := bne_iff_ne.mpr c7
              obtain rfl := Option.some.inj H
              go_enter Tryz.func39, Tryz.ntmps39
              go_wp2
              go_ret
              exact ⟨by first | rfl | (simp; done) | (simp [*]; done), by repeat (first | exact Drawn0.refl _ | apply Drawn0.step)⟩

end Go.Proofs.YtdolnkknlflmeaaGreatDoor.L
