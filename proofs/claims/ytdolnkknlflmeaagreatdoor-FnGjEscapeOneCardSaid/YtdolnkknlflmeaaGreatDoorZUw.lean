/-
  gjson.unescape: the walk.
-/
import Derived.Test.YtdolnkknlflmeaaGreatDoorZOs
import Derived.Test.YtdolnkknlflmeaaGreatDoorZOq
namespace Go.Proofs.YtdolnkknlflmeaaGreatDoor.L
open Go.RowKit Go.Proofs.YtdolnkknlflmeaaGreatDoorW.PrintWords Go.Proofs.YtdolnkknlflmeaaGreatDoorW.PrintLast Go.Proofs.YtdolnkknlflmeaaGreatDoorW.PrintMore
set_option linter.unusedVariables false
set_option linter.unusedSimpArgs false

/-- make([]byte, 0, n) -/
theorem mk8 {ops : Array Oper} {rest : List Oper} {o : Oper} {a : Act} {Q : Exit → Act → World → Prop} {w : World} (hg : o.guard = none) (l c : Operand) (hop : o.op = Op.makeSlice 80 l c) (n : Nat) (hl : a.eval l = .int .i64 0) (hc : a.eval c = .int .i64 (n : Int)) (hn : n ≤ 1000000000)
    (h : ∀ w', Kd.R (Kd.int .u8) 5 w' w.heap.size (fun _ => True) (.slice (some ⟨w.heap.size, 0, none⟩) 0 n) [] → Below w.heap.size w w' → wpList Tryz.prog ops Q rest (a.put o.dst (.slice (some ⟨w.heap.size, 0, none⟩) 0 n)) w') :
    wpList Tryz.prog ops Q (o :: rest) a w := by
  obtain ⟨i, hi, hz0, hz1, hz2⟩ := info_parts info5
  refine wpList_make_own w hg l c 80 hop w.heap.size 5 i (.int .u8 0) 1 Tryz.underlying80 hi hz0 hz1 .i64 .i64 n n hl hc rfl (by rw [hz2]; omega) (by simp only [maxLen]; omega) (Nat.le_refl _) ?_
  intro w' ho hgr
  exact h w' (Kd.R_of_own ho (fun _ _ => trivial)) ⟨hgr.os, hgr.tape, hgr.output, hgr.size, fun k hk => hgr.block k hk (by simp)⟩

theorem encL_length (u : Int) : 1 ≤ (encL u).length ∧ (encL u).length ≤ 4 := by unfold encL; split <;> (try split) <;> (try split) <;> (try split) <;> simp

set_option maxHeartbeats 16000000 in
set_option maxRecDepth 100000 in
theorem unescape_calls (s : ByteArray) (hs : s.size ≤ 1000000) (R : List Int) (hU : Un s 0 R) (w : World) :
    Calls Tryz.prog 103 #[.string s] w fun e w' => e = .returned (.string (strOfNums R)) ∧ Below w.heap.size w w' := by
  have hU0 := Aside0.mk hU
  clear hU
  go_enter Tryz.func103, Tryz.ntmps103
  go_wp2_with (first | (refine mk8 rfl (.const (.int .i64 0)) (.tmp 8) rfl s.size rfl rfl (by omega) ?_; intro w1 ho hb; have HO1 := Aside0.mk ho; have HB1 := Aside0.mk hb; clear ho hb))
  go_loopg [3, 4] s.size (fun kq v3 v4 wr => ∃ (i : Nat) (acc rs : List Int), v4 = .int .i64 (i : Int) ∧ Aside0 (i + kq = s.size) ∧ Aside0 (Un s i rs) ∧ Aside0 (acc ++ rs = R) ∧ Aside0 (acc.length ≤ i) ∧ Aside0 (Kd.R (Kd.int .u8) 5 wr w.heap.size (fun _ => True) v3 acc) ∧ Aside0 (Below w.heap.size w wr))
  case atStart => exact ⟨0, [], R, rfl, ⟨by omega⟩, hU0, ⟨rfl⟩, ⟨Nat.le_refl _⟩, HO1, HB1⟩
  case round =>
    clear hU0 HO1 HB1
    obtain ⟨i, acc, rs, rfl, hk, hU, hA, hL, HO, HB⟩ := hrel
    have hU' := hU.out
    clear hU
    cases hU' with
    | done =>
      have hr : Aside0 (acc = R) := ⟨by have := hA.out; simpa using this⟩
      have hcv := str8 HO.out
      go_wp2
      go_ret
      exact ⟨by rw [← hr.out]; rfl, HB.out⟩
    | @plain _ c r h1 h2 h3 h4 h5 =>
      have h5' := Aside0.mk h5
      have hx := at_of h2
      have d1 : decide (c < 32) = false := decide_eq_false (by omega)
      have d2 : (c == 92) = false := beq_eq_false_iff_ne.mpr h4
      have hA' : Aside0 ((acc ++ [c]) ++ r = R) := ⟨by rw [← hA.out]; simp⟩
      clear h5 h2 h3 h4 hA
      go_wp2_with (first | (at_builtin; refine ap8 (w0 := w) w.heap.size rfl (.tmp 16) (.tmp 20) rfl _ _ c rfl rfl HO.out HB.out (by have := HB.out.size; omega) (by have := hL.out; omega) ?_; intro v5 w5 ho hb; have HO5 := Aside0.mk ho; have HB5 := Aside0.mk hb; clear ho hb))
      go_roundg (gk - 1)
      case measure => have := hk.out; omega
      case rel => exact ⟨i + 1, _, _, by simp, ⟨by have := hk.out; omega⟩, h5', hA', ⟨by have := hL.out; simp; omega⟩, HO5, HB5⟩
    | @esc _ d c r h1 h2 h3 h4 h5 =>
      have h5' := Aside0.mk h5
      have h0 : i < s.size := by omega
      have hx := at_of h2
      have hA' : Aside0 ((acc ++ [c]) ++ r = R) := ⟨by rw [← hA.out]; simp⟩
      clear h5 h2 hA
      rcases h4 with ⟨rfl, rfl⟩ | ⟨rfl, rfl⟩ | ⟨rfl, rfl⟩ | ⟨rfl, rfl⟩ | ⟨rfl, rfl⟩ | ⟨rfl, rfl⟩ | ⟨rfl, rfl⟩ | ⟨rfl, rfl⟩
      · have hx1 := at_of h3
        clear h3
        go_wp2_with (first | (at_builtin; refine ap8 (w0 := w) w.heap.size rfl (.tmp 49) (.tmp 50) rfl _ _ 92 rfl rfl HO.out HB.out (by have := HB.out.size; omega) (by have := hL.out; omega) ?_; intro v5 w5 ho hb; have HO5 := Aside0.mk ho; have HB5 := Aside0.mk hb; clear ho hb))
        go_roundg (gk - 2)
        case measure => have := hk.out; omega
        case rel => exact ⟨i + 2, _, _, by simp; omega, ⟨by have := hk.out; omega⟩, h5', hA', ⟨by have := hL.out; simp; omega⟩, HO5, HB5⟩
      · have hx1 := at_of h3
        clear h3
        go_wp2_with (first | (at_builtin; refine ap8 (w0 := w) w.heap.size rfl (.tmp 54) (.tmp 55) rfl _ _ 47 rfl rfl HO.out HB.out (by have := HB.out.size; omega) (by have := hL.out; omega) ?_; intro v5 w5 ho hb; have HO5 := Aside0.mk ho; have HB5 := Aside0.mk hb; clear ho hb))
        go_roundg (gk - 2)
        case measure => have := hk.out; omega
        case rel => exact ⟨i + 2, _, _, by simp; omega, ⟨by have := hk.out; omega⟩, h5', hA', ⟨by have := hL.out; simp; omega⟩, HO5, HB5⟩
      · have hx1 := at_of h3
        clear h3
        go_wp2_with (first | (at_builtin; refine ap8 (w0 := w) w.heap.size rfl (.tmp 59) (.tmp 60) rfl _ _ 8 rfl rfl HO.out HB.out (by have := HB.out.size; omega) (by have := hL.out; omega) ?_; intro v5 w5 ho hb; have HO5 := Aside0.mk ho; have HB5 := Aside0.mk hb; clear ho hb))
        go_roundg (gk - 2)
        case measure => have := hk.out; omega
        case rel => exact ⟨i + 2, _, _, by simp; omega, ⟨by have := hk.out; omega⟩, h5', hA', ⟨by have := hL.out; simp; omega⟩, HO5, HB5⟩
      · have hx1 := at_of h3
        clear h3
        go_wp2_with (first | (at_builtin; refine ap8 (w0 := w) w.heap.size rfl (.tmp 64) (.tmp 65) rfl _ _ 12 rfl rfl HO.out HB.out (by have := HB.out.size; omega) (by have := hL.out; omega) ?_; intro v5 w5 ho hb; have HO5 := Aside0.mk ho; have HB5 := Aside0.mk hb; clear ho hb))
        go_roundg (gk - 2)
        case measure => have := hk.out; omega
        case rel => exact ⟨i + 2, _, _, by simp; omega, ⟨by have := hk.out; omega⟩, h5', hA', ⟨by have := hL.out; simp; omega⟩, HO5, HB5⟩
      · have hx1 := at_of h3
        clear h3
        go_wp2_with (first | (at_builtin; refine ap8 (w0 := w) w.heap.size rfl (.tmp 69) (.tmp 70) rfl _ _ 10 rfl rfl HO.out HB.out (by have := HB.out.size; omega) (by have := hL.out; omega) ?_; intro v5 w5 ho hb; have HO5 := Aside0.mk ho; have HB5 := Aside0.mk hb; clear ho hb))
        go_roundg (gk - 2)
        case measure => have := hk.out; omega
        case rel => exact ⟨i + 2, _, _, by simp; omega, ⟨by have := hk.out; omega⟩, h5', hA', ⟨by have := hL.out; simp; omega⟩, HO5, HB5⟩
      · have hx1 := at_of h3
        clear h3
        go_wp2_with (first | (at_builtin; refine ap8 (w0 := w) w.heap.size rfl (.tmp 74) (.tmp 75) rfl _ _ 13 rfl rfl HO.out HB.out (by have := HB.out.size; omega) (by have := hL.out; omega) ?_; intro v5 w5 ho hb; have HO5 := Aside0.mk ho; have HB5 := Aside0.mk hb; clear ho hb))
        go_roundg (gk - 2)
        case measure => have := hk.out; omega
        case rel => exact ⟨i + 2, _, _, by simp; omega, ⟨by have := hk.out; omega⟩, h5', hA', ⟨by have := hL.out; simp; omega⟩, HO5, HB5⟩
      · have hx1 := at_of h3
        clear h3
        go_wp2_with (first | (at_builtin; refine ap8 (w0 := w) w.heap.size rfl (.tmp 79) (.tmp 80) rfl _ _ 9 rfl rfl HO.out HB.out (by have := HB.out.size; omega) (by have := hL.out; omega) ?_; intro v5 w5 ho hb; have HO5 := Aside0.mk ho; have HB5 := Aside0.mk hb; clear ho hb))
        go_roundg (gk - 2)
        case measure => have := hk.out; omega
        case rel => exact ⟨i + 2, _, _, by simp; omega, ⟨by have := hk.out; omega⟩, h5', hA', ⟨by have := hL.out; simp; omega⟩, HO5, HB5⟩
      · have hx1 := at_of h3
        clear h3
        go_wp2_with (first | (at_builtin; refine ap8 (w0 := w) w.heap.size rfl (.tmp 84) (.tmp 85) rfl _ _ 34 rfl rfl HO.out HB.out (by have := HB.out.size; omega) (by have := hL.out; omega) ?_; intro v5 w5 ho hb; have HO5 := Aside0.mk ho; have HB5 := Aside0.mk hb; clear ho hb))
        go_roundg (gk - 2)
        case measure => have := hk.out; omega
        case rel => exact ⟨i + 2, _, _, by simp; omega, ⟨by have := hk.out; omega⟩, h5', hA', ⟨by have := hL.out; simp; omega⟩, HO5, HB5⟩
    | @uni _ u r h1 h2 h3 h4 h5 h6 h7 =>
      have h7' := Aside0.mk h7
      have hx := at_of h2
      have hx1 := at_of h3
      have q0 : i < s.size := by omega
      have q1 : i + 1 < s.size := by omega
      have q2 : i + 1 + 1 ≤ s.size := by omega
      have q3 : decide ((s.size : Int) < (i : Int) + 1 + 5) = false := decide_eq_false (by omega)
      have hur := hexn_range s (i + 2) h4
      rw [h5] at hur
      have hSc : Aside0 (Scalar u) := ⟨⟨hur.1, by omega, h6⟩⟩
      have hsz : (s.extract (i + 2) s.size).size = s.size - (i + 2) := by simp
      have C := fun wr => Lib.hid (runeit_calls (s.extract (i + 2) s.size) (by rw [hsz]; omega) (by intro n hn; rw [bt_extract s (i + 2) s.size n (by omega) (Nat.le_refl _)]; exact h4 n hn) wr)
      rw [hexn_extract s (i + 2) s.size (by omega) (Nat.le_refl _), h5] at C
      have D : ∀ wr, Hid _ := fun wr => Lib.hid (utf16_IsSurrogate.calls u false wr (by unfold utf16_IsSurrogate.f; split <;> simp <;> omega))
      have hA' : Aside0 ((acc ++ encL u) ++ r = R) := ⟨by rw [← hA.out]; simp⟩
      have h1' := Aside0.mk h1
      clear h7 h2 h3 h4 h5 h6 hur hA hsz h1
      go_upto_region 40 with (first | (go_at_call 146; refine ((C _).out).mono ?_; rintro e w1 ⟨rfl, h1⟩; have HB1 := Aside0.mk (below_then HB.out HB.out.size h1); have HO1 := Aside0.mk (Kd.R_below HO.out h1); clear h1) | (go_at_call 147; refine ((D _).out).mono ?_; rintro e w2 ⟨rfl, h1⟩; obtain ⟨nd, rfl⟩ := h1.out; clear h1) | (at_builtin; refine ap8z (w0 := w) w.heap.size rfl (.tmp 132) (.tmp 133) rfl _ acc rfl rfl (Kd.R_drewN HO1.out nd) (pw_below_drewN HB1.out nd) (by have := HB1.out.size; simp; omega) (by have := hL.out; omega) ?_; intro g cap cur w3 hz; have hZ := Aside0.mk hz; have zf := hz.fit; clear hz) | (go_at_call 149; refine (encodeRune_calls u hSc.out w3 g acc.length (cap - acc.length) cur hZ.out.blk (by have := hZ.out.fit; have := hZ.out.sz; omega) hZ.out.ints (by have := hZ.out.fit; omega)).mono ?_; rintro e w4 ⟨rfl, rfl⟩; have hz := hZ.out.enc (encL u) (by have := encL_length u; omega); have HO4 := Aside0.mk hz.1; have HB4 := Aside0.mk hz.2; have hel := encL_length u; clear hz))
      have hzf := hZ.out.fit
      have hl1 := hL.out
      obtain ⟨n, hn⟩ : ∃ n, n = acc.length := ⟨_, rfl⟩
      rw [← hn] at hzf hl1 ⊢
      have hn9 : n < 1000001 := by omega
      clear hl1
      have hN := Aside0.mk hn
      clear zf hn D C q0 q1 q2 q3 hx hx1
      have hcut : ∀ W : World, (Instr.slice 80 (.slice (some ⟨g, 0, none⟩) (n + 8) cap) (some (.int .i64 (n : Int))) none none).run Tryz.prog W = .ok (.slice (some ⟨g, n, none⟩) 8 (cap - n)) W := fun W => cut_low W g n cap hzf
      have hm1 : wrap64 ((n : Int) + 8 - 8) = n := by unfold wrap64; omega
      go_upto_region 41 with (first | (go_at_call 149; refine (encodeRune_calls u hSc.out w3 g n (cap - n) cur hZ.out.blk (by have := hZ.out.fit; have := hZ.out.sz; have := hN.out; omega) (by rw [hN.out]; exact hZ.out.ints) (by omega)).mono ?_; rintro e w4 ⟨rfl, rfl⟩))
      have hz := hZ.out.enc (encL u) (by have := encL_length u; omega)
      have hel := encL_length u
      rw [← hN.out] at hz
      obtain ⟨m, hm⟩ : ∃ m, m = (encL u).length := ⟨_, rfl⟩
      have hM := Aside0.mk hm
      rw [← hm] at hz hel ⊢
      have HO4 := Aside0.mk hz.1
      have HB4 := Aside0.mk hz.2
      clear hz hm hcut
      have hcut : ∀ W : World, (Instr.slice 80 (.slice (some ⟨g, 0, none⟩) (n + 8) cap) none (some (.int .i64 ((n : Int) + (m : Int)))) none).run Tryz.prog W = .ok (.slice (some ⟨g, 0, none⟩) (n + m) cap) W := fun W => cut_high W g n m cap (by omega)
      have hm2 : wrap64 ((n : Int) + (m : Int)) = n + m := by unfold wrap64; omega
      go_wp2
      go_roundg (gk - 6)
      case measure => have := hk.out; have := h1'.out; omega
      case rel => exact ⟨i + 6, _, _, by simp; omega, ⟨by have := hk.out; have := h1'.out; omega⟩, h7', hA', ⟨by have := hL.out; have := hN.out; have := hM.out; simp; omega⟩, HO4, HB4⟩
    | @pair _ u v r h1 h2 h3 h4 h5 h6 h7 h8 h9 h10 h11 h12 h13 h14 =>
      have h7' := Aside0.mk h14
      have hx := at_of h2
      have hx1 := at_of h3
      have hx6 := at_of h8
      have hx7 := at_of h9
      have q0 : i < s.size := by omega
      have q1 : i + 1 < s.size := by omega
      have q2 : i + 1 + 1 ≤ s.size := by omega
      have q3 : decide ((s.size : Int) < (i : Int) + 1 + 5) = false := decide_eq_false (by omega)
      have q4 : i + 6 < s.size := by omega
      have q5 : i + 7 < s.size := by omega
      have q6 : i + 8 ≤ s.size := by omega
      have hSc : Aside0 (Scalar (65536 + (u - 55296) * 1024 + (v - 56320))) := ⟨⟨by omega, by omega, by omega⟩⟩
      have hsz : (s.extract (i + 2) s.size).size = s.size - (i + 2) := by simp
      have hsz8 : (s.extract (i + 8) s.size).size = s.size - (i + 8) := by simp
      have C := fun wr => Lib.hid (runeit_calls (s.extract (i + 2) s.size) (by rw [hsz]; omega) (by intro n hn; rw [bt_extract s (i + 2) s.size n (by omega) (Nat.le_refl _)]; exact h4 n hn) wr)
      rw [hexn_extract s (i + 2) s.size (by omega) (Nat.le_refl _), h5] at C
      have C8 := fun wr => Lib.hid (runeit_calls (s.extract (i + 8) s.size) (by rw [hsz8]; omega) (by intro n hn; rw [bt_extract s (i + 8) s.size n (by omega) (Nat.le_refl _)]; exact h10 n hn) wr)
      rw [hexn_extract s (i + 8) s.size (by omega) (Nat.le_refl _), h11] at C8
      have D : ∀ wr, Hid _ := fun wr => Lib.hid (utf16_IsSurrogate.calls u true wr (by unfold utf16_IsSurrogate.f; split <;> simp <;> omega))
      have F : ∀ wr, Hid _ := fun wr => Lib.hid (utf16_DecodeRune.calls u v _ wr (decodeRune_pair u v h6 h7 h12 h13))
      obtain ⟨x, hx0⟩ : ∃ x, x = 65536 + (u - 55296) * 1024 + (v - 56320) := ⟨_, rfl⟩
      rw [← hx0] at hSc F hA
      have hA' : Aside0 ((acc ++ encL x) ++ r = R) := ⟨by rw [← hA.out]; simp⟩
      have h1' := Aside0.mk h1
      have q7 : decide (6 ≤ (s.size : Int) - ((i : Int) + 1 + 5)) = true := decide_eq_true (by omega)
      clear h14 h2 h3 h4 h5 h6 h7 h8 h9 h10 h11 h12 h13 hA hsz hsz8 h1 hx0
      go_upto_region 36 with (first | (go_at_call 146; refine ((C _).out).mono ?_; rintro e w1 ⟨rfl, h1⟩; have HB1 := Aside0.mk (below_then HB.out HB.out.size h1); have HO1 := Aside0.mk (Kd.R_below HO.out h1); clear h1) | (go_at_call 147; refine ((D _).out).mono ?_; rintro e w2 ⟨rfl, h1⟩; obtain ⟨nd, rfl⟩ := h1.out; clear h1))
      obtain ⟨j, hj⟩ : ∃ j : Nat, j = i + 6 := ⟨_, rfl⟩
      rw [show (i : Int) + 1 + 5 = (j : Int) by omega]
      have r1 : j < s.size := by omega
      have r2 : j + 1 < s.size := by omega
      have r3 : j + 2 ≤ s.size := by omega
      have r4 : j + 6 ≤ s.size := by have := h1'.out; omega
      have hy : ∀ h : j < s.size, ((s[j]'h).toNat : Int) = 92 := by subst hj; exact hx6
      have hy1 : ∀ h : j + 1 < s.size, ((s[j + 1]'h).toNat : Int) = 117 := by subst hj; exact hx7
      have hJ := Aside0.mk hj
      have hsj : (s.extract j s.size).size = s.size - j := by simp
      have C8' : ∀ wr, Hid (Calls Tryz.prog 146 #[.string (s.extract (j + 2) s.size)] wr fun e w' => e = .returned (.int .i32 v) ∧ Below wr.heap.size wr w') := by subst hj; exact C8
      clear C C8 D q0 q1 q2 q3 q4 q5 q6 q7 hx hx1 hx6 hx7 hj
      go_upto_region 40 with (first | (go_at_call 146; refine ((C8' _).out).mono ?_; rintro e w4 ⟨rfl, h1⟩; have HB1 := Aside0.mk (below_then (pw_below_drewN HB1.out nd) (pw_below_drewN HB1.out nd).size h1); have HO1 := Aside0.mk (Kd.R_below (Kd.R_drewN HO1.out nd) h1); clear h1) | (go_at_call 148; refine ((F _).out).mono ?_; rintro e w5 ⟨rfl, h1⟩; obtain ⟨nd2, rfl⟩ := h1.out; clear h1) | (at_builtin; refine ap8z (w0 := w) w.heap.size rfl (.tmp 132) (.tmp 133) rfl _ acc rfl rfl (Kd.R_drewN HO1.out nd2) (pw_below_drewN HB1.out nd2) (by have := HB1.out.size; simp; omega) (by have := hL.out; omega) ?_; intro g cap cur w3 hz; have hZ := Aside0.mk hz; clear hz))
      have hzf := hZ.out.fit
      have hl1 := hL.out
      obtain ⟨n, hn⟩ : ∃ n, n = acc.length := ⟨_, rfl⟩
      rw [← hn] at hzf hl1 ⊢
      have hn9 : n < 1000001 := by omega
      clear hl1
      have hN := Aside0.mk hn
      clear hn
      have hcut : ∀ W : World, (Instr.slice 80 (.slice (some ⟨g, 0, none⟩) (n + 8) cap) (some (.int .i64 (n : Int))) none none).run Tryz.prog W = .ok (.slice (some ⟨g, n, none⟩) 8 (cap - n)) W := fun W => cut_low W g n cap hzf
      have hm1 : wrap64 ((n : Int) + 8 - 8) = n := by unfold wrap64; omega
      go_upto_region 41 with (first | (go_at_call 149; refine (encodeRune_calls x hSc.out w3 g n (cap - n) cur hZ.out.blk (by have := hZ.out.fit; have := hZ.out.sz; have := hN.out; omega) (by rw [hN.out]; exact hZ.out.ints) (by omega)).mono ?_; rintro e w4 ⟨rfl, rfl⟩))
      have hz := hZ.out.enc (encL x) (by have := encL_length x; omega)
      have hel := encL_length x
      rw [← hN.out] at hz
      obtain ⟨m, hm⟩ : ∃ m, m = (encL x).length := ⟨_, rfl⟩
      have hM := Aside0.mk hm
      rw [← hm] at hz hel ⊢
      have HO4 := Aside0.mk hz.1
      have HB4 := Aside0.mk hz.2
      clear hz hm hcut
      have hcut : ∀ W : World, (Instr.slice 80 (.slice (some ⟨g, 0, none⟩) (n + 8) cap) none (some (.int .i64 ((n : Int) + (m : Int)))) none).run Tryz.prog W = .ok (.slice (some ⟨g, 0, none⟩) (n + m) cap) W := fun W => cut_high W g n m cap (by omega)
      have hm2 : wrap64 ((n : Int) + (m : Int)) = n + m := by unfold wrap64; omega
      go_wp2
      go_roundg (gk - 12)
      case measure => have := hk.out; have := h1'.out; omega
      case rel => exact ⟨i + 12, _, _, by have := hJ.out; simp; omega, ⟨by have := hk.out; have := h1'.out; omega⟩, h7', hA', ⟨by have := hL.out; have := hN.out; have := hM.out; simp; omega⟩, HO4, HB4⟩
end Go.Proofs.YtdolnkknlflmeaaGreatDoor.L
