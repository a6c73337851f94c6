/-
  gjson.parseObject: a member's value gone over.
-/
import Derived.Test.YtdolnkknlflmeaaGreatDoorZPo1
namespace Go.Proofs.YtdolnkknlflmeaaGreatDoor.L
open Go.RowKit Go.Proofs.YtdolnkknlflmeaaGreatDoorW.PrintWords Go.Proofs.YtdolnkknlflmeaaGreatDoorW.PrintLast Go.Proofs.YtdolnkknlflmeaaGreatDoorW.PrintMore
set_option linter.unusedVariables false
set_option linter.unusedSimpArgs false

/-- None of the characters at which a value begins. -/
def NoVal (x : Int) : Prop := (x == 34) = false ∧ (x == 123) = false ∧ (x == 91) = false ∧ (x == 110) = false ∧ (x == 116) = false ∧ (x == 102) = false ∧ (x == 43) = false ∧ (x == 45) = false ∧ (x == 48) = false ∧ (x == 49) = false ∧ (x == 50) = false ∧ (x == 51) = false ∧ (x == 52) = false ∧ (x == 53) = false ∧ (x == 54) = false ∧ (x == 55) = false ∧ (x == 56) = false ∧ (x == 57) = false ∧ (x == 105) = false ∧ (x == 73) = false ∧ (x == 78) = false
theorem noVal_gap {x : Int} (h : Blc x ∨ x = 58 ∨ x = 44) : NoVal x := by
  unfold Blc at h
  have : x = 32 ∨ x = 9 ∨ x = 10 ∨ x = 13 ∨ x = 58 ∨ x = 44 := by omega
  rcases this with rfl | rfl | rfl | rfl | rfl | rfl <;> exact ⟨rfl, rfl, rfl, rfl, rfl, rfl, rfl, rfl, rfl, rfl, rfl, rfl, rfl, rfl, rfl, rfl, rfl, rfl, rfl, rfl, rfl⟩
/-- parseSquash at worlds that have only drawn since w. -/
def SqAt (s : ByteArray) (w : World) : Prop := ∀ nd b e : Nat, b < s.size → vch (bt s b) = 3 → Sq s (b + 1) 1 e →
  Calls Tryz.prog 91 #[.string s, .int .i64 (b : Int)] (w.drewN nd) fun en w' => en = .returned (.tuple #[.int .i64 (e : Int), .string (s.extract b e)]) ∧ Drawn0 (w.drewN nd) w'
/-- Where the way over a value ends that is not sought. -/
def SkipFin (g r ve : Nat) (w : World) (e : Exit) (t : Array Value) (w' : World) : Prop :=
  e = .exit 10 ∧ t.size = 524 ∧ t.getD 0 undef = .pointer (some ⟨g, 0, none⟩) ∧ t.getD 15 undef = .pointer (some ⟨r, 0, none⟩) ∧ t.getD 1 undef = .int .i64 (ve : Int) ∧ ∃ nd : Nat, w' = w.drewN nd
set_option maxHeartbeats 16000000 in
set_option maxRecDepth 100000 in
theorem val_skip (g r : Nat) (s : ByteArray) (hs : s.size ≤ 1000000) (p vb ve : Nat) (v : S48) (hpv : p ≤ vb) (hgap : ∀ q : Nat, p ≤ q → q < vb → NoVal (bt s q)) (hv : JV s vb ve v) (hve : ve < s.size) (hend : EndC (bt s ve))
    (t : Array Value) (ht : t.size = 524) (f0 : t.getD 0 undef = .pointer (some ⟨g, 0, none⟩)) (f15 : t.getD 15 undef = .pointer (some ⟨r, 0, none⟩)) (f1 : t.getD 1 undef = .int .i64 (p : Int)) (f8 : t.getD 8 undef = .bool false) (f12 : t.getD 12 undef = .bool false) (w : World) (c0 : w.cell? ⟨g, 0, none⟩ = some (.string s))
    (hSq : 5 ≤ v.f0 → SqAt s w)
    (Q : Exit → Act → World → Prop) (hQ : ∀ e t w', SkipFin g r ve w e t w' → Q e ⟨t, []⟩ w') : Code.wp Tryz.prog (Code.loop (L71 5)) Q ⟨t, []⟩ w := by
  have hle := hv.le
  have hgap' := Aside0.mk hgap
  have hend' := Aside0.mk hend
  have hSq' := Aside0.mk hSq
  clear hgap hend hSq
  refine wp_loop_ghost_k (In71 fun n f wr => f 0 = .pointer (some ⟨g, 0, none⟩) ∧ f 15 = .pointer (some ⟨r, 0, none⟩) ∧ f 8 = .bool false ∧ f 12 = .bool false ∧ ∃ q nd : Nat, f 1 = .int .i64 (q : Int) ∧ wr = w.drewN nd ∧ Aside0 (p ≤ q ∧ q + n = vb)) (vb - p) ?_ ?_
  · exact In71.mk ht ⟨f0, f15, f8, f12, p, 0, f1, rfl, ⟨by omega⟩⟩
  · clear f0 f15 f1 f8 f12
    rintro n a' wr ⟨f, rfl, f0, f15, f8, f12, q, nd, f1, rfl, hq⟩ J K hJ hK
    conv => arg 2; whnf
    simp only [FR71, f0, f1, f15, f8, f12]
    clear f0 f1 f15 f8 f12
    by_cases c : q < vb
    · obtain ⟨x1, x2, x3, x4, x5, x6, x7, x8, x9, x10, x11, x12, x13, x14, x15, x16, x17, x18, x19, x20, x21⟩ := hgap'.out q hq.out.1 c
      have q0 : q < s.size := by omega
      have hx := at_of (show bt s q = bt s q from rfl)
      obtain ⟨x, hxe⟩ : ∃ x, x = bt s q := ⟨_, rfl⟩
      rw [← hxe] at x1 x2 x3 x4 x5 x6 x7 x8 x9 x10 x11 x12 x13 x14 x15 x16 x17 x18 x19 x20 x21 hx
      clear hxe
      go_wp2
      refine Handed.intro (n - 1) (by have := hq.out; omega) ?_
      go_step
      exact In71.mk rfl ⟨rfl, rfl, rfl, rfl, q + 1, _, rfl, rfl, ⟨by have := hq.out; omega⟩⟩
    · have hqv : q = vb := by have := hq.out; omega
      subst hqv
      clear c hgap'
      cases hv with
      | null h =>
        have hx := at_of h.cons.1.2
        have hy := at_of h.cons.2.cons.1.2
        have q0 : q < s.size := by omega
        have q1 : q + 1 < s.size := by omega
        have C := fun wr => Lib.hid (parseLiteral_calls s (by omega) q (q + 4) (by omega) (by omega) (fun _ => hend'.out.nolet) (h.low low_null) wr)
        clear h
        go_wp2_with (first | (go_at_call 104; refine ((C _).out).mono ?_; rintro e w1 ⟨rfl, h1⟩; obtain ⟨nd2, rfl⟩ := h1.out; clear h1))
        exact ⟨rfl, rfl, rfl, rfl, rfl, _, rfl⟩
      | false h =>
        have hx := at_of h.cons.1.2
        have q0 : q < s.size := by omega
        have C := fun wr => Lib.hid (parseLiteral_calls s (by omega) q (q + 5) (by omega) (by omega) (fun _ => hend'.out.nolet) (h.low low_false) wr)
        clear h
        go_wp2_with (first | (go_at_call 104; refine ((C _).out).mono ?_; rintro e w1 ⟨rfl, h1⟩; obtain ⟨nd2, rfl⟩ := h1.out; clear h1))
        exact ⟨rfl, rfl, rfl, rfl, rfl, _, rfl⟩
      | true h =>
        have hx := at_of h.cons.1.2
        have q0 : q < s.size := by omega
        have C := fun wr => Lib.hid (parseLiteral_calls s (by omega) q (q + 4) (by omega) (by omega) (fun _ => hend'.out.nolet) (h.low low_true) wr)
        clear h
        go_wp2_with (first | (go_at_call 104; refine ((C _).out).mono ?_; rintro e w1 ⟨rfl, h1⟩; obtain ⟨nd2, rfl⟩ := h1.out; clear h1))
        exact ⟨rfl, rfl, rfl, rfl, rfl, _, rfl⟩
      | num h =>
        have hf := h.first
        have q0 : q < s.size := by omega
        have C := fun wr => Lib.hid (parseNumber_calls s (by omega) q ve hle.1 hle.2 (fun _ => hend'.out.stop) (fun k h1 h2 => h.chars k (by omega) h2) wr)
        have hx := at_of (show bt s q = bt s q from rfl)
        obtain ⟨x, hxe⟩ : ∃ x, x = bt s q := ⟨_, rfl⟩
        rw [← hxe] at hf hx
        clear h hxe
        have hf' : x = 45 ∨ x = 48 ∨ x = 49 ∨ x = 50 ∨ x = 51 ∨ x = 52 ∨ x = 53 ∨ x = 54 ∨ x = 55 ∨ x = 56 ∨ x = 57 := by omega
        clear hf
        rcases hf' with rfl | rfl | rfl | rfl | rfl | rfl | rfl | rfl | rfl | rfl | rfl
        all_goals
          go_wp2_with (first | (go_at_call 107; refine ((C _).out).mono ?_; rintro e w1 ⟨rfl, h1⟩; obtain ⟨nd2, rfl⟩ := h1.out; clear h1))
          exact ⟨rfl, rfl, rfl, rfl, rfl, _, rfl⟩
      | @str _ e h1 h2 h3 =>
        have hx := at_of h2
        have q0 : q < s.size := h1
        have C := fun wr => Lib.hid (parseString_calls s (q + 1) e (by omega) (by omega) (by rw [Nat.add_sub_cancel]; exact h2) h3.SB wr)
        rw [Nat.add_sub_cancel] at C
        clear h1 h2 h3
        go_wp2_with (first | (go_at_call 102; refine ((C _).out).mono ?_; rintro e w1 ⟨rfl, h1⟩; obtain ⟨nd2, rfl⟩ := h1.out; clear h1))
        exact ⟨rfl, rfl, rfl, rfl, rfl, _, rfl⟩
      | arr h1 h2 h3 =>
        have hx := at_of h2
        have q0 : q < s.size := h1
        have C := fun nd => Lib.hid (hSq'.out (show (5 : Int) ≤ 5 by decide) nd q ve h1 (by rw [h2]; rfl) h3.sq1)
        clear h1 h2 h3
        go_wp2_with (first | (go_at_call 91; refine ((C _).out).mono ?_; rintro e w1 ⟨rfl, h1⟩; obtain ⟨nd2, rfl⟩ := h1.out; clear h1))
        exact ⟨rfl, rfl, rfl, rfl, rfl, _, rfl⟩
      | obj h1 h2 h3 =>
        have hx := at_of h2
        have q0 : q < s.size := h1
        have C := fun nd => Lib.hid (hSq'.out (show (5 : Int) ≤ 6 by decide) nd q ve h1 (by rw [h2]; rfl) h3.sq1)
        clear h1 h2 h3
        go_wp2_with (first | (go_at_call 91; refine ((C _).out).mono ?_; rintro e w1 ⟨rfl, h1⟩; obtain ⟨nd2, rfl⟩ := h1.out; clear h1))
        exact ⟨rfl, rfl, rfl, rfl, rfl, _, rfl⟩
end Go.Proofs.YtdolnkknlflmeaaGreatDoor.L
