/-
  gjson.parseObject: the scan for a member's name.
-/
import Derived.Test.YtdolnkknlflmeaaGreatDoorZPo0
import Derived.Outline
namespace Go.Proofs.YtdolnkknlflmeaaGreatDoor.L
open Go.RowKit Go.Proofs.YtdolnkknlflmeaaGreatDoorW.PrintWords Go.Proofs.YtdolnkknlflmeaaGreatDoorW.PrintLast Go.Proofs.YtdolnkknlflmeaaGreatDoorW.PrintMore
set_option linter.unusedVariables false
set_option linter.unusedSimpArgs false

@[go_sem] theorem noGoto_exit {Q : Exit → Act → World → Prop} {id : Nat} {a : Act} {w : World} : Exit.noGoto Q (.exit id) a w = Q (.exit id) a w := rfl
/-- The slots of the scan that do not change. -/
def Sc0 (g r b : Nat) (x : Nat → Value) : Prop := x 0 = .pointer (some ⟨g, 0, none⟩) ∧ x 15 = .pointer (some ⟨r, 0, none⟩) ∧ x 16 = .int .i64 (b : Int)
/-- Where the count of backslashes ends. -/
def CountFin (g r b q n : Nat) (w : World) (e : Exit) (t : Array Value) (w' : World) : Prop :=
  e = .exit 8 ∧ t.size = 524 ∧ Sc0 g r b (fun i => t.getD i undef) ∧ t.getD 1 undef = .int .i64 (q : Int) ∧ t.getD 17 undef = .int .i64 (n : Int) ∧ w' = w
set_option maxHeartbeats 8000000 in
set_option maxRecDepth 100000 in
theorem count_loop (g r b q : Nat) (s : ByteArray) (hs : s.size ≤ 1000000) (hb : 0 < b) (h34 : bt s ((b - 1 : Nat) : Int) = 34) (hq : q < s.size) (hbq : b < q) (h92 : bt s ((q - 1 : Nat) : Int) = 92)
    (t : Array Value) (ht : t.size = 524) (h0 : Sc0 g r b (fun i => t.getD i undef)) (f1 : t.getD 1 undef = .int .i64 (q : Int)) (f17 : t.getD 17 undef = .int .i64 0) (f18 : t.getD 18 undef = .int .i64 ((q : Int) - 2)) (w : World) (c0 : w.cell? ⟨g, 0, none⟩ = some (.string s))
    (Q : Exit → Act → World → Prop) (hQ : ∀ e t w', CountFin g r b q (cnt s q - 1) w e t w' → Q e ⟨t, []⟩ w') : Code.wp Tryz.prog (Code.loop (L71 4)) Q ⟨t, []⟩ w := by
  have hc : Aside0 (cnt s q = cnt s (q - 1) + 1 ∧ bt s ((b - 1 : Nat) : Int) = 34) := ⟨by have := cnt_succ_eq s (q - 1) h92; rw [show q - 1 + 1 = q by omega] at this; exact this, h34⟩
  clear h34 h92
  refine wp_loop_ghost_k (In71 fun n f wr => Sc0 g r b f ∧ f 1 = .int .i64 (q : Int) ∧ wr = w ∧ ∃ m : Nat, f 17 = .int .i64 (m : Int) ∧ f 18 = .int .i64 (n : Int) ∧ Aside0 (b ≤ n + 1 ∧ n + 1 < q ∧ m + cnt s (n + 1) = cnt s q - 1 ∧ m + n < q)) (q - 2) ?_ ?_
  · exact In71.mk ht ⟨h0, f1, rfl, 0, f17, by show t.getD 18 undef = _; rw [f18]; congr 1; omega, ⟨by omega, by omega, by rw [show q - 2 + 1 = q - 1 by omega, hc.out.1]; omega, by omega⟩⟩
  · rintro n a wr ⟨f, rfl, ⟨f0, f15, f16⟩, f1, rfl, m, f17, f18, hm⟩ J K hJ hK
    conv => arg 2; whnf
    simp only [FR71, f0, f1, f15, f16, f17, f18]
    clear f0 f1 f15 f16 f17 f18
    clear h0 ht
    cases n with
    | zero =>
      have hn : m = cnt s q - 1 := by
        obtain ⟨k1, k2, k3, k4⟩ := hm.out
        have hb1 : b = 1 := by omega
        have h34 := hc.out.2
        rw [hb1] at h34
        have h0 : bt s ((0 : Nat) : Int) ≠ 92 := by
          have h34' : bt s ((0 : Nat) : Int) = 34 := h34
          rw [h34']; decide
        have := cnt_succ_ne s 0 h0
        rw [this] at k3
        omega
      subst hn
      go_wp2
      exact ⟨rfl, rfl, ⟨rfl, rfl, rfl⟩, rfl, rfl, rfl⟩
    | succ n =>
      have q0 : n + 1 < s.size := by have := hm.out; omega
      by_cases h : bt s ((n + 1 : Nat) : Int) = 92
      · have hx := at_of h
        have hm' : Aside0 (b ≤ n + 1 ∧ n + 1 < q ∧ m + 1 + cnt s (n + 1) = cnt s q - 1 ∧ m + 1 + n < q) := ⟨by
          obtain ⟨k1, k2, k3, k4⟩ := hm.out
          have e := cnt_succ_eq s (n + 1) h
          rw [e] at k3
          refine ⟨?_, by omega, by omega, by omega⟩
          rcases Nat.lt_or_ge (n + 1) b with h3 | h3
          · have h34 := hc.out.2
            rw [show b - 1 = n + 1 by omega, h] at h34
            cases h34
          · exact h3⟩
        have hm1 : m + 1 < 1000000 := by have := hm.out; omega
        clear h
        go_wp2
        refine Handed.intro n (by omega) ?_
        go_step
        refine In71.mk rfl ⟨⟨rfl, rfl, rfl⟩, rfl, rfl, m + 1, rfl, ?_, hm'⟩
        show Value.int .i64 _ = _
        congr 1
      · have hn : m = cnt s q - 1 := by
          obtain ⟨k1, k2, k3, k4⟩ := hm.out
          rw [cnt_succ_ne s (n + 1) h] at k3
          omega
        subst hn
        have hx := at_of (show bt s ((n + 1 : Nat) : Int) = bt s ((n + 1 : Nat) : Int) from rfl)
        obtain ⟨x, hxe⟩ : ∃ x, x = bt s ((n + 1 : Nat) : Int) := ⟨_, rfl⟩
        rw [← hxe] at h hx
        have d1 : (x != 92) = true := bne_iff_ne.mpr h
        clear h hxe
        go_wp2
        exact ⟨rfl, rfl, ⟨rfl, rfl, rfl⟩, rfl, rfl, rfl⟩

/-- At the label: the name, with its marks. -/
def NameAt (g r : Nat) (s : ByteArray) (b a : Nat) (w : World) (a' : Act) (w' : World) : Prop := ∃ f, a' = ⟨FR71 f, []⟩ ∧ Sc0 g r b f ∧ f 1 = .int .i64 ((a + 1 : Nat) : Int) ∧ f 13 = .string (s.extract b a) ∧ f 9 = .bool (hasBs s b a) ∧ f 11 = .bool true ∧ ∃ nd : Nat, w' = w.drewN nd
theorem NameAt.mk {g r b a : Nat} {s : ByteArray} {w w' : World} {t : Array Value} {x : Bool} (ht : t.size = 524) (h : Sc0 g r b (fun i => t.getD i undef)) (h1 : t.getD 1 undef = .int .i64 ((a + 1 : Nat) : Int)) (h13 : t.getD 13 undef = .string (s.extract b a)) (h9 : t.getD 9 undef = .bool x) (hx : hasBs s b a = x) (h11 : t.getD 11 undef = .bool true)
    (hw : ∃ nd : Nat, w' = w.drewN nd) : (0 : Nat) = 0 ∧ NameAt g r s b a w ⟨t, []⟩ w' := ⟨rfl, _, by rw [← FR71_of t ht], h, h1, h13, by rw [hx]; exact h9, h11, hw⟩
/-- Behind a backslash: the scan up to the closing mark. -/
def EscFin (g r b a : Nat) (s : ByteArray) (w : World) (e : Exit) (t : Array Value) (w' : World) : Prop :=
  e = .goto 0 ∧ t.size = 524 ∧ Sc0 g r b (fun i => t.getD i undef) ∧ t.getD 1 undef = .int .i64 ((a + 1 : Nat) : Int) ∧ t.getD 13 undef = .string (s.extract b a) ∧ t.getD 9 undef = .bool true ∧ t.getD 11 undef = .bool true ∧ ∃ nd : Nat, w' = w.drewN nd
set_option maxHeartbeats 8000000 in
set_option maxRecDepth 100000 in
theorem esc_loop (g r b a m : Nat) (s : ByteArray) (hs : s.size ≤ 1000000) (hb : 0 < b) (h34 : bt s ((b - 1 : Nat) : Int) = 34) (ha : a < s.size) (ha34 : bt s a = 34) (hce : cnt s a % 2 = 0) (hq34 : ∀ k : Nat, b ≤ k → k < a → bt s k = 34 → cnt s k % 2 = 1) (hbm : b < m) (hma : m ≤ a)
    (t : Array Value) (ht : t.size = 524) (h0 : Sc0 g r b (fun i => t.getD i undef)) (f1 : t.getD 1 undef = .int .i64 (m : Int)) (w : World) (c0 : w.cell? ⟨g, 0, none⟩ = some (.string s))
    (Q : Exit → Act → World → Prop) (hQ : ∀ e t w', EscFin g r b a s w e t w' → Q e ⟨t, []⟩ w') : Code.wp Tryz.prog (Code.loop (L71 3)) Q ⟨t, []⟩ w := by
  have hC := Aside0.mk (And.intro h34 (And.intro ha34 (And.intro hce hq34)))
  clear h34 ha34 hce hq34
  refine wp_loop_ghost_k (In71 fun n f wr => Sc0 g r b f ∧ ∃ q nd : Nat, f 1 = .int .i64 (q : Int) ∧ wr = w.drewN nd ∧ Aside0 (b < q ∧ q + n = a)) (a - m) ?_ ?_
  · exact In71.mk ht ⟨h0, m, 0, f1, rfl, ⟨by omega, by omega⟩⟩
  · rintro n a' wr ⟨f, rfl, ⟨f0, f15, f16⟩, q, nd, f1, rfl, hm⟩ J K hJ hK
    conv => arg 2; whnf
    simp only [FR71, f0, f1, f15, f16]
    clear f0 f1 f15 f16
    clear h0 ht
    have hbq : b < q := hm.out.1
    have q0 : q < s.size := by have := hm.out; omega
    have q1 : q - 1 < s.size := by omega
    have eq1 : (q : Int) - 1 = ((q - 1 : Nat) : Int) := by omega
    by_cases h34 : bt s q = 34
    case neg =>
      have hqa : q < a := by
        have := hm.out
        rcases Nat.lt_or_ge q a with h | h
        · exact h
        · obtain rfl : q = a := by omega
          exact absurd hC.out.2.1 h34
      have hx := at_of (show bt s q = bt s q from rfl)
      obtain ⟨x, hxe⟩ : ∃ x, x = bt s q := ⟨_, rfl⟩
      rw [← hxe] at h34 hx
      have d1 : (x == 34) = false := beq_eq_false_iff_ne.mpr h34
      clear hxe h34 q1 eq1
      by_cases hgt : x > 92
      · have d3 : decide (x > 92) = true := decide_eq_true hgt
        clear hgt
        go_wp2
        refine Handed.intro (n - 1) (by have := hm.out; omega) ?_
        go_step
        exact In71.mk rfl ⟨⟨rfl, rfl, rfl⟩, q + 1, _, rfl, rfl, ⟨by omega, by have := hm.out; omega⟩⟩
      · have d3 : decide (x > 92) = false := decide_eq_false hgt
        clear hgt
        go_wp2
        refine Handed.intro (n - 1) (by have := hm.out; omega) ?_
        go_step
        exact In71.mk rfl ⟨⟨rfl, rfl, rfl⟩, q + 1, _, rfl, rfl, ⟨by omega, by have := hm.out; omega⟩⟩
    case pos =>
      have hx := at_of h34
      have h34' := Aside0.mk h34
      clear h34
      by_cases h92 : bt s ((q - 1 : Nat) : Int) = 92
      · have hy := at_of h92
        have h92' := Aside0.mk h92
        have d2 : ∀ h : q - 1 < s.size, ((s[q - 1]'h).toNat : Int) = 92 := hy
        clear h92 hy eq1
        have hcq : Aside0 (cnt s q = cnt s (q - 1) + 1) := ⟨by have := cnt_succ_eq s (q - 1) h92'.out; rw [show q - 1 + 1 = q by omega] at this; exact this⟩
        have hcl : Aside0 (cnt s q < q) := ⟨by have := cnt_le s b hb hC.out.1 q (by omega); omega⟩
        go_wp2
        refine count_loop g r b q s hs hb hC.out.1 q0 hbq h92'.out _ ?_ ?_ ?_ ?_ ?_ (w.drewN nd) c0 _ ?_
        · rfl
        · exact ⟨rfl, rfl, rfl⟩
        · rfl
        · rfl
        · rfl
        rintro e t w' ⟨rfl, ht, ⟨f0, f15, f16⟩, f1, f17, rfl⟩
        rw [FR71_of t ht]
        simp only [FR71, f0, f1, f15, f16, f17]
        clear f0 f1 f15 f16 f17 ht
        by_cases hqa : q = a
        · have hp : (((cnt s q - 1 : Nat) : Int) % 2 == 0) = false := beq_eq_false_iff_ne.mpr (by have := hC.out.2.2.1; have := hcq.out; subst hqa; omega)
          obtain ⟨n0, hn0⟩ : ∃ n0, n0 = cnt s q - 1 := ⟨_, rfl⟩
          rw [← hn0] at hp ⊢
          clear hn0
          subst hqa
          have hbq' : b ≤ q := by omega
          go_wp2
          go_quiet (fail)
          go_wp2
          go_step3
          go_wp2
          exact ⟨rfl, rfl, ⟨rfl, rfl, rfl⟩, rfl, rfl, rfl, rfl, _, World.drewN_drewN _ _ _⟩
        · have hlt : q < a := by have := hm.out; omega
          have hp : (((cnt s q - 1 : Nat) : Int) % 2 == 0) = true := beq_iff_eq.mpr (by have := hC.out.2.2.2 q (by omega) hlt h34'.out; have := hcq.out; omega)
          obtain ⟨n0, hn0⟩ : ∃ n0, n0 = cnt s q - 1 := ⟨_, rfl⟩
          rw [← hn0] at hp ⊢
          clear hn0 hqa
          go_wp2
          refine Handed.intro (n - 1) (by have := hm.out; omega) ?_
          go_step
          exact In71.mk rfl ⟨⟨rfl, rfl, rfl⟩, q + 1, _, rfl, rfl, ⟨by omega, by have := hm.out; omega⟩⟩
      · have hqa : q = a := by
          refine Decidable.byContradiction fun hne => h92 ?_
          have hlt : q < a := by have := hm.out; omega
          have := hC.out.2.2.2 q (by omega) hlt h34'.out
          refine Decidable.byContradiction fun hb' => ?_
          have h0 := cnt_succ_ne s (q - 1) hb'
          rw [show q - 1 + 1 = q by omega] at h0
          omega
        have hx1 := at_of (show bt s ((q - 1 : Nat) : Int) = bt s ((q - 1 : Nat) : Int) from rfl)
        obtain ⟨x, hxe⟩ : ∃ x, x = bt s ((q - 1 : Nat) : Int) := ⟨_, rfl⟩
        rw [← hxe] at hx1 h92
        have d1 : (x == 92) = false := beq_eq_false_iff_ne.mpr h92
        clear hxe h92 eq1
        subst hqa
        have hbq' : b ≤ q := by omega
        go_wp2
        go_quiet (fail)
        go_wp2
        go_step3
        go_wp2
        exact ⟨rfl, rfl, ⟨rfl, rfl, rfl⟩, rfl, rfl, rfl, rfl, _, World.drewN_drewN _ _ _⟩

/-- Where the scan ends: the name, with its marks. -/
def ScanFin (g r : Nat) (s : ByteArray) (j a : Nat) (w : World) (e : Exit) (t : Array Value) (w' : World) : Prop :=
  e = .exit 2 ∧ t.size = 524 ∧ t.getD 0 undef = .pointer (some ⟨g, 0, none⟩) ∧ t.getD 15 undef = .pointer (some ⟨r, 0, none⟩) ∧ t.getD 1 undef = .int .i64 ((a + 1 : Nat) : Int) ∧ t.getD 13 undef = .string (s.extract (j + 1) a) ∧
  t.getD 9 undef = .bool (hasBs s (j + 1) a) ∧ t.getD 11 undef = .bool true ∧ ∃ nd : Nat, w' = w.drewN nd
set_option maxHeartbeats 8000000 in
set_option maxRecDepth 100000 in
theorem scan_name (g r : Nat) (s : ByteArray) (hs : s.size ≤ 1000000) (p j a : Nat) (hpj : p ≤ j) (hgap : ∀ q : Nat, p ≤ q → q < j → bt s q ≠ 34 ∧ bt s q ≠ 125) (hj : bt s j = 34) (hS : SB s (j + 1) a)
    (t : Array Value) (ht : t.size = 524) (f0 : t.getD 0 undef = .pointer (some ⟨g, 0, none⟩)) (f15 : t.getD 15 undef = .pointer (some ⟨r, 0, none⟩)) (f1 : t.getD 1 undef = .int .i64 (p : Int)) (w : World) (c0 : w.cell? ⟨g, 0, none⟩ = some (.string s))
    (Q : Exit → Act → World → Prop) (hQ : ∀ e t w', ScanFin g r s j a w e t w' → Q e ⟨t, []⟩ w') : Code.wp Tryz.prog (Code.loop (L71 1)) Q ⟨t, []⟩ w := by
  have hle := hS.le
  have hgap' := Aside0.mk hgap
  have hS' := Aside0.mk hS
  clear hgap hS
  refine wp_loop_ghost_k (In71 fun n f wr => f 0 = .pointer (some ⟨g, 0, none⟩) ∧ f 15 = .pointer (some ⟨r, 0, none⟩) ∧ ∃ q nd : Nat, f 1 = .int .i64 (q : Int) ∧ wr = w.drewN nd ∧ Aside0 (p ≤ q ∧ q + n = j)) (j - p) ?_ ?_
  · exact In71.mk ht ⟨f0, f15, p, 0, f1, rfl, ⟨by omega⟩⟩
  · clear f0 f15 f1
    rintro n a' wr ⟨f, rfl, f0, f15, q, nd, f1, rfl, hq⟩ J K hJ hK
    conv => arg 2; whnf
    simp only [FR71, f0, f1, f15]
    clear f0 f1 f15
    have hq' := hq.out
    by_cases c : q = j
    · subst c
      have hx := at_of hj
      have q0 : q < s.size := by omega
      have hj' := Aside0.mk hj
      clear hj hq'
      go_wp2
      refine wp_scope_fwd 0 (NameAt g r s (q + 1) a w) rfl ?_ ?_
      · go_wp2
        have e1 : (q : Int) + 1 = ((q + 1 : Nat) : Int) := by omega
        obtain ⟨b, hb⟩ : ∃ b : Nat, b = q + 1 := ⟨_, rfl⟩
        rw [← hb] at hS' hle
        rw [e1, ← hb]
        have hB := Aside0.mk hb
        have h34 : Aside0 (0 < b ∧ bt s ((b - 1 : Nat) : Int) = 34) := ⟨by omega, by rw [hb]; exact hj'.out⟩
        have hqq := Aside0.mk (hS'.out.quotes (by rw [cnt_start s b h34.out.1 h34.out.2]))
        clear e1 hb hx q0
        refine wp_loop_ghost_k (In71 fun n f wr => Sc0 g r b f ∧ ∃ m nd : Nat, f 1 = .int .i64 (m : Int) ∧ wr = w.drewN nd ∧ Aside0 (b ≤ m ∧ m + n = a ∧ SB s m a ∧ ∀ k : Nat, b ≤ k → k < m → bt s k ≠ 92)) (a - b) ?_ ?_
        · exact In71.mk rfl ⟨⟨rfl, rfl, rfl⟩, b, _, rfl, rfl, ⟨by omega, by omega, hS'.out, fun k h1 h2 => by omega⟩⟩
        · rintro n a' wr ⟨f, rfl, ⟨f0, f15, f16⟩, m, nd, f1, rfl, hm⟩ J1 K1 hJ1 hK1
          simp only [FR71, f0, f1, f15, f16]
          clear f0 f1 f15 f16
          obtain ⟨m1, m2, m3, m4⟩ := hm.out
          clear hm
          have m4' := Aside0.mk m4
          clear m4
          cases m3 with
          | done g1 g2 =>
            have hx := at_of g2
            have hbs : Aside0 (hasBs s b a = false) := ⟨(hasBs_false s b a).2 m4'.out⟩
            clear g2
            have hba : b ≤ a := m1
            go_wp2
            go_quiet (fail)
            go_wp2
            go_step3
            show (0 : Nat) = 0 ∧ NameAt g r s (q + 1) a w _ _
            rw [← hB.out]
            exact NameAt.mk rfl ⟨rfl, rfl, rfl⟩ rfl rfl rfl hbs.out rfl ⟨_, World.drewN_drewN _ _ _⟩
          | @plain m a g1 g2 g3 =>
            have hl3 := g3.le
            have q0 : m < s.size := by omega
            have hx := at_of (show bt s m = bt s m from rfl)
            have g3' := Aside0.mk g3
            have m5 : Aside0 (∀ k : Nat, b ≤ k → k < m + 1 → bt s k ≠ 92) := ⟨fun k h1 h2 => by
              rcases Nat.lt_or_ge k m with h3 | h3
              · exact m4'.out k h1 h3
              · obtain rfl : k = m := by omega
                exact g2⟩
            obtain ⟨x, hxe⟩ : ∃ x, x = bt s m := ⟨_, rfl⟩
            rw [← hxe] at g1 g2 hx
            have d1 : (x == 34) = false := beq_eq_false_iff_ne.mpr g1
            have d2 : (x == 92) = false := beq_eq_false_iff_ne.mpr g2
            have hl3' := Aside0.mk hl3
            have hm2 := Aside0.mk m2
            clear g3 hxe g1 g2 hl3 m2
            by_cases hgt : x > 92
            · have d3 : decide (x > 92) = true := decide_eq_true hgt
              clear hgt
              go_wp2
              refine Handed.intro (n - 1) (by have := hm2.out; have := hl3'.out; omega) ?_
              go_step
              exact In71.mk rfl ⟨⟨rfl, rfl, rfl⟩, m + 1, _, rfl, rfl, ⟨by omega, by have := hm2.out; have := hl3'.out; omega, g3'.out, m5.out⟩⟩
            · have d3 : decide (x > 92) = false := decide_eq_false hgt
              clear hgt
              go_wp2
              refine Handed.intro (n - 1) (by have := hm2.out; have := hl3'.out; omega) ?_
              go_step
              exact In71.mk rfl ⟨⟨rfl, rfl, rfl⟩, m + 1, _, rfl, rfl, ⟨by omega, by have := hm2.out; have := hl3'.out; omega, g3'.out, m5.out⟩⟩
          | @esc m a g1 g2 =>
            have hl3 := g2.le
            have q0 : m < s.size := by omega
            have hx := at_of g1
            have g1' := Aside0.mk g1
            have hl3' := Aside0.mk hl3
            have hm2 := Aside0.mk m2
            clear g1 g2 hl3 m2
            go_wp2
            refine esc_loop g r b a (m + 1) s hs h34.out.1 h34.out.2 hl3'.out.2.1 hl3'.out.2.2 hqq.out.1 hqq.out.2 (by omega) (by have := hl3'.out; omega) _ ?_ ?_ ?_ (w.drewN nd) c0 _ ?_
            · rfl
            · exact ⟨rfl, rfl, rfl⟩
            · rfl
            rintro e t w' ⟨rfl, ht, h0, h1, h13, h9, h11, nd', rfl⟩
            have hbs : hasBs s b a = true := (hasBs_iff s b a).2 ⟨m, m1, by have := hl3'.out; omega, g1'.out⟩
            show (0 : Nat) = 0 ∧ NameAt g r s (q + 1) a w _ _
            rw [← hB.out]
            exact NameAt.mk ht h0 h1 h13 h9 hbs h11 ⟨_, World.drewN_drewN _ _ _⟩
      · rintro a' w' ⟨f, rfl, ⟨f0, f15, f16⟩, f1, f13, f9, f11, nd, rfl⟩
        simp only [FR71, f0, f1, f15, f13, f9, f11]
        clear f0 f1 f15 f16 f13 f9 f11
        go_wp2
        rw [noGoto_exit]
        go_wp2
        exact ⟨rfl, rfl, rfl, rfl, rfl, rfl, rfl, rfl, _, rfl⟩
    · have g1 := hgap'.out q (by omega) (by omega)
      have q0 : q < s.size := by omega
      have hx := at_of (show bt s q = bt s q from rfl)
      obtain ⟨x, hxe⟩ : ∃ x, x = bt s q := ⟨_, rfl⟩
      rw [← hxe] at g1 hx
      have d1 : (x == 34) = false := beq_eq_false_iff_ne.mpr g1.1
      have d2 : (x == 125) = false := beq_eq_false_iff_ne.mpr g1.2
      have hj' := Aside0.mk hj
      clear hj hq' hxe g1
      go_wp2
      refine Handed.intro (n - 1) (by have := hq.out; omega) ?_
      go_step
      exact In71.mk rfl ⟨rfl, rfl, q + 1, _, rfl, rfl, ⟨by have := hq.out; omega⟩⟩
end Go.Proofs.YtdolnkknlflmeaaGreatDoor.L
