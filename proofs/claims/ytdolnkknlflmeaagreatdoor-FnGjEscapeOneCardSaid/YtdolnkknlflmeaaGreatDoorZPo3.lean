/-
  gjson.parseObject: a member's value taken.
-/
import Derived.Test.YtdolnkknlflmeaaGreatDoorZPo2
namespace Go
@[go_sem] theorem run_store_float {P : Program} {w : World} {a : Addr} {m : Mode} (k : FloatKind) (b : Nat) : (store a (.float k b) m).run P w = stored P w a (.float k b) m := run_store P w a _ m rfl
end Go
namespace Go.Proofs.YtdolnkknlflmeaaGreatDoor.L
open Go.RowKit Go.Proofs.YtdolnkknlflmeaaGreatDoorW.PrintWords Go.Proofs.YtdolnkknlflmeaaGreatDoorW.PrintLast Go.Proofs.YtdolnkknlflmeaaGreatDoorW.PrintMore
set_option linter.unusedVariables false
set_option linter.unusedSimpArgs false

/-- gjson's number for a kind of value. -/
def hitTy (k : Int) : Int := if k = 1 then 1 else if k = 2 then 4 else if k = 3 then 2 else if k = 4 then 3 else if k = 5 ∨ k = 6 then 5 else 0
/-- What a Result says of a value at vb .. ve. -/
structure HitOk (NUM : ByteArray → Nat) (s : ByteArray) (v : S48) (vb ve : Nat) (ty : Int) (raw str : ByteArray) (num : Nat) : Prop where
  hty : ty = hitTy v.f0
  hraw : raw = s.extract vb ve
  str4 : v.f0 = 4 → Un (s.extract (vb + 1) (ve - 1)) 0 (bytesOf str)
  hstr : v.f0 ≠ 4 → str = ⟨#[]⟩
  num3 : v.f0 = 3 → num = NUM raw
  hnum : v.f0 ≠ 3 → num = 0
theorem HitOk.plain {NUM : ByteArray → Nat} {s : ByteArray} (ty : Int) (k a b : Int) (ns : List S84) {ks : List S48} {vb ve : Nat} (h : ty = hitTy k) (h4 : ¬ k = 4) (h3 : ¬ k = 3) : HitOk NUM s ⟨k, a, b, ns, ks⟩ vb ve ty (s.extract vb ve) ⟨#[]⟩ 0 :=
  ⟨h, rfl, fun e => absurd e h4, fun _ => rfl, fun e => absurd e h3, fun _ => rfl⟩
theorem HitOk.numb {NUM : ByteArray → Nat} {s : ByteArray} (a b : Int) (ns : List S84) (ks : List S48) {vb ve : Nat} : HitOk NUM s ⟨3, a, b, ns, ks⟩ vb ve 2 (s.extract vb ve) ⟨#[]⟩ (NUM (s.extract vb ve)) :=
  ⟨rfl, rfl, fun e => absurd e (show ¬ (3 : Int) = 4 by decide), fun _ => rfl, fun _ => rfl, fun e => absurd rfl e⟩
theorem HitOk.strg {NUM : ByteArray → Nat} {s : ByteArray} (a b : Int) (ns : List S84) (ks : List S48) (x : ByteArray) {vb ve : Nat} (h : Un (s.extract (vb + 1) (ve - 1)) 0 (bytesOf x)) : HitOk NUM s ⟨4, a, b, ns, ks⟩ vb ve 3 (s.extract vb ve) x 0 :=
  ⟨rfl, rfl, fun _ => h, fun e => absurd rfl e, fun e => absurd e (show ¬ (4 : Int) = 3 by decide), fun _ => rfl⟩
/-- ParseFloat at worlds in which nothing but block g was written since w. -/
def PfAt (NUM : ByteArray → Nat) (raw : ByteArray) (g : Nat) (w : World) : Prop := ∀ wr, KeepBut w wr g none → Calls Tryz.prog 108 #[.string raw, .int .i64 64] wr fun e w' => ∃ err : Value, e = .returned (.tuple #[.float .f64 (NUM raw), err]) ∧ Below wr.heap.size wr w'
theorem keep_drewN (w : World) (n g : Nat) : KeepBut w (w.drewN n) g none := ⟨Nat.le_refl _, fun _ _ _ _ => rfl⟩
theorem extract_in (s : ByteArray) (q e : Nat) (h : q + 1 ≤ e) (he : e < s.size) : (s.extract q (e + 1)).extract 1 (e + 1 - q - 1) = s.extract (q + 1) e := by
  rw [ByteArray.extract_extract]
  congr 1
  omega
/-- A world in which, since w, block g alone was written; its cells. -/
def St3 (g : Nat) (w0 w : World) (cs : Array Value) (w' : World) : Prop := Blk w' g 112 cs ∧ Below w0.heap.size w0 w' ∧ KeepBut w w' g none
theorem St3.start {g : Nat} {w0 w : World} {cs : Array Value} (hC : Blk w g 112 cs) (hB : Below w0.heap.size w0 w) (n : Nat) : St3 g w0 w cs (w.drewN n) := ⟨hC.drewN n, pw_below_drewN hB n, keep_drewN w n g⟩
theorem St3.set {g : Nat} {w0 w w' : World} {cs : Array Value} (h : St3 g w0 w cs w') (hge : w0.heap.size ≤ g) (i : Nat) (u : Value) : St3 g w0 w (cs.setIfInBounds i u) (w'.setCell ⟨g, i, none⟩ u) :=
  ⟨h.1.set_ i u, h.2.1.setCell hge u, h.2.2.set_ i u⟩
theorem St3.grow {g : Nat} {w0 w w' w2 : World} {cs : Array Value} (h : St3 g w0 w cs w') (hb : Below w'.heap.size w' w2) : St3 g w0 w cs w2 :=
  ⟨h.1.below hb h.1.lt, below_then h.2.1 h.2.1.size hb, h.2.2.trans (KeepBut.of_below hb g none) (.inl rfl)⟩
/-- Where the value sought is taken. -/
def HitFin (NUM : ByteArray → Nat) (g : Nat) (s : ByteArray) (v : S48) (vb ve : Nat) (w0 w : World) (e : Exit) (t : Array Value) (w' : World) : Prop :=
  e = .ret ∧ t.size = 524 ∧ t.getD 6 undef = .int .i64 (ve : Int) ∧ t.getD 7 undef = .bool true ∧ ∃ ty raw str num, HitOk NUM s v vb ve ty raw str num ∧ St3 g w0 w (pcC s ty raw str num vb) w'
set_option maxHeartbeats 16000000 in
set_option maxRecDepth 100000 in
theorem val_hit (NUM : ByteArray → Nat) (g : Nat) (s : ByteArray) (hs : s.size ≤ 1000000) (p vb ve : Nat) (v : S48) (hpv : p ≤ vb) (hgap : ∀ q : Nat, p ≤ q → q < vb → NoVal (bt s q)) (hv : JV s vb ve v) (hve : ve < s.size) (hend : EndC (bt s ve))
    (t : Array Value) (ht : t.size = 524) (f0 : t.getD 0 undef = .pointer (some ⟨g, 0, none⟩)) (f1 : t.getD 1 undef = .int .i64 (p : Int)) (f8 : t.getD 8 undef = .bool true) (f12 : t.getD 12 undef = .bool true) (w0 w : World) (hC : Blk w g 112 (pcZ s))
    (hge : w0.heap.size ≤ g) (hB : Below w0.heap.size w0 w) (hSq : 5 ≤ v.f0 → SqAt s w) (hUn : v.f0 = 4 → ∃ x : ByteArray, Un (s.extract (vb + 1) (ve - 1)) 0 (bytesOf x)) (hPf : v.f0 = 3 → PfAt NUM (s.extract vb ve) g w)
    (Q : Exit → Act → World → Prop) (hQ : ∀ e t w', HitFin NUM g s v vb ve w0 w e t w' → Q e ⟨t, []⟩ w') : Code.wp Tryz.prog (Code.loop (L71 5)) Q ⟨t, []⟩ w := by
  have hle := hv.le
  have hgap' := Aside0.mk hgap
  have hend' := Aside0.mk hend
  have hSq' := Aside0.mk hSq
  have hUn' := Aside0.mk hUn
  have hPf' := Aside0.mk hPf
  have hC' := Aside0.mk hC
  have hB' := Aside0.mk hB
  have hlt := hC.lt
  have c0 := hC.cell 0
  have c1 := hC.cell 1
  have c2 := hC.cell 2
  have c3 := hC.cell 3
  have c4 := hC.cell 4
  have c5 := hC.cell 5
  simp [pcZ, pcC] at c0 c1 c2 c3 c4 c5
  have z1 := hC.frozen 1
  have z2 := hC.frozen 2
  have z3 := hC.frozen 3
  have z4 := hC.frozen 4
  have z5 := hC.frozen 5
  clear hgap hend hSq hUn hPf hC hB
  refine wp_loop_ghost_k (In71 fun n f wr => f 0 = .pointer (some ⟨g, 0, none⟩) ∧ f 8 = .bool true ∧ f 12 = .bool true ∧ ∃ q nd : Nat, f 1 = .int .i64 (q : Int) ∧ wr = w.drewN nd ∧ Aside0 (p ≤ q ∧ q + n = vb)) (vb - p) ?_ ?_
  · exact In71.mk ht ⟨f0, f8, f12, p, 0, f1, rfl, ⟨by omega⟩⟩
  · clear f0 f1 f8 f12
    rintro n a' wr ⟨f, rfl, f0, f8, f12, q, nd, f1, rfl, hq⟩ J K hJ hK
    conv => arg 2; whnf
    simp only [FR71, f0, f1, f8, f12]
    clear f0 f1 f8 f12
    by_cases c : q < vb
    · obtain ⟨x1, x2, x3, x4, x5, x6, x7, x8, x9, x10, x11, x12, x13, x14, x15, x16, x17, x18, x19, x20, x21⟩ := hgap'.out q hq.out.1 c
      have q0 : q < s.size := by omega
      have hx := at_of (show bt s q = bt s q from rfl)
      obtain ⟨x, hxe⟩ : ∃ x, x = bt s q := ⟨_, rfl⟩
      rw [← hxe] at x1 x2 x3 x4 x5 x6 x7 x8 x9 x10 x11 x12 x13 x14 x15 x16 x17 x18 x19 x20 x21 hx
      clear hxe
      go_wp2
      refine Handed.intro (n - 1) (by have := hq.out; omega) ?_
      go_step
      exact In71.mk rfl ⟨rfl, rfl, rfl, q + 1, _, rfl, rfl, ⟨by have := hq.out; omega⟩⟩
    · have hqv : q = vb := by have := hq.out; omega
      subst hqv
      clear c hgap'
      cases hv with
      | null h =>
        have hx := at_of h.cons.1.2
        have hy := at_of h.cons.2.cons.1.2
        have q1 : q + 1 < s.size := by omega
        have q0 : q < s.size := by omega
        have hz : (s.extract q (q + 4)).size = 4 := by simp; omega
        have C := fun wr => Lib.hid (parseLiteral_calls s (by omega) q (q + 4) (by omega) (by omega) (fun _ => hend'.out.nolet) (h.low low_null) wr)
        clear h
        go_wp2_with (first | (go_at_call 104; refine ((C _).out).mono ?_; rintro e w1 ⟨rfl, h1⟩; obtain ⟨nd2, rfl⟩ := h1.out; clear h1))
        exact ⟨rfl, rfl, rfl, rfl, 0, _, _, 0, HitOk.plain 0 _ _ _ _ (by decide) (by decide) (by decide), ((St3.start hC'.out hB'.out _).set hge 2 _).set hge 5 _⟩
      | false h =>
        have hx := at_of h.cons.1.2
        have q0 : q < s.size := by omega
        have hz : (s.extract q (q + 5)).size = 5 := by simp; omega
        have C := fun wr => Lib.hid (parseLiteral_calls s (by omega) q (q + 5) (by omega) (by omega) (fun _ => hend'.out.nolet) (h.low low_false) wr)
        clear h
        go_wp2_with (first | (go_at_call 104; refine ((C _).out).mono ?_; rintro e w1 ⟨rfl, h1⟩; obtain ⟨nd2, rfl⟩ := h1.out; clear h1))
        exact ⟨rfl, rfl, rfl, rfl, 1, _, _, 0, HitOk.plain 1 _ _ _ _ (by decide) (by decide) (by decide), (((St3.start hC'.out hB'.out _).set hge 2 _).set hge 5 _).set hge 1 _⟩
      | true h =>
        have hx := at_of h.cons.1.2
        have q0 : q < s.size := by omega
        have hz : (s.extract q (q + 4)).size = 4 := by simp; omega
        have C := fun wr => Lib.hid (parseLiteral_calls s (by omega) q (q + 4) (by omega) (by omega) (fun _ => hend'.out.nolet) (h.low low_true) wr)
        clear h
        go_wp2_with (first | (go_at_call 104; refine ((C _).out).mono ?_; rintro e w1 ⟨rfl, h1⟩; obtain ⟨nd2, rfl⟩ := h1.out; clear h1))
        exact ⟨rfl, rfl, rfl, rfl, 4, _, _, 0, HitOk.plain 4 _ _ _ _ (by decide) (by decide) (by decide), (((St3.start hC'.out hB'.out _).set hge 2 _).set hge 5 _).set hge 1 _⟩
      | num h =>
        have hf := h.first
        have q0 : q < s.size := by omega
        have hz : (s.extract q ve).size = ve - q := by simp; omega
        have C := fun wr => Lib.hid (parseNumber_calls s (by omega) q ve hle.1 hle.2 (fun _ => hend'.out.stop) (fun k h1 h2 => h.chars k (by omega) h2) wr)
        have CP := hPf'.out rfl
        have CP' := Lib.hid CP
        have hx := at_of (show bt s q = bt s q from rfl)
        obtain ⟨x, hxe⟩ : ∃ x, x = bt s q := ⟨_, rfl⟩
        rw [← hxe] at hf hx
        clear h hxe CP
        have hf' : x = 45 ∨ x = 48 ∨ x = 49 ∨ x = 50 ∨ x = 51 ∨ x = 52 ∨ x = 53 ∨ x = 54 ∨ x = 55 ∨ x = 56 ∨ x = 57 := by omega
        clear hf
        go_upto_block 12 with (fail)
        refine wp_cut (In71 (fun _ f w' => f 0 = .pointer (some ⟨g, 0, none⟩) ∧ f 1 = .int .i64 (q : Int) ∧ f 12 = .bool true ∧ f 19 = .bool true ∧ w' = w.drewN nd) 0) ?_ ?_
        · rintro a' w' ⟨f, rfl, f0, f1, f12, f19, rfl⟩
          simp only [FR71, f0, f1, f12, f19]
          clear f0 f1 f12 f19 hf'
          go_wp2_with (first | (go_at_call 107; refine ((C _).out).mono ?_; rintro e w1 ⟨rfl, h1⟩; obtain ⟨nd2, rfl⟩ := h1.out; clear h1) | (go_at_call 108; refine (CP'.out _ ((((St3.start hC'.out hB'.out _).set hge 2 _).set hge 5 _).set hge 1 _).2.2).mono ?_; rintro e w3 ⟨err, rfl, h1⟩; have S3 := Aside0.mk (((((St3.start hC'.out hB'.out _).set hge 2 _).set hge 5 _).set hge 1 _).grow h1); clear h1; have d4 := S3.out.1.cell 4; simp [pcZ, pcC] at d4; have y4 := S3.out.1.frozen 4))
          have S4 := S3.out
          rw [show (ve : Int) - ((ve - q : Nat) : Int) = (q : Int) by omega] at S4
          exact ⟨rfl, rfl, rfl, rfl, 2, _, _, NUM (s.extract q ve), HitOk.numb _ _ _ _, S4.set hge 4 _⟩
        · intro J2 K2 hJ2 hK2
          rcases hf' with rfl | rfl | rfl | rfl | rfl | rfl | rfl | rfl | rfl | rfl | rfl
          all_goals
            go_wp2
            refine Met.intro ?_
            go_step
            exact In71.mk rfl ⟨rfl, rfl, rfl, rfl, rfl⟩
      | @str _ e h1 h2 h3 =>
        have hx := at_of h2
        have q0 : q < s.size := h1
        have C := fun wr => Lib.hid (parseString_calls s (q + 1) e (by omega) (by omega) (by rw [Nat.add_sub_cancel]; exact h2) h3.SB wr)
        rw [Nat.add_sub_cancel] at C
        have hle3 : q + 1 ≤ e := h3.le.1
        have hle4 : e < s.size := h3.le.2.1
        have hz : (s.extract q (e + 1)).size = e + 1 - q := by simp; omega
        have hin := Aside0.mk (extract_in s q e hle3 hle4)
        obtain ⟨x, hx0⟩ := hUn'.out rfl
        have hx1 := Aside0.mk hx0
        have CU : ∀ wr, Hid (Calls Tryz.prog 103 #[.string ((s.extract q (e + 1)).extract 1 (e + 1 - q - 1))] wr fun e w' => e = .returned (.string x) ∧ Below wr.heap.size wr w') := fun wr => Lib.hid (by
          have := unescape_calls (s.extract (q + 1) e) (by simp; omega) (bytesOf x) hx0 wr
          rw [strOfNums_bytesOf] at this
          rw [hin.out]
          exact this)
        clear h1 h2 h3 hx0
        cases hb : hasBs s (q + 1) e with
        | false =>
          rw [hb] at C
          have hb' := Aside0.mk hb
          clear hb CU
          go_wp2_with (first | (go_at_call 102; refine ((C _).out).mono ?_; rintro e w1 ⟨rfl, h1⟩; obtain ⟨nd2, rfl⟩ := h1.out; clear h1))
          rw [show (e : Int) + 1 - ((e + 1 - q : Nat) : Int) = (q : Int) by omega]
          refine ⟨rfl, rfl, rfl, rfl, 3, _, _, 0, HitOk.strg _ _ _ _ _ ?_, ((((St3.start hC'.out hB'.out _).set hge 3 _).set hge 2 _).set hge 5 _).set hge 1 _⟩
          have hxs : x = s.extract (q + 1) e := Un_same hx1.out (fun k hk => by
            have hk' : k < e - (q + 1) := by simp at hk; omega
            rw [bt_extract s (q + 1) e k (by omega) (by omega)]
            exact (hasBs_false s (q + 1) e).1 hb'.out (q + 1 + k) (by omega) (by omega))
          rw [hin.out, ← hxs]
          exact hx1.out
        | true =>
          rw [hb] at C
          have hb' := Aside0.mk hb
          clear hb
          go_wp2_with (first | (go_at_call 102; refine ((C _).out).mono ?_; rintro e w1 ⟨rfl, h1⟩; obtain ⟨nd2, rfl⟩ := h1.out; clear h1) | (go_at_call 103; refine ((CU _).out).mono ?_; rintro e w3 ⟨rfl, h1⟩; have hb3 := Aside0.mk h1; have hC3 := Aside0.mk ((hC'.out.drewN (nd + nd2)).below h1 hlt); clear h1; have c0 := hC3.out.cell 0; have c1 := hC3.out.cell 1; have c2 := hC3.out.cell 2; have c3 := hC3.out.cell 3; have c4 := hC3.out.cell 4; have c5 := hC3.out.cell 5; simp [pcZ, pcC] at c0 c1 c2 c3 c4 c5; have z1 := hC3.out.frozen 1; have z2 := hC3.out.frozen 2; have z3 := hC3.out.frozen 3; have z4 := hC3.out.frozen 4; have z5 := hC3.out.frozen 5))
          rw [show (e : Int) + 1 - ((e + 1 - q : Nat) : Int) = (q : Int) by omega]
          exact ⟨rfl, rfl, rfl, rfl, 3, _, _, 0, HitOk.strg _ _ _ _ _ hx1.out, (((((St3.start hC'.out hB'.out _).grow hb3.out).set hge 3 _).set hge 2 _).set hge 5 _).set hge 1 _⟩
      | arr h1 h2 h3 =>
        have hx := at_of h2
        have q0 : q < s.size := h1
        have hz : (s.extract q ve).size = ve - q := by simp; omega
        have C := fun nd => Lib.hid (hSq'.out (show (5 : Int) ≤ 5 by decide) nd q ve h1 (by rw [h2]; rfl) h3.sq1)
        clear h1 h2 h3
        go_wp2_with (first | (go_at_call 91; refine ((C _).out).mono ?_; rintro e w1 ⟨rfl, h1⟩; obtain ⟨nd2, rfl⟩ := h1.out; clear h1))
        rw [show (ve : Int) - ((ve - q : Nat) : Int) = (q : Int) by omega]
        exact ⟨rfl, rfl, rfl, rfl, 5, _, _, 0, HitOk.plain 5 _ _ _ _ (by show (5 : Int) = hitTy 5; decide) (by show ¬ (5 : Int) = 4; decide) (by show ¬ (5 : Int) = 3; decide), (((St3.start hC'.out hB'.out _).set hge 2 _).set hge 5 _).set hge 1 _⟩
      | obj h1 h2 h3 =>
        have hx := at_of h2
        have q0 : q < s.size := h1
        have hz : (s.extract q ve).size = ve - q := by simp; omega
        have C := fun nd => Lib.hid (hSq'.out (show (5 : Int) ≤ 6 by decide) nd q ve h1 (by rw [h2]; rfl) h3.sq1)
        clear h1 h2 h3
        go_wp2_with (first | (go_at_call 91; refine ((C _).out).mono ?_; rintro e w1 ⟨rfl, h1⟩; obtain ⟨nd2, rfl⟩ := h1.out; clear h1))
        rw [show (ve : Int) - ((ve - q : Nat) : Int) = (q : Int) by omega]
        exact ⟨rfl, rfl, rfl, rfl, 5, _, _, 0, HitOk.plain 5 _ _ _ _ (by show (5 : Int) = hitTy 6; decide) (by show ¬ (6 : Int) = 4; decide) (by show ¬ (6 : Int) = 3; decide), (((St3.start hC'.out hB'.out _).set hge 2 _).set hge 5 _).set hge 1 _⟩
end Go.Proofs.YtdolnkknlflmeaaGreatDoor.L
