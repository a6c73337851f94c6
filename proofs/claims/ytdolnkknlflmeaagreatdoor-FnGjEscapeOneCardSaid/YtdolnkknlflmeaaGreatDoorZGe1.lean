/-
  gjson.Get at an object, by a component that Escape has made.
-/
import Derived.Test.YtdolnkknlflmeaaGreatDoorZPo4
import Derived.Outline
namespace Go.Proofs.YtdolnkknlflmeaaGreatDoor.L
open Go.RowKit Go.Proofs.YtdolnkknlflmeaaGreatDoorW.PrintWords Go.Proofs.YtdolnkknlflmeaaGreatDoorW.PrintLast Go.Proofs.YtdolnkknlflmeaaGreatDoorW.PrintMore
set_option linter.unusedVariables false
set_option linter.unusedSimpArgs false

/-- A frame of function 37. -/
def FR37 (f : Nat → Value) : Array Value := #[f 0, f 1, f 2, f 3, f 4, f 5, f 6, f 7, f 8, f 9, f 10, f 11, f 12, f 13, f 14, f 15, f 16, f 17, f 18, f 19, f 20, f 21, f 22, f 23, f 24, f 25, f 26, f 27, f 28, f 29, f 30, f 31, f 32, f 33, f 34, f 35, f 36, f 37, f 38, f 39, f 40, f 41, f 42, f 43, f 44, f 45, f 46, f 47, f 48, f 49, f 50, f 51, f 52, f 53, f 54, f 55, f 56, f 57, f 58, f 59, f 60, f 61, f 62, f 63, f 64, f 65, f 66, f 67, f 68, f 69, f 70, f 71, f 72, f 73, f 74, f 75, f 76, f 77, f 78, f 79, f 80, f 81, f 82, f 83, f 84, f 85, f 86, f 87, f 88, f 89, f 90, f 91, f 92, f 93, f 94, f 95, f 96, f 97, f 98, f 99, f 100, f 101, f 102, f 103, f 104, f 105, f 106, f 107, f 108, f 109, f 110, f 111, f 112, f 113, f 114, f 115, f 116, f 117, f 118, f 119, f 120, f 121, f 122, f 123, f 124, f 125, f 126, f 127, f 128, f 129, f 130, f 131, f 132, f 133, f 134, f 135, f 136, f 137, f 138, f 139, f 140, f 141, f 142, f 143, f 144, f 145, f 146, f 147, f 148, f 149, f 150, f 151, f 152, f 153, f 154, f 155, f 156, f 157, f 158, f 159, f 160, f 161, f 162, f 163, f 164, f 165, f 166, f 167, f 168, f 169, f 170, f 171, f 172, f 173, f 174, f 175, f 176, f 177, f 178, f 179, f 180, f 181, f 182, f 183, f 184, f 185, f 186, f 187, f 188, f 189, f 190, f 191, f 192, f 193, f 194, f 195, f 196, f 197, f 198, f 199, f 200, f 201, f 202, f 203, f 204, f 205, f 206, f 207, f 208, f 209, f 210, f 211, f 212, f 213, f 214, f 215, f 216, f 217, f 218, f 219, f 220, f 221, f 222, f 223, f 224, f 225, f 226, f 227, f 228, f 229, f 230, f 231, f 232, f 233, f 234, f 235, f 236, f 237, f 238, f 239, f 240, f 241, f 242, f 243, f 244, f 245, f 246, f 247, f 248, f 249, f 250, f 251, f 252, f 253, f 254, f 255, f 256, f 257, f 258, f 259, f 260, f 261, f 262, f 263, f 264, f 265, f 266, f 267, f 268, f 269, f 270, f 271, f 272, f 273, f 274, f 275, f 276, f 277, f 278, f 279]
set_option maxRecDepth 100000 in
theorem FR37_map (f : Nat → Value) : FR37 f = ((List.range 280).map f).toArray := by kernel_rfl
theorem FR37_of (t : Array Value) (h : t.size = 280) : t = FR37 (fun i => t.getD i undef) := by
  rw [FR37_map]
  apply Array.ext
  · simp [h]
  · intro i h1 h2
    simp [Array.getD_eq_getD_getElem?, h1]
/-- What a loop or a cut hands on, over such frames. -/
def In37 (R : Nat → (Nat → Value) → World → Prop) (n : Nat) (a : Act) (w : World) : Prop := ∃ f, a = ⟨FR37 f, []⟩ ∧ R n f w
theorem In37.mk {R : Nat → (Nat → Value) → World → Prop} {n : Nat} {t : Array Value} {w : World} (h : t.size = 280) (hR : R n (fun i => t.getD i undef) w) : In37 R n ⟨t, []⟩ w := ⟨_, by rw [← FR37_of t h], hR⟩

noncomputable def L37 (n : Nat) : Code := ((Tryz.f37.body.map loopsOf).getD []).getD n .skip
/-- What existed is as it was. -/
def Old (w w' : World) : Prop := ∀ i, i < w.heap.size → w'.heap[i]? = w.heap[i]?
theorem Old.of_keep {w w2 wr : World} {g : Nat} (hb : Below w.heap.size w w2) (hg : w.heap.size ≤ g) (h : KeepBut w2 wr g none) : Old w wr := fun i hi => by
  rw [h.2 i (Nat.lt_of_lt_of_le hi hb.size) (by omega) (by simp)]
  exact hb.block i hi
/-- A Result. -/
def gjV (ty : Int) (raw str : ByteArray) (num : Nat) (idx : Int) : Value := .agg #[.int .i64 ty, .string raw, .string str, .float .f64 num, .int .i64 idx, .slice none 0 0]
def GetFin (NUM : ByteArray → Nat) (s : ByteArray) (w : World) (xs : List ByteArray) (ks : List S48) (part : ByteArray) (en : Ending) (w' : World) : Prop :=
  Below w.heap.size w w' ∧ ((findM xs ks part = none ∧ en = .returned (gjV 0 ⟨#[]⟩ ⟨#[]⟩ 0 0)) ∨
  (∃ (v : S48) (vb ve : Nat) (ty : Int) (raw str : ByteArray) (num : Nat), findM xs ks part = some v ∧ JV s vb ve v ∧ en = .returned (gjV ty raw str num vb) ∧ HitOk NUM s v vb ve ty raw str num))
theorem escL_first : ∀ (L : List Int) (h : 0 < (escL L).length), ∃ c, (escL L)[0] = c ∧ (c == 64) = false ∧ (c == 33) = false ∧ (c == 91) = false ∧ (c == 123) = false ∧ (c == 46) = false
  | [], h => by simp [escL] at h
  | c :: t, h => by
    have key : safeB c = true → (c == 64) = false ∧ (c == 33) = false ∧ (c == 91) = false ∧ (c == 123) = false ∧ (c == 46) = false := by
      intro hs
      refine ⟨?_, ?_, ?_, ?_, ?_⟩ <;> (refine beq_eq_false_iff_ne.mpr ?_; rintro rfl; revert hs; decide)
    by_cases hs : safeB c = true
    · exact ⟨c, by simp [escL, hs], key hs⟩
    · exact ⟨92, by simp [escL, hs], rfl, rfl, rfl, rfl, rfl⟩
/-- The first byte of a component that Escape has made. -/
theorem esc_first (s : ByteArray) (h : 0 < (escS s).size) : ∃ c, bt (escS s) ((0 : Nat) : Int) = c ∧ (c == 64) = false ∧ (c == 33) = false ∧ (c == 91) = false ∧ (c == 123) = false ∧ (c == 46) = false := by
  have hL := byt_bytesOf s
  unfold escS at h ⊢
  rw [strOfNums_size] at h
  rw [bt_strOfNums _ (byt_esc hL) 0 h]
  exact escL_first _ h
/-- Behind the search for the object's brace: parseObject has done its work. -/
def GlFin (NUM : ByteArray → Nat) (g r0 : Nat) (s : ByteArray) (w0 w : World) (xs : List ByteArray) (ks : List S48) (part : ByteArray) (e0 : Nat) (e : Exit) (t : Array Value) (w' : World) : Prop :=
  e = .exit 2 ∧ t.size = 280 ∧ t.getD 4 undef = .pointer (some ⟨r0, 0, none⟩) ∧ t.getD 21 undef = .pointer (some ⟨g, 0, none⟩) ∧ ∃ en, PoFin NUM g s w0 w xs ks part e0 en w'
set_option maxHeartbeats 8000000 in
set_option maxRecDepth 100000 in
theorem get_loop (NUM : ByteArray → Nat) (g r0 : Nat) (s p part : ByteArray) (hs : s.size ≤ 1000000) (b e0 : Nat) (ks : List S48) (xs : List ByteArray) (hb : Bl s 0 b) (hbs : b < s.size) (hb3 : bt s b = 123) (w0 w : World)
    (hPO : Calls Tryz.prog 71 #[.pointer (some ⟨g, 0, none⟩), .int .i64 ((b + 1 : Nat) : Int), .string p] w (PoFin NUM g s w0 w xs ks part e0)) (c0 : w.cell? ⟨g, 0, none⟩ = some (.string s))
    (t : Array Value) (ht : t.size = 280) (f1 : t.getD 1 undef = .string p) (f4 : t.getD 4 undef = .pointer (some ⟨r0, 0, none⟩)) (f20 : t.getD 20 undef = .int .i64 0) (f21 : t.getD 21 undef = .pointer (some ⟨g, 0, none⟩))
    (Q : Exit → Act → World → Prop) (hQ : ∀ e t w', GlFin NUM g r0 s w0 w xs ks part e0 e t w' → Q e ⟨t, []⟩ w') : Code.wp Tryz.prog (Code.loop (L37 1)) Q ⟨t, []⟩ w := by
  have hb' := Aside0.mk hb
  have hPO' := Lib.hid hPO
  clear hb hPO
  refine wp_loop_ghost_k (In37 fun n f wr => f 1 = .string p ∧ f 4 = .pointer (some ⟨r0, 0, none⟩) ∧ f 21 = .pointer (some ⟨g, 0, none⟩) ∧ ∃ q : Nat, f 20 = .int .i64 (q : Int) ∧ wr = w ∧ Aside0 (q + n = b)) b ?_ ?_
  · exact In37.mk ht ⟨f1, f4, f21, 0, f20, rfl, ⟨by omega⟩⟩
  · clear f1 f4 f20 f21
    rintro n a' wr ⟨f, rfl, f1, f4, f21, q, f20, rfl, hq⟩ J K hJ hK
    conv => arg 2; whnf
    simp only [FR37, f1, f4, f20, f21]
    clear f1 f4 f20 f21
    have hq' := hq.out
    have q0 : q < s.size := by omega
    by_cases c : q = b
    · subst c
      have hx := at_of hb3
      clear hb3 hq'
      go_wp2_with (first | (go_at_call 71; refine (hPO'.out).mono ?_; rintro en w1 h1; have hP := Aside0.mk h1; rcases h1 with ⟨hf, rfl, hst⟩ | ⟨v, vb, ve, ty, raw, str, num, hf, hv, rfl, hO, hst⟩ <;> clear hst))
      all_goals exact ⟨rfl, rfl, rfl, rfl, _, hP.out⟩
    · have g1 := hb'.out.2.2 q (by omega) (by omega)
      have hx := at_of (show bt s q = bt s q from rfl)
      obtain ⟨x, hxe⟩ : ∃ x, x = bt s q := ⟨_, rfl⟩
      rw [← hxe] at g1 hx
      have d1 : (x == 123) = false := beq_eq_false_iff_ne.mpr (by unfold Blc at g1; omega)
      have d2 : (x == 91) = false := beq_eq_false_iff_ne.mpr (by unfold Blc at g1; omega)
      have hb3' := Aside0.mk hb3
      clear hb3 hq' hxe g1
      go_wp2
      refine Handed.intro (n - 1) (by have := hq.out; omega) ?_
      go_step
      exact In37.mk rfl ⟨rfl, rfl, rfl, q + 1, rfl, rfl, ⟨by have := hq.out; omega⟩⟩
/-- What Get asks of the object and of what it calls. -/
def GetHyp (NUM : ByteArray → Nat) (s part : ByteArray) (b e0 : Nat) (ns : List S84) (ks : List S48) (xs : List ByteArray) (w : World) : Prop := (Bl s 0 b ∧ b < s.size ∧ bt s b = 123) ∧ MR s true (b + 1) e0 ns ks ∧ All2 (NmOk s) ns xs ∧ ((∃ v, v ∈ ks ∧ 5 ≤ v.f0) → ∀ wr, Old w wr → SqAt s wr) ∧
  (∀ v vb ve, findM xs ks part = some v → JV s vb ve v → (v.f0 = 4 → ∃ x : ByteArray, Un (s.extract (vb + 1) (ve - 1)) 0 (bytesOf x)) ∧ (v.f0 = 3 → ∀ wr, Old w wr → Calls Tryz.prog 108 #[.string (s.extract vb ve), .int .i64 64] wr fun e w' => ∃ err : Value, e = .returned (.tuple #[.float .f64 (NUM (s.extract vb ve)), err]) ∧ Below wr.heap.size wr w'))
def zero72 : Array Value := #[.int .i64 0, .string ⟨#[]⟩, .string ⟨#[]⟩, .float .f64 0, .int .i64 0, .slice none 0 0]
def gjC (ty : Int) (raw str : ByteArray) (num : Nat) (idx : Int) : Array Value := #[.int .i64 ty, .string raw, .string str, .float .f64 num, .int .i64 idx, .slice none 0 0]
theorem size72 : (Tryz.prog.info? 72).map (·.size) = some 6 := by kernel_rfl
set_option maxHeartbeats 8000000 in
set_option maxRecDepth 100000 in
theorem get_tail (NUM : ByteArray → Nat) (s p part : ByteArray) (hs : s.size ≤ 1000000) (hp : part.size ≤ 1000000) (b e0 : Nat) (ns : List S84) (ks : List S48) (xs : List ByteArray) (w : World) (hG : Aside0 (GetHyp NUM s part b e0 ns ks xs w)) (hpe : Aside0 (p = escS part))
    (t : Array Value) (ht : t.size = 280) (f1 : t.getD 1 undef = .string p) (f4 : t.getD 4 undef = .pointer (some ⟨w.heap.size, 0, none⟩)) (f20 : t.getD 20 undef = .int .i64 0) (f21 : t.getD 21 undef = .pointer (some ⟨w.heap.size + 1, 0, none⟩))
    (Q : Exit → Act → World → Prop)
    (hK : ∀ (t' : Array Value) (w' : World), t'.size = 280 → t'.getD 4 undef = .pointer (some ⟨w.heap.size, 0, none⟩) → t'.getD 21 undef = .pointer (some ⟨w.heap.size + 1, 0, none⟩) → Blk w' w.heap.size 72 zero72 → Below w.heap.size w w' →
      ((findM xs ks part = none ∧ Blk w' (w.heap.size + 1) 112 (pcZ s)) ∨ (∃ (v : S48) (vb ve : Nat) (ty : Int) (raw str : ByteArray) (num : Nat), findM xs ks part = some v ∧ JV s vb ve v ∧ HitOk NUM s v vb ve ty raw str num ∧ Blk w' (w.heap.size + 1) 112 (pcC s ty raw str num vb))) → Q (.exit 2) ⟨t', []⟩ w') :
    Code.wp Tryz.prog (Code.loop (L37 1)) Q ⟨t, []⟩ ((w.alloc (.cells zero72 72)).alloc (.cells (pcZ s) 112)) := by
  obtain ⟨hb, hM, hN, hSq, hHit⟩ := hG.out
  have hC : Blk ((w.alloc (.cells zero72 72)).alloc (.cells (pcZ s) 112)) (w.heap.size + 1) 112 (pcZ s) := by
    have := Blk.new (w.alloc (.cells zero72 72)) 112 (pcZ s)
    simpa using this
  have hR : Blk ((w.alloc (.cells zero72 72)).alloc (.cells (pcZ s) 112)) w.heap.size 72 zero72 := (Blk.new w 72 zero72).alloc _
  have hB : Below w.heap.size w ((w.alloc (.cells zero72 72)).alloc (.cells (pcZ s) 112)) := ((Below.refl _ _).alloc (Nat.le_refl _) _).alloc (by simp) _
  obtain ⟨W, hW⟩ : ∃ W, W = ((w.alloc (.cells zero72 72)).alloc (.cells (pcZ s) 112)) := ⟨_, rfl⟩
  rw [← hW] at hC hR hB ⊢
  clear hW
  have hge : w.heap.size ≤ w.heap.size + 1 := Nat.le_succ _
  have hPO : Calls Tryz.prog 71 #[.pointer (some ⟨w.heap.size + 1, 0, none⟩), .int .i64 ((b + 1 : Nat) : Int), .string p] W (PoFin NUM (w.heap.size + 1) s w W xs ks part e0) := by
    rw [hpe.out]
    exact parseObject_calls NUM (w.heap.size + 1) s part hs hp (b + 1) e0 ns ks xs hM hN w W hC hge hB (fun h wr hk => hSq h wr (Old.of_keep hB hge hk))
      (fun v vb ve hf hv => ⟨(hHit v vb ve hf hv).1, fun h3 wr hk => (hHit v vb ve hf hv).2 h3 wr (Old.of_keep hB hge hk)⟩)
  refine get_loop NUM (w.heap.size + 1) w.heap.size s p part hs b e0 ks xs hb.1 hb.2.1 hb.2.2 w W hPO (by rw [hC.cell]; rfl) t ht f1 f4 f20 f21 Q ?_
  rintro e t' w' ⟨rfl, ht', h4, h21, en, hP⟩
  rcases hP with ⟨hf, rfl, hst⟩ | ⟨v, vb, ve, ty, raw, str, num, hf, hv, rfl, hO, hst⟩
  · exact hK t' w' ht' h4 h21 (hst.2.2.blk hR (by omega) (by simp)) hst.2.1 (.inl ⟨hf, hst.1⟩)
  · exact hK t' w' ht' h4 h21 (hst.2.2.blk hR (by omega) (by simp)) hst.2.1 (.inr ⟨v, vb, ve, ty, raw, str, num, hf, hv, hO, hst.1⟩)
set_option maxHeartbeats 8000000 in
set_option maxRecDepth 100000 in
theorem get_object (NUM : ByteArray → Nat) (s part : ByteArray) (hs : s.size ≤ 1000000) (hp : part.size ≤ 1000000) (b e0 : Nat) (ns : List S84) (ks : List S48) (xs : List ByteArray) (w : World) (hG : GetHyp NUM s part b e0 ns ks xs w) :
    Calls Tryz.prog 37 #[.string s, .string (escS part)] w (GetFin NUM s w xs ks part) := by
  have hG' := Aside0.mk hG
  clear hG
  obtain ⟨p, hpe⟩ : ∃ p, p = escS part := ⟨_, rfl⟩
  have hesc := Aside0.mk (esc_first part)
  have hpe' := Aside0.mk hpe
  have hpsz : p.size ≤ 2000000 := by
    rw [hpe]; unfold escS; rw [strOfNums_size]
    have := escL_length (bytesOf part); rw [bytesOf_length] at this; omega
  rw [← hpe] at hesc ⊢
  clear hpe
  by_cases c1 : 1 < p.size
  case' pos =>
    have c0 : 0 < p.size := by omega
    obtain ⟨x, hx0, x1, x2, x3, x4, x5⟩ := hesc.out c0
    have hx := at_of hx0
    clear hx0
    go_enter Tryz.func37, Tryz.ntmps37
    go_wp2
  case' neg =>
    go_enter Tryz.func37, Tryz.ntmps37
    go_wp2
  all_goals
    refine get_tail NUM s p part hs hp b e0 ns ks xs w hG' hpe' _ ?_ ?_ ?_ ?_ ?_ _ ?_
    · rfl
    · rfl
    · rfl
    · rfl
    · rfl
    intro t w' ht h4 h21 hR hB hor
    rw [FR37_of t ht]
    simp only [FR37, h4, h21]
    clear h4 h21 ht
    have hR' := Aside0.mk hR
    have hB' := Aside0.mk hB
    clear hR hB
    rcases hor with ⟨hf, hC⟩ | ⟨v, vb, ve, ty, raw, str, num, hf, hv, hO, hC⟩
    · have hf' := Aside0.mk hf
      have c1 := hC.cell 1
      have c2 := hC.cell 2
      have c3 := hC.cell 3
      have c4 := hC.cell 4
      have c5 := hC.cell 5
      have c6 := hC.cell 6
      have c8 := hC.cell 8
      simp [pcZ, pcC] at c1 c2 c3 c4 c5 c6 c8
      clear hf hC
      go_wp2_with (first | ((with_reducible show wpList _ _ _ (Oper.mk none (Op.store 72 (Operand.tmp 4) (Operand.tmp 279)) _ _ _ _ :: _) _ _); refine wpList_store_blk rfl 72 (.tmp 4) (.tmp 279) rfl w.heap.size (gjC 0 ⟨#[]⟩ ⟨#[]⟩ 0 0) rfl rfl 72 zero72 hR'.out size72 rfl rfl ?_; intro w2 hK2 hg2))
      refine bodyPost_ret (results_blk (p := 4) rfl _ _ w.heap.size 72 (gjC 0 ⟨#[]⟩ ⟨#[]⟩ 0 0) _ rfl hK2 Tryz.underlying72 rfl size72) rfl ?_
      exact ⟨hB'.out.grown hg2 hB'.out.size (fun k hk => by injection hk with hk; omega), .inl ⟨hf'.out, rfl⟩⟩
    · have hf' := Aside0.mk (And.intro hf (And.intro hv hO))
      have c1 := hC.cell 1
      have c2 := hC.cell 2
      have c3 := hC.cell 3
      have c4 := hC.cell 4
      have c5 := hC.cell 5
      have c6 := hC.cell 6
      have c8 := hC.cell 8
      simp [pcZ, pcC] at c1 c2 c3 c4 c5 c6 c8
      clear hf hC hv hO
      go_wp2_with (first | ((with_reducible show wpList _ _ _ (Oper.mk none (Op.store 72 (Operand.tmp 4) (Operand.tmp 279)) _ _ _ _ :: _) _ _); refine wpList_store_blk rfl 72 (.tmp 4) (.tmp 279) rfl w.heap.size (gjC ty raw str num vb) rfl rfl 72 zero72 hR'.out size72 rfl rfl ?_; intro w2 hK2 hg2))
      refine bodyPost_ret (results_blk (p := 4) rfl _ _ w.heap.size 72 (gjC ty raw str num vb) _ rfl hK2 Tryz.underlying72 rfl size72) rfl ?_
      exact ⟨hB'.out.grown hg2 hB'.out.size (fun k hk => by injection hk with hk; omega), .inr ⟨v, vb, ve, ty, raw, str, num, hf'.out.1, hf'.out.2.1, rfl, hf'.out.2.2⟩⟩
end Go.Proofs.YtdolnkknlflmeaaGreatDoor.L
