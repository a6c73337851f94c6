/-
  gjson.parseObject: the members of an object, up to the one sought.
-/
import Derived.Test.YtdolnkknlflmeaaGreatDoorZPo3
import Derived.Deep.RegionWith
namespace Go.Proofs.YtdolnkknlflmeaaGreatDoor.L
open Go.RowKit Go.Proofs.YtdolnkknlflmeaaGreatDoorW.PrintWords Go.Proofs.YtdolnkknlflmeaaGreatDoorW.PrintLast Go.Proofs.YtdolnkknlflmeaaGreatDoorW.PrintMore
set_option linter.unusedVariables false
set_option linter.unusedSimpArgs false

/-- The first member of a name. -/
def findM : List ByteArray → List S48 → ByteArray → Option S48
  | x :: xs, k :: ks, p => if x = p then some k else findM xs ks p
  | _, _, _ => none
inductive All2 {α β : Type} (R : α → β → Prop) : List α → List β → Prop
  | nil : All2 R [] []
  | cons {a : α} {b : β} {l : List α} {m : List β} : R a b → All2 R l m → All2 R (a :: l) (b :: m)
/-- The worlds of the walk: block g, and the parts of the path. -/
structure PW (w0 w : World) (g r : Nat) (s part : ByteArray) (wr : World) : Prop where
  st : St3 g w0 w (pcZ s) wr
  o : Blk wr r 161 (opCells part)
theorem St3.drewN {g : Nat} {w0 w w' : World} {cs : Array Value} (h : St3 g w0 w cs w') (n : Nat) : St3 g w0 w cs (w'.drewN n) := ⟨h.1.drewN n, pw_below_drewN h.2.1 n, h.2.2.trans (keep_drewN w' n g) (.inl rfl)⟩
theorem PW.drewN {w0 w : World} {g r : Nat} {s part : ByteArray} {wr : World} (h : PW w0 w g r s part wr) (n : Nat) : PW w0 w g r s part (wr.drewN n) := ⟨h.st.drewN n, h.o.drewN n⟩
theorem PW.grow {w0 w : World} {g r : Nat} {s part : ByteArray} {wr w2 : World} (h : PW w0 w g r s part wr) (hb : Below wr.heap.size wr w2) : PW w0 w g r s part w2 := ⟨h.st.grow hb, h.o.below hb h.o.lt⟩
theorem PW.c0 {w0 w : World} {g r : Nat} {s part : ByteArray} {wr : World} (h : PW w0 w g r s part wr) : wr.cell? ⟨g, 0, none⟩ = some (.string s) := by rw [h.st.1.cell]; rfl
theorem PW.o0 {w0 w : World} {g r : Nat} {s part : ByteArray} {wr : World} (h : PW w0 w g r s part wr) : wr.cell? ⟨r, 0, none⟩ = some (.string part) := by rw [h.o.cell]; rfl
theorem PW.o4 {w0 w : World} {g r : Nat} {s part : ByteArray} {wr : World} (h : PW w0 w g r s part wr) : wr.cell? ⟨r, 4, none⟩ = some (.bool false) := by rw [h.o.cell]; rfl
theorem PW.o5 {w0 w : World} {g r : Nat} {s part : ByteArray} {wr : World} (h : PW w0 w g r s part wr) : wr.cell? ⟨r, 5, none⟩ = some (.bool false) := by rw [h.o.cell]; rfl

/-- Where the scan ends at the object's brace. -/
def DoneFin (e0 : Nat) (w : World) (e : Exit) (t : Array Value) (w' : World) : Prop := e = .ret ∧ t.size = 524 ∧ t.getD 6 undef = .int .i64 (e0 : Int) ∧ t.getD 7 undef = .bool false ∧ w' = w
set_option maxHeartbeats 8000000 in
set_option maxRecDepth 100000 in
theorem scan_done (g : Nat) (s : ByteArray) (hs : s.size ≤ 1000000) (p j : Nat) (hpj : p ≤ j) (hgap : ∀ q : Nat, p ≤ q → q < j → bt s q ≠ 34 ∧ bt s q ≠ 125) (hjs : j < s.size) (hj : bt s j = 125)
    (t : Array Value) (ht : t.size = 524) (f0 : t.getD 0 undef = .pointer (some ⟨g, 0, none⟩)) (f1 : t.getD 1 undef = .int .i64 (p : Int)) (w : World) (c0 : w.cell? ⟨g, 0, none⟩ = some (.string s))
    (Q : Exit → Act → World → Prop) (hQ : ∀ e t w', DoneFin (j + 1) w e t w' → Q e ⟨t, []⟩ w') : Code.wp Tryz.prog (Code.loop (L71 1)) Q ⟨t, []⟩ w := by
  have hgap' := Aside0.mk hgap
  clear hgap
  refine wp_loop_ghost_k (In71 fun n f wr => f 0 = .pointer (some ⟨g, 0, none⟩) ∧ ∃ q : Nat, f 1 = .int .i64 (q : Int) ∧ wr = w ∧ Aside0 (p ≤ q ∧ q + n = j)) (j - p) ?_ ?_
  · exact In71.mk ht ⟨f0, p, f1, rfl, ⟨by omega⟩⟩
  · clear f0 f1
    rintro n a' wr ⟨f, rfl, f0, q, f1, rfl, hq⟩ J K hJ hK
    conv => arg 2; whnf
    simp only [FR71, f0, f1]
    clear f0 f1
    have hq' := hq.out
    by_cases c : q = j
    · subst c
      have hx := at_of hj
      clear hj hq'
      go_wp2
      exact ⟨rfl, rfl, rfl, rfl, rfl⟩
    · have g1 := hgap'.out q (by omega) (by omega)
      have q0 : q < s.size := by omega
      have hx := at_of (show bt s q = bt s q from rfl)
      obtain ⟨x, hxe⟩ : ∃ x, x = bt s q := ⟨_, rfl⟩
      rw [← hxe] at g1 hx
      have d1 : (x == 34) = false := beq_eq_false_iff_ne.mpr g1.1
      have d2 : (x == 125) = false := beq_eq_false_iff_ne.mpr g1.2
      have hj' := Aside0.mk hj
      clear hj hq' hxe g1
      go_wp2
      refine Handed.intro (n - 1) (by have := hq.out; omega) ?_
      go_step
      exact In71.mk rfl ⟨rfl, q + 1, rfl, rfl, ⟨by have := hq.out; omega⟩⟩
theorem Blc.ne {c : Int} (h : Blc c) : c ≠ 34 ∧ c ≠ 125 := by unfold Blc at h; omega
theorem Sep.ne {s : ByteArray} {f : Bool} {p j : Nat} (h : Sep s f p j) : p ≤ j ∧ j ≤ s.size ∧ ∀ q : Nat, p ≤ q → q < j → Blc (bt s q) ∨ bt s q = 58 ∨ bt s q = 44 := by
  cases f with
  | true => exact ⟨h.1, h.2.1, fun q h1 h2 => .inl (h.2.2 q h1 h2)⟩
  | false =>
    obtain ⟨c, h1, h2, h3, h4⟩ := h
    refine ⟨by have := h1.1; have := h4.1; omega, h4.2.1, fun q h5 h6 => ?_⟩
    rcases Nat.lt_or_ge q c with h7 | h7
    · exact .inl (h1.2.2 q h5 h7)
    · rcases Nat.lt_or_ge c q with h8 | h8
      · exact .inl (h4.2.2 q h8 h6)
      · obtain rfl : q = c := by omega
        exact .inr (.inr h3)
theorem Bl.sep {s : ByteArray} {p j : Nat} (h : Bl s p j) : Sep s true p j := h
theorem MR.lt {s : ByteArray} {f : Bool} {p e : Nat} {ns : List S84} {ks : List S48} (h : MR s f p e ns ks) : p < s.size := by
  cases h with
  | done h1 h2 h3 => have := h1.1; omega
  | more h1 h2 h3 => have := h1.ne.1; omega
theorem St3.trans {g : Nat} {w0 w w1 w2 : World} {cs cs' : Array Value} (h : St3 g w0 w cs w1) (k : St3 g w0 w1 cs' w2) : St3 g w0 w cs' w2 := ⟨k.1, k.2.1, h.2.2.trans k.2.2 (.inl rfl)⟩
theorem str_eq (a b : ByteArray) : (a.toList == b.toList) = decide (a = b) := by
  by_cases h : a = b
  · subst h
    rw [decide_eq_true rfl]
    exact beq_self_eq_true _
  · rw [decide_eq_false h]
    refine beq_eq_false_iff_ne.mpr fun e => h ?_
    rw [ByteArray.toList_eq, ByteArray.toList_eq] at e
    exact ByteArray.ext (Array.ext' e)
/-- What parseObject hands back. -/
def PoFin (NUM : ByteArray → Nat) (g : Nat) (s : ByteArray) (w0 w : World) (xs : List ByteArray) (ks : List S48) (part : ByteArray) (e0 : Nat) (en : Ending) (w' : World) : Prop :=
  (findM xs ks part = none ∧ en = .returned (.tuple #[.int .i64 (e0 : Int), .bool false]) ∧ St3 g w0 w (pcZ s) w') ∨
  (∃ (v : S48) (vb ve : Nat) (ty : Int) (raw str : ByteArray) (num : Nat), findM xs ks part = some v ∧ JV s vb ve v ∧ en = .returned (.tuple #[.int .i64 (ve : Int), .bool true]) ∧ HitOk NUM s v vb ve ty raw str num ∧ St3 g w0 w (pcC s ty raw str num vb) w')
/-- What is left of an object's members, at place q. -/
def PoLeft (s part : ByteArray) (xs : List ByteArray) (ks : List S48) (e0 n q : Nat) : Prop := ∃ (fl : Bool) (ns' : List S84) (ks' : List S48) (xs' : List ByteArray), n = ks'.length ∧ MR s fl q e0 ns' ks' ∧ All2 (NmOk s) ns' xs' ∧ findM xs' ks' part = findM xs ks part ∧ ∀ v, v ∈ ks' → v ∈ ks
set_option maxHeartbeats 16000000 in
set_option maxRecDepth 100000 in
theorem parseObject_calls (NUM : ByteArray → Nat) (g : Nat) (s part : ByteArray) (hs : s.size ≤ 1000000) (hp : part.size ≤ 1000000) (i e0 : Nat) (ns : List S84) (ks : List S48) (xs : List ByteArray) (hM : MR s true i e0 ns ks) (hN : All2 (NmOk s) ns xs)
    (w0 w : World) (hC : Blk w g 112 (pcZ s)) (hge : w0.heap.size ≤ g) (hB : Below w0.heap.size w0 w)
    (hSq : (∃ v, v ∈ ks ∧ 5 ≤ v.f0) → ∀ wr, KeepBut w wr g none → SqAt s wr)
    (hHit : ∀ v vb ve, findM xs ks part = some v → JV s vb ve v → (v.f0 = 4 → ∃ x : ByteArray, Un (s.extract (vb + 1) (ve - 1)) 0 (bytesOf x)) ∧ (v.f0 = 3 → PfAt NUM (s.extract vb ve) g w)) :
    Calls Tryz.prog 71 #[.pointer (some ⟨g, 0, none⟩), .int .i64 (i : Int), .string (escS part)] w (PoFin NUM g s w0 w xs ks part e0) := by
  have C := fun wr => Lib.hid (parseObjectPath_esc part hp wr)
  have hg := hC.lt
  have hst := Aside0.mk (St3.start hC hB 0)
  have hL : Aside0 (PoLeft s part xs ks e0 ks.length i) := ⟨true, ns, ks, xs, rfl, hM, hN, rfl, fun v h => h⟩
  have hSq' := Aside0.mk hSq
  have hHit' := Aside0.mk hHit
  clear hM hN hSq hHit hB hC
  go_enter Tryz.func71, Tryz.ntmps71
  go_wp2_with (first | (go_at_call 109; refine ((C _).out).mono ?_; rintro e w1 ⟨rfl, r⟩; have h1 := Aside0.mk r; clear r) | ((with_reducible show wpList _ _ _ (Oper.mk none (Op.store 161 (Operand.tmp 15) (Operand.tmp 22)) _ _ _ _ :: _) _ _); refine wpList_store_blk rfl 161 (.tmp 15) (.tmp 22) rfl w1.heap.size (opCells part) rfl rfl 161 (opCells ⟨#[]⟩) (Blk.new w1 161 _) size161 rfl rfl ?_; intro w2 hK2 hg2; have hP2 : Aside0 (PW w0 w g w1.heap.size s part w2) := ⟨⟨hst.out.grow (((h1.out.alloc h1.out.size _).grown hg2 (by simp; have := h1.out.size; omega) (fun k hk => by injection hk with hk; have := h1.out.size; omega))), hK2⟩⟩; clear hK2 hg2; have o0 := hP2.out.o0; have o3 : w2.cell? ⟨w1.heap.size, 3, none⟩ = some (.bool false) := (hP2.out.o.cell 3).trans rfl; have o4 := hP2.out.o4; have o5 := hP2.out.o5; have c0 := hP2.out.c0))
  obtain ⟨r, hr⟩ : ∃ r, r = w1.heap.size := ⟨_, rfl⟩
  rw [← hr] at hP2 ⊢
  clear hr o0 o3 o4 o5 c0 C
  refine wp_loop_ghost_k (In71 fun n f wr => f 0 = .pointer (some ⟨g, 0, none⟩) ∧ f 15 = .pointer (some ⟨r, 0, none⟩) ∧ ∃ q : Nat, f 1 = .int .i64 (q : Int) ∧ Aside0 (PW w0 w g r s part wr) ∧ Aside0 (PoLeft s part xs ks e0 n q)) ks.length ?_ ?_
  · exact In71.mk rfl ⟨rfl, rfl, i, rfl, hP2, hL⟩
  · clear hP2 hL hst h1
    rintro n a' wr ⟨f, rfl, f0, f15, q, f1, hP, hL⟩ J K hJ hK
    simp only [FR71, f0, f15, f1]
    clear f0 f15 f1
    obtain ⟨fl, ns', ks', xs', hn, hM, hN, hF, hmem⟩ := hL.out
    clear hL
    have c0 := hP.out.c0
    have q0 : q < s.size := hM.lt
    cases hM with
    | @done _ _ j m1 m2 m3 =>
      have hF' : findM xs ks part = none := by rw [← hF]; cases hN; rfl
      have hfin := Aside0.mk hF'
      have m1' := Aside0.mk m1
      have m3' := Aside0.mk m3
      clear hF hF' hN hmem m1 m3 hn
      go_wp2
      refine scan_done g s hs q j m1'.out.1 (fun k h1 h2 => (m1'.out.2.2 k h1 h2).ne) m2 m3'.out _ ?_ ?_ ?_ wr c0 _ ?_
      · rfl
      · rfl
      · rfl
      rintro e t w' ⟨rfl, ht, h6, h7, rfl⟩
      go_ret2
      rw [h6, h7]
      exact .inl ⟨hfin.out, rfl, hP.out.st⟩
    | @more _ _ j a c vb ve _ v ns'' ks'' m1 m2 m3 m4 m5 m6 m7 m8 m9 m10 =>
      have hsep := Aside0.mk m1.ne
      have m3' := Aside0.mk m3
      have hSB := Aside0.mk m4.SB
      have hgapV : Aside0 (a + 1 ≤ vb ∧ ∀ k : Nat, a + 1 ≤ k → k < vb → NoVal (bt s k)) := ⟨by
        have h5 := m5.sep.ne
        have h8 := m8.sep.ne
        refine ⟨by omega, fun k h1 h2 => ?_⟩
        rcases Nat.lt_or_ge k c with h3 | h3
        · exact noVal_gap (h5.2.2 k h1 h3)
        · rcases Nat.lt_or_ge c k with h4 | h4
          · exact noVal_gap (h8.2.2 k h4 h2)
          · obtain rfl : k = c := by omega
            exact noVal_gap (.inr (.inl m7))⟩
      have hV := Aside0.mk m9
      have hR := Aside0.mk m10
      have ha : a < s.size := m4.le.2.1
      clear m1 m3 m4 m5 m6 m7 m8 m9 m10
      obtain ⟨x, xs'', hx, hxs, hUx⟩ : ∃ x xs'', xs' = x :: xs'' ∧ All2 (NmOk s) ns'' xs'' ∧ Un (s.extract (j + 1) a) 0 (bytesOf x) := by
        cases hN with
        | cons h1 h2 =>
          obtain ⟨j', a', h3, h4⟩ := h1
          injection h3 with h5 h6
          obtain rfl : j' = j := by omega
          obtain rfl : a' = a := by omega
          exact ⟨_, _, rfl, h2, h4⟩
      subst hx
      have hxs' := Aside0.mk hxs
      have hUx' := Aside0.mk hUx
      have hF' : Aside0 (findM (x :: xs'') (v :: ks'') part = findM xs ks part) := ⟨hF⟩
      have hmem' := Aside0.mk hmem
      have hn' : Aside0 (n = (v :: ks'').length) := ⟨hn⟩
      clear hN hxs hUx hF hmem hn
      go_upto_block 2 with (fail)
      refine wp_cut (In71 (fun _ f w' => f 0 = .pointer (some ⟨g, 0, none⟩) ∧ f 15 = .pointer (some ⟨r, 0, none⟩) ∧ f 1 = .int .i64 ((a + 1 : Nat) : Int) ∧ f 13 = .string (s.extract (j + 1) a) ∧ f 9 = .bool (hasBs s (j + 1) a) ∧ f 11 = .bool true ∧ ∃ nd, w' = wr.drewN nd) 0) ?_ ?_
      · rintro a' w' ⟨f, rfl, f0, f15, f1, f13, f9, f11, nd, rfl⟩
        simp only [FR71, f0, f15, f1, f13, f9, f11]
        clear f0 f15 f1 f13 f9 f11
        have o0 := hP.out.o0
        have o4 := hP.out.o4
        have o5 := hP.out.o5
        go_upto_if 182 with (fail)
        have hP1 := Aside0.mk (hP.out.drewN nd)
        refine wp_cut (In71 (fun _ f w' => f 0 = .pointer (some ⟨g, 0, none⟩) ∧ f 15 = .pointer (some ⟨r, 0, none⟩) ∧ f 1 = .int .i64 ((a + 1 : Nat) : Int) ∧ f 8 = .bool (decide (part = x)) ∧ Aside0 (PW w0 w g r s part w')) 0) ?_ ?_
        · rintro a' w' ⟨f, rfl, f0, f15, f1, f8, hP2⟩
          simp only [FR71, f0, f15, f1, f8]
          clear f0 f15 f1 f8 o0 o4 o5 c0
          have o5 := hP2.out.o5
          by_cases hpx : part = x
          · have d := decide_eq_true hpx
            rw [d]
            have hpx' := Aside0.mk hpx
            clear hpx d
            go_wp2
            have hend := hR.out.endc
            refine val_hit NUM g s hs (a + 1) vb ve v hgapV.out.1 hgapV.out.2 hV.out hend.1 hend.2 _ ?_ ?_ ?_ ?_ ?_ w0 w' hP2.out.st.1 hge hP2.out.st.2.1 (fun h5 => hSq'.out ⟨v, hmem'.out v (by simp), h5⟩ w' hP2.out.st.2.2) (fun h4 => (hHit'.out v vb ve (by rw [← hF'.out]; simp [findM, hpx'.out]) hV.out).1 h4) (fun h3 wr hk => (hHit'.out v vb ve (by rw [← hF'.out]; simp [findM, hpx'.out]) hV.out).2 h3 wr (hP2.out.st.2.2.trans hk (.inl rfl))) _ ?_
            · rfl
            · rfl
            · rfl
            · rfl
            · rfl
            rintro e t w2 ⟨rfl, ht, h6, h7, ty, raw, str, num, hO, hS⟩
            go_ret2
            rw [h6, h7]
            exact .inr ⟨v, vb, ve, ty, raw, str, num, by rw [← hF'.out]; simp [findM, hpx'.out], hV.out, rfl, hO, hP2.out.st.trans hS⟩
          · have d := decide_eq_false hpx
            rw [d]
            have hpx' := Aside0.mk hpx
            clear hpx d
            go_wp2
            have hend := hR.out.endc
            refine val_skip g r s hs (a + 1) vb ve v hgapV.out.1 hgapV.out.2 hV.out hend.1 hend.2 _ ?_ ?_ ?_ ?_ ?_ ?_ w' hP2.out.c0 (fun h5 => hSq'.out ⟨v, hmem'.out v (by simp), h5⟩ w' hP2.out.st.2.2) _ ?_
            · rfl
            · rfl
            · rfl
            · rfl
            · rfl
            · rfl
            rintro e t w2 ⟨rfl, ht, h0, h15, h1, nd2, rfl⟩
            go_wp2
            refine Handed.intro ks''.length (by have := hn'.out; simp at this; omega) ?_
            go_step
            have hxp : ¬ x = part := fun h => hpx'.out h.symm
            exact In71.mk ht ⟨h0, h15, ve, h1, ⟨hP2.out.drewN nd2⟩, ⟨false, ns'', ks'', xs'', rfl, hR.out, hxs'.out, by rw [← hF'.out]; simp [findM, hxp], fun v h => hmem'.out v (List.mem_cons_of_mem _ h)⟩⟩
        · intro J2 K2 hJ2 hK2
          cases hb : hasBs s (j + 1) a with
          | false =>
            have hxs : x = s.extract (j + 1) a := Un_same hUx'.out (fun k hk => by
              have hk' : k < a - (j + 1) := by simp at hk; omega
              rw [bt_extract s (j + 1) a k (by omega) (by omega)]
              exact (hasBs_false s (j + 1) a).1 hb (j + 1 + k) (by omega) (by omega))
            have hxs' := Aside0.mk hxs
            rw [← hxs]
            clear hb hxs
            go_wp2
            refine Met.intro ?_
            go_step
            refine In71.mk rfl ⟨rfl, rfl, rfl, ?_, hP1⟩
            show Value.bool _ = Value.bool _
            exact congrArg _ (str_eq part x)
          | true =>
            have CU : ∀ wr, Hid (Calls Tryz.prog 103 #[.string (s.extract (j + 1) a)] wr fun e w' => e = .returned (.string x) ∧ Below wr.heap.size wr w') := fun wr => Lib.hid (by
              have := unescape_calls (s.extract (j + 1) a) (by simp; omega) (bytesOf x) hUx'.out wr
              rw [strOfNums_bytesOf] at this
              exact this)
            clear hb
            go_wp2
            go_region_with (go_at_call 103; refine ((CU _).out).mono ?_; rintro e w3 ⟨rfl, h1⟩; have hP3 := Aside0.mk (PW.grow (PW.drewN hP.out _) h1); clear h1; have o0 := hP3.out.o0)
            all_goals
              go_wp2
              refine Met.intro ?_
              go_step
              refine In71.mk rfl ⟨rfl, rfl, rfl, ?_, hP3⟩
              show Value.bool _ = Value.bool _
              exact congrArg _ (str_eq part x)
      · intro J2 K2 hJ2 hK2
        go_wp2
        refine scan_name g r s hs q j a hsep.out.1 (fun k h1 h2 => ?_) m3'.out hSB.out _ ?_ ?_ ?_ ?_ wr c0 _ ?_
        · have := hsep.out.2.2 k h1 h2
          unfold Blc at this
          omega
        · rfl
        · rfl
        · rfl
        · rfl
        rintro e t w' ⟨rfl, ht, h0, h15, h1, h13, h9, h11, nd, rfl⟩
        go_wp2
        refine Met.intro ?_
        go_step
        exact In71.mk ht ⟨h0, h15, h1, h13, h9, h11, nd, rfl⟩
end Go.Proofs.YtdolnkknlflmeaaGreatDoor.L
