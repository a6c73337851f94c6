/-
  Parts of the proof: Rb, Op, Sb, Hx, Er, Un.
-/
import Derived.Test.YtdolnkknlflmeaaGreatDoorZEs
import Derived.Lib.ConvBytes
import Derived.Laws.IdiomCopy
import Derived.Test.YtdolnkknlflmeaaGreatDoorZKit
import Derived.Laws.BitsLemmas
import Derived.Test.YtdolnkknlflmeaaGreatDoorZLx12
section
/-
  Rows of bytes of the call's own, a conversion's row let in: append of one byte, string(v).
-/
namespace Go.Proofs.YtdolnkknlflmeaaGreatDoor.L
open Go.RowKit Go.Proofs.YtdolnkknlflmeaaGreatDoorW.PrintWords Go.Proofs.YtdolnkknlflmeaaGreatDoorW.PrintLast Go.Proofs.YtdolnkknlflmeaaGreatDoorW.PrintMore
set_option linter.unusedVariables false
set_option linter.unusedSimpArgs false

/-- v is a row of the call's own that holds the bytes xs; it may be one that a conversion has made. -/
def RB (w : World) (base : Nat) (v : Value) (xs : List Int) : Prop :=
  ∃ g cap cur fz, v = .slice (some ⟨g, 0, none⟩) xs.length cap ∧ base ≤ g ∧ w.heap[g]? = some (.cells cur 5 fz) ∧ (fz = (0, 0) ∨ fz.1 = cur.size) ∧ xs.length ≤ cap ∧ cap ≤ maxLen ∧ cur.size = cap ∧ cur.toList.take xs.length = nums .u8 xs

theorem RB.block {w : World} {base : Nat} {v : Value} {xs : List Int} (h : RB w base v xs) {w1 : World} (hb : Below w.heap.size w w1) : RB w1 base v xs := by
  obtain ⟨g, cap, cur, fz, rfl, hg, hc, r⟩ := h
  exact ⟨g, cap, cur, fz, rfl, hg, (hb.block g (Array.getElem?_eq_some_iff.1 hc).1).trans hc, r⟩

theorem RB.conv (w : World) (base : Nat) (s : ByteArray) (hb : base ≤ w.heap.size) (hs : s.size ≤ 1000000000) :
    RB (Lib.bytesWorld w 5 s) base (.slice (some ⟨w.heap.size, 0, none⟩) s.size (grownCap w s.size 0 5)) (bytesOf s) := by
  have hge := grownCap_ge w s.size 0 5
  have hcm : grownCap w s.size 0 5 ≤ maxLen := grownCap_le_maxLen w s.size 0 5 (by simp [maxLen]; omega)
  have hsz : (Lib.bytesCells w 5 s).size = grownCap w s.size 0 5 := by
    simp [Lib.bytesCells]
    have : s.data.size = s.size := rfl
    omega
  refine ⟨w.heap.size, _, _, _, by rw [bytesOf_length], hb, Lib.bytesWorld_at_new w 5 s, .inr rfl, by rw [bytesOf_length]; exact hge, hcm, hsz, ?_⟩
  have h1 : (s.data.map fun b => Value.int .u8 (b.toNat : Int)).toList = nums .u8 (bytesOf s) := by simp [nums, bytesOf]
  have h2 : (nums .u8 (bytesOf s)).length = (bytesOf s).length := nums_length _ _
  unfold Lib.bytesCells
  rw [Array.toList_append, h1, List.take_append_of_le_length (by rw [h2]; omega), List.take_of_length_le (by rw [h2]; omega)]

/-- append of one byte that lies in a new row of one cell. -/
theorem RB.run_append {w : World} {base : Nat} {v : Value} {xs : List Int} (h : RB w base v xs) (ty : TypeId) (ad : Addr) (y : Int) (hy : w.cell? ad = some (.int .u8 y)) (hb : base ≤ w.heap.size) (hl : xs.length < 100000000000) :
    ∃ v' w', (Builtin.append_ #[80, 80] ty #[v, .slice (some ad) 1 1]).run Tryz.prog w = .ok v' w' ∧ RB w' base v' (xs ++ [y]) ∧ w.grownBy w' v.ownBlock := by
  obtain ⟨g, cap, cur, fz, rfl, hg, hc, hfz, hn, hm, hcs, htk⟩ := h
  obtain ⟨i, hi, hz⟩ := Option.map_eq_some_iff.1 info5
  simp only [Prod.mk.injEq] at hz
  obtain ⟨hz0, hz1, hz2⟩ := hz
  have ht := Tryz.underlying80
  have hcell : ∀ j, j < cap → w.cell? ⟨g, j, none⟩ = some (cur.toList.getD j undef) := by
    intro j hj
    rw [cell_of_row w g j cur 5 fz hc]
    have : j < cur.size := by omega
    simp [List.getD_eq_getElem?_getD, this]
  have hnews : ∀ j u, [Value.int .u8 y][j]? = some u → w.cell? (ad.add j) = some u := by
    intro j u hu
    match j with
    | 0 => simp at hu; subst hu; have : ad.add 0 = ad := by { unfold Addr.add; simp }
           rw [this]; exact hy
    | j + 1 => simp at hu
  by_cases hroom : xs.length + 1 ≤ cap
  · have hf := run_firstCells_some (P := Tryz.prog) w 1 1 ad 1 1 [.int .u8 y] rfl hnews
    have hst := run_storeCells_cells (P := Tryz.prog) g xs.length [.int .u8 y] 0 w
      (by intro j hj; simp at hj; subst hj; rw [hcell _ (by omega)]; rfl)
      (by
        intro j hj
        simp at hj
        subst hj
        simp only [World.frozen?, hc, Nat.add_zero]
        rcases hfz with rfl | hfz
        · simp
        · obtain ⟨lo, hi'⟩ := fz
          simp only at hfz
          simp
          intro h1
          omega)
      (by simp [Value.oneCell'])
    simp only [Nat.add_zero, World.setCells] at hst
    refine ⟨.slice (some ⟨g, 0, none⟩) (xs.length + 1) cap, w.setCell ⟨g, xs.length, none⟩ (.int .u8 y), ?_, ?_, ?_⟩
    · simp [Builtin.append_, run_underlying ht, sizeOf, typeInfo, hi, hz1, Builtin.lenOf, hroom, hf, Addr.add_lit, hst]
    · refine ⟨g, cap, cur.setIfInBounds xs.length (.int .u8 y), fz, by simp, hg, ?_, ?_, by simpa using hroom, hm, by simpa using hcs, ?_⟩
      · simp [World.setCell, Array.getElem?_modify, hc]
      · simpa using hfz
      · rw [nums_append]
        simp only [List.length_append, List.length_singleton, Array.toList_setIfInBounds]
        have hlt : xs.length < cur.size := by omega
        rw [List.take_succ_eq_append_getElem (by simpa using hlt), List.take_set_of_le (Nat.le_refl _), htk]
        simp [nums]
    · exact Lib.grownBy_setCell w g _ _
  · have holds : ∀ j u, (nums .u8 xs)[j]? = some u → w.cell? ((⟨g, 0, none⟩ : Addr).add j) = some u := by
      intro j u hu
      have hj : j < xs.length := by
        rcases Nat.lt_or_ge j xs.length with h | h
        · exact h
        · rw [List.getElem?_eq_none (by rw [nums_length]; exact h)] at hu; cases hu
      rw [add_plain, cell_of_row w g j cur 5 fz hc]
      rw [← htk, List.getElem?_take] at hu
      simpa [hj] using hu
    have hxl : (nums .u8 xs).length = xs.length * i.size := by rw [nums_length, hz1]; omega
    have hr := run_append_grow (P := Tryz.prog) w 80 ty 5 i (.int .u8 0) ht hi hz0 ⟨g, 0, none⟩ xs.length cap (nums .u8 xs) hxl holds ad 1 1 [.int .u8 y] (by rw [hz1]; rfl) hnews (by omega) (by omega)
      (growslice_fits (by omega) (by rw [hz2]; omega))
    refine ⟨_, _, hr, ?_, ⟨rfl, rfl, rfl, by simp, fun k hk _ => heap_alloc_old w.drew _ hk⟩⟩
    have hge := grownCap_ge w (xs.length + 1) cap 5
    have hcm : grownCap w (xs.length + 1) cap 5 ≤ maxLen := grownCap_le_maxLen w _ cap 5 (by simp [maxLen]; omega)
    refine ⟨w.heap.size, _, _, (0, 0), by simp, hb, heap_alloc_new w.drew _, .inl rfl, by simpa using hge, hcm, ?_, ?_⟩
    · simp [size_zeroCells, nums_length]
      have e1 : (Value.int .u8 0).cells.size = 1 := rfl
      rw [e1]
      omega
    · rw [nums_append]
      simp only [Array.toList_append, List.append_assoc]
      rw [← List.append_assoc]
      have : (xs ++ [y]).length = (nums .u8 xs ++ [Value.int .u8 y]).length := by simp [nums_length]
      rw [this]
      exact List.take_left

section
variable {ops : Array Oper} {rest : List Oper} {o : Oper} {a : Act} {Q : Exit → Act → World → Prop}
/-- append(v, y). -/
theorem apRB {w0 W : World} (base : Nat) (hgd : o.guard = none) (d x : Operand) (ho : o.op = .call { callee := .builtin .append, args := #[d, x], argTypes := #[80, 80] })
    (v : Value) (xs : List Int) (y : Int) (hs : a.eval d = v) (hx : a.eval x = .slice (some ⟨W.heap.size, 0, none⟩) 1 1)
    (HO : RB W base v xs) (HB : Below base w0 W) (hbase : base ≤ W.heap.size) (hl : xs.length < 100000000000)
    (h : ∀ v1 w1, RB w1 base v1 (xs ++ [y]) → Below base w0 w1 → wpList Tryz.prog ops Q rest (a.put o.dst v1) w1) :
    wpList Tryz.prog ops Q (o :: rest) a (W.alloc (.cells #[.int .u8 y] 5)) := by
  refine wpList_plain hgd fun K hK => ?_
  have HO' : RB (W.alloc (.cells #[.int .u8 y] 5)) base v xs := HO.block ((Below.refl _ _).alloc (Nat.le_refl _) _)
  have hy : (W.alloc (.cells #[.int .u8 y] 5)).cell? ⟨W.heap.size, 0, none⟩ = some (.int .u8 y) := by
    rw [cell_of_row _ _ _ _ _ _ (heap_alloc_new W _)]; rfl
  obtain ⟨v', w', hr, h2, h3⟩ := HO'.run_append o.type ⟨W.heap.size, 0, none⟩ y hy (by simp; omega) hl
  unfold Oper.wp execOp
  simp only [ho, resolve, invoke, builtin, Sem.run_bind, Sem.run_pure, Result.andThen_ok, List.map_toArray, List.map_cons, List.map_nil, hs, hx, hr]
  refine hK _ _ (h v' w' h2 ((HB.alloc hbase _).grown h3 (by simp; omega) ?_))
  intro k hk
  obtain ⟨g, cap, cur, fz, rfl, hg, hc, _⟩ := HO
  simp [Value.ownBlock] at hk
  omega
end
/-- string(v) -/
theorem strRB {w : World} {base : Nat} {v : Value} {xs : List Int} (h : RB w base v xs) : (convert 80 9 v).run Tryz.prog w = .ok (.string (strOfNums xs)) w := by
  obtain ⟨g, cap, cur, fz, rfl, hg, hc, hfz, hn, hm, hcs, htk⟩ := h
  refine run_convert_bytes_arg w 80 5 Tryz.underlying80 Tryz.underlying5 g 0 xs.length cap xs rfl (fun i hi => ?_) 9 Tryz.underlying9
  rw [cell_of_row w g _ cur 5 fz hc]
  have h1 : (nums .u8 xs)[i]? = some (.int .u8 (xs.getD i 0)) := by simp [nums, List.getElem?_eq_getElem hi, List.getD_eq_getElem?_getD]
  rw [← htk, List.getElem?_take] at h1
  simpa [hi] using h1
end Go.Proofs.YtdolnkknlflmeaaGreatDoor.L
end
section
/-
  gjson.parseObjectPath of a component that Escape has made.
-/
namespace Go.Proofs.YtdolnkknlflmeaaGreatDoor.L
open Go.RowKit Go.Proofs.YtdolnkknlflmeaaGreatDoorW.PrintWords Go.Proofs.YtdolnkknlflmeaaGreatDoorW.PrintLast Go.Proofs.YtdolnkknlflmeaaGreatDoorW.PrintMore
set_option linter.unusedVariables false
set_option linter.unusedSimpArgs false

def Byt (L : List Int) : Prop := ∀ c, c ∈ L → 0 ≤ c ∧ c < 256
theorem byt_bytesOf (s : ByteArray) : Byt (bytesOf s) := by
  intro c hc
  simp only [bytesOf, List.mem_map] at hc
  obtain ⟨b, _, rfl⟩ := hc
  have := b.toNat_lt
  omega
theorem bt_strOfNums (L : List Int) (h : Byt L) (n : Nat) (hn : n < L.length) : bt (strOfNums L) n = L[n] := by
  have hs : n < (strOfNums L).size := by rw [strOfNums_size]; exact hn
  unfold bt
  simp only [Int.toNat_natCast]
  rw [dif_pos hs]
  have h1 : (strOfNums L)[n]'hs = UInt8.ofNat (L[n]).toNat := by
    show (strOfNums L).data[n] = _
    simp [strOfNums]
  rw [h1]
  obtain ⟨h0, h2⟩ := h _ (List.getElem_mem hn)
  simp
  omega
theorem bytesOf_strOfNums (L : List Int) (h : Byt L) : bytesOf (strOfNums L) = L := by
  unfold bytesOf
  rw [strOfNums_data, List.map_map]
  conv => rhs; rw [← List.map_id L]
  refine List.map_congr_left ?_
  intro c hc
  obtain ⟨h0, h2⟩ := h c hc
  simp
  omega
theorem byt_esc {L : List Int} (h : Byt L) : Byt (escL L) := by
  induction L with
  | nil => exact h
  | cons c t ih =>
    have h1 := ih (fun c hc => h c (by simp [hc]))
    have h2 := h c (by simp)
    simp only [escL]
    split
    · intro x hx; simp at hx; rcases hx with rfl | hx
      · exact h2
      · exact h1 x hx
    · intro x hx; simp at hx; rcases hx with rfl | rfl | hx
      · decide
      · exact h2
      · exact h1 x hx
/-- Where the j-th byte's part of an escaped text begins. -/
def epos (L : List Int) (j : Nat) : Nat := (escL (L.take j)).length
theorem esc_split (L : List Int) (j : Nat) (h : j < L.length) : escL L = escL (L.take j) ++ (escL [L[j]] ++ escL (L.drop (j + 1))) := by
  rw [← escL_append, ← escL_append]
  congr 1
  rw [List.singleton_append, List.getElem_cons_drop, List.take_append_drop]
theorem epos_succ (L : List Int) (j : Nat) (h : j < L.length) : epos L (j + 1) = epos L j + (escL [L[j]]).length := by
  unfold epos
  rw [List.take_succ_eq_append_getElem h, escL_append, List.length_append]
theorem epos_safe (L : List Int) (j : Nat) (h : j < L.length) (hs : safeB L[j] = true) : epos L (j + 1) = epos L j + 1 := by
  rw [epos_succ L j h]; simp [escL, hs]
theorem epos_not (L : List Int) (j : Nat) (h : j < L.length) (hs : safeB L[j] = false) : epos L (j + 1) = epos L j + 2 := by
  rw [epos_succ L j h]; simp [escL, hs]
theorem epos_le (L : List Int) (j : Nat) : epos L j ≤ (escL L).length := by
  have h : escL L = escL (L.take j) ++ escL (L.drop j) := by rw [← escL_append, List.take_append_drop]
  rw [h, List.length_append]
  exact Nat.le_add_right _ _
theorem epos_end (L : List Int) : epos L L.length = (escL L).length := by unfold epos; rw [List.take_length]
theorem epos_all (L : List Int) (j : Nat) (h : j ≤ L.length) (hs : ∀ c, c ∈ L.take j → safeB c = true) : epos L j = j := by
  unfold epos
  rw [escL_safe _ hs, List.length_take]
  omega
theorem esc_bt_safe (L : List Int) (hL : Byt L) (j : Nat) (h : j < L.length) (hs : safeB L[j] = true) :
    epos L j < (strOfNums (escL L)).size ∧ bt (strOfNums (escL L)) (epos L j : Nat) = L[j] := by
  have hlt : epos L j < (escL L).length := by have := epos_le L (j + 1); rw [epos_safe L j h hs] at this; omega
  refine ⟨by rw [strOfNums_size]; exact hlt, ?_⟩
  rw [bt_strOfNums _ (byt_esc hL) _ hlt]
  have h1 := esc_split L j h
  have h2 : escL [L[j]] = [L[j]] := by simp [escL, hs]
  rw [h2] at h1
  simp only [List.getElem_of_eq h1, epos]
  rw [List.getElem_append_right (Nat.le_refl _)]
  simp
theorem esc_bt_not (L : List Int) (hL : Byt L) (j : Nat) (h : j < L.length) (hs : safeB L[j] = false) :
    epos L j + 1 < (strOfNums (escL L)).size ∧ bt (strOfNums (escL L)) (epos L j : Nat) = 92 ∧ bt (strOfNums (escL L)) ((epos L j + 1 : Nat) : Int) = L[j] := by
  have hlt : epos L j + 1 < (escL L).length := by have := epos_le L (j + 1); rw [epos_not L j h hs] at this; omega
  have h1 := esc_split L j h
  have h2 : escL [L[j]] = [92, L[j]] := by simp [escL, hs]
  rw [h2] at h1
  refine ⟨by rw [strOfNums_size]; exact hlt, ?_, ?_⟩
  · rw [bt_strOfNums _ (byt_esc hL) _ (by omega)]
    simp only [List.getElem_of_eq h1, epos]
    rw [List.getElem_append_right (Nat.le_refl _)]
    simp
  · rw [bt_strOfNums _ (byt_esc hL) _ hlt]
    simp only [List.getElem_of_eq h1, epos]
    rw [List.getElem_append_right (by omega)]
    simp
theorem safe_ne {c : Int} (h : safeB c = true) : (c == 124) = false ∧ (c == 46) = false ∧ (c == 42) = false ∧ (c == 63) = false ∧ (c == 92) = false := by
  refine ⟨?_, ?_, ?_, ?_, ?_⟩ <;> (refine beq_eq_false_iff_ne.mpr ?_; rintro rfl; revert h; decide)
theorem size161 : (Tryz.prog.info? 161).map (·.size) = some 6 := by kernel_rfl
end Go.Proofs.YtdolnkknlflmeaaGreatDoor.L
end
section
/-
  The body of a JSON string: where a scan that counts backslashes ends.
-/
namespace Go.Proofs.YtdolnkknlflmeaaGreatDoor.L
open Go.RowKit Go.Proofs.YtdolnkknlflmeaaGreatDoorW.PrintWords Go.Proofs.YtdolnkknlflmeaaGreatDoorW.PrintLast Go.Proofs.YtdolnkknlflmeaaGreatDoorW.PrintMore
set_option linter.unusedVariables false

/-- From place a on the text holds a string's characters up to the quotation mark at e. -/
inductive SB (s : ByteArray) : Nat → Nat → Prop
  | done {e : Nat} : e < s.size → bt s e = 34 → SB s e e
  | plain {a e : Nat} : bt s a ≠ 34 → bt s a ≠ 92 → SB s (a + 1) e → SB s a e
  | esc {a e : Nat} : bt s a = 92 → SB s (a + 2) e → SB s a e
/-- How many backslashes stand just ahead of a place. -/
def cnt (s : ByteArray) : Nat → Nat
  | 0 => 0
  | q + 1 => if bt s q = 92 then cnt s q + 1 else 0
theorem SB.le {s : ByteArray} {a e : Nat} (h : SB s a e) : a ≤ e ∧ e < s.size ∧ bt s e = 34 := by
  induction h with
  | done h1 h2 => exact ⟨Nat.le_refl _, h1, h2⟩
  | plain _ _ _ ih => exact ⟨by omega, ih.2⟩
  | esc _ _ ih => exact ⟨by omega, ih.2⟩
theorem SB.quotes {s : ByteArray} {a e : Nat} (h : SB s a e) (h0 : cnt s a % 2 = 0) : cnt s e % 2 = 0 ∧ ∀ q, a ≤ q → q < e → bt s q = 34 → cnt s q % 2 = 1 := by
  induction h with
  | done h1 h2 => exact ⟨h0, fun q h1 h2 => by omega⟩
  | @plain a e h1 h2 h3 ih =>
    have hc : cnt s (a + 1) = 0 := by simp [cnt, h2]
    obtain ⟨i1, i2⟩ := ih (by rw [hc])
    refine ⟨i1, fun q hq hlt hb => ?_⟩
    rcases Nat.lt_or_ge a q with h | h
    · exact i2 q h hlt hb
    · obtain rfl : q = a := by omega
      exact absurd hb h1
  | @esc a e h1 h2 ih =>
    have hc1 : cnt s (a + 1) = cnt s a + 1 := by simp [cnt, h1]
    have hc2 : cnt s (a + 2) % 2 = 0 := by
      show (if bt s ((a + 1 : Nat) : Int) = 92 then cnt s (a + 1) + 1 else 0) % 2 = 0
      split
      · rw [hc1]; omega
      · rfl
    obtain ⟨i1, i2⟩ := ih hc2
    refine ⟨i1, fun q hq hlt hb => ?_⟩
    rcases Nat.lt_or_ge (a + 1) q with h | h
    · exact i2 q h hlt hb
    · have : q = a ∨ q = a + 1 := by omega
      rcases this with rfl | rfl
      · rw [h1] at hb; cases hb
      · rw [hc1]; omega
end Go.Proofs.YtdolnkknlflmeaaGreatDoor.L
namespace Go.Proofs.YtdolnkknlflmeaaGreatDoor.L
open Go.RowKit Go.Proofs.YtdolnkknlflmeaaGreatDoorW.PrintWords
/-- The backslashes ahead of a place do not reach over a quotation mark. -/
theorem cnt_le (s : ByteArray) (a : Nat) (ha : 0 < a) (h : bt s ((a - 1 : Nat) : Int) = 34) : ∀ q, a ≤ q → cnt s q ≤ q - a
  | 0, hq => by omega
  | q + 1, hq => by
    by_cases hb : bt s q = 92
    · have h1 : cnt s (q + 1) = cnt s q + 1 := by simp [cnt, hb]
      rcases Nat.lt_or_ge q a with h2 | h2
      · obtain rfl : q = a - 1 := by omega
        rw [h] at hb
        cases hb
      · have := cnt_le s a ha h q h2
        omega
    · have h1 : cnt s (q + 1) = 0 := by simp [cnt, hb]
      omega
theorem cnt_start (s : ByteArray) (a : Nat) (ha : 0 < a) (h : bt s ((a - 1 : Nat) : Int) = 34) : cnt s a = 0 := by
  have := cnt_le s a ha h a (Nat.le_refl _)
  omega
end Go.Proofs.YtdolnkknlflmeaaGreatDoor.L
end
section
/-
  gjson.runeit: four hex digits read.
-/
namespace Go.Proofs.YtdolnkknlflmeaaGreatDoor.L
open Go.RowKit Go.Proofs.YtdolnkknlflmeaaGreatDoorW.PrintWords Go.Proofs.YtdolnkknlflmeaaGreatDoorW.PrintLast Go.Proofs.YtdolnkknlflmeaaGreatDoorW.PrintMore
set_option linter.unusedVariables false
set_option linter.unusedSimpArgs false

def IsHex (c : Int) : Prop := (48 ≤ c ∧ c ≤ 57) ∨ (65 ≤ c ∧ c ≤ 70) ∨ (97 ≤ c ∧ c ≤ 102)
def hexv (c : Int) : Int := if c ≤ 57 then c - 48 else if c ≤ 70 then c - 55 else c - 87
def hexn (s : ByteArray) (i : Nat) : Int := ((hexv (bt s i) * 16 + hexv (bt s (i + 1 : Nat))) * 16 + hexv (bt s (i + 2 : Nat))) * 16 + hexv (bt s (i + 3 : Nat))
theorem hexv_range {c : Int} (h : IsHex c) : 0 ≤ hexv c ∧ hexv c < 16 := by unfold IsHex at h; unfold hexv; split <;> (try split) <;> omega
theorem or32_up : ∀ c : Int, 65 ≤ c → c ≤ 70 → Go.bits .or .u8 c 32 = c + 32 := by
  intro c h1 h2
  have : c = 65 ∨ c = 66 ∨ c = 67 ∨ c = 68 ∨ c = 69 ∨ c = 70 := by omega
  rcases this with rfl | rfl | rfl | rfl | rfl | rfl <;> rfl
theorem or32_low : ∀ c : Int, 97 ≤ c → c ≤ 102 → Go.bits .or .u8 c 32 = c := by
  intro c h1 h2
  have : c = 97 ∨ c = 98 ∨ c = 99 ∨ c = 100 ∨ c = 101 ∨ c = 102 := by omega
  rcases this with rfl | rfl | rfl | rfl | rfl | rfl <;> rfl
set_option maxRecDepth 100000 in
theorem lower_calls (c r : Int) (w : World) (h : Go.bits .or .u8 c 32 = r) : Calls Tryz.prog 268 #[.int .u8 c] w fun e w' => e = .returned (.int .u8 r) ∧ Drawn0 w w' := by
  go_enter Tryz.func268, Tryz.ntmps268
  go_wp2
  go_ret
  exact ⟨by first | rfl | simp [h], by repeat (first | exact Drawn0.refl _ | apply Drawn0.step)⟩

def hacc (t : ByteArray) : Nat → Int
  | 0 => 0
  | n + 1 => hacc t n * 16 + hexv (bt t n)
theorem hacc_range (t : ByteArray) (h : ∀ n : Nat, n < 4 → IsHex (bt t n)) : ∀ n, n ≤ 4 → 0 ≤ hacc t n ∧ hacc t n < 16 ^ n
  | 0, _ => by simp [hacc]
  | n + 1, hn => by
    have h1 := hacc_range t h n (by omega)
    have h2 := hexv_range (h n (by omega))
    simp only [hacc, Int.pow_succ]
    omega

set_option maxHeartbeats 8000000 in
set_option maxRecDepth 100000 in
theorem parseUint4 (t : ByteArray) (hsz : t.size = 4) (hh : ∀ n : Nat, n < 4 → IsHex (bt t n)) (w : World) :
    Calls Tryz.prog 250 #[.string t, .int .i64 16, .int .i64 64] w fun e w' => e = .returned (.tuple #[.int .u64 (hacc t 4), .nilIface]) ∧ Below w.heap.size w w' := by
  have hne : t.toList.isEmpty = false := by
    rw [ByteArray.toList_eq]
    cases hl : t.data.toList with
    | nil => have := data_length t; rw [hl] at this; simp at this; omega
    | cons _ _ => rfl
  have hbs := fun W => print_bytes (P := Tryz.prog) 9 80 5 Tryz.underlying9 Tryz.underlying80 Tryz.underlying5 t W
  rw [hsz] at hbs
  have HB := Aside0.mk (bytes_below (Below.refl w.heap.size w) (Nat.le_refl _) 5 t)
  have hR := Aside0.mk (bytes_reads w 5 t (by omega))
  go_enter Tryz.func250, Tryz.ntmps250
  go_wp2
  go_loopg [12, 13, 101] 4 (fun kq v12 v13 v101 wr => ∃ n : Nat, v12 = .bool false ∧ v13 = .int .u64 (hacc t n) ∧ v101 = .int .i64 (n : Int) ∧ Aside0 (n + kq = 4) ∧ Aside0 (Drawn0 (Lib.bytesWorld w 5 t) wr))
  case atStart => exact ⟨0, rfl, rfl, rfl, ⟨rfl⟩, ⟨Drawn0.refl _⟩⟩
  case round =>
    obtain ⟨n, rfl, rfl, rfl, hi, hD⟩ := hrel
    obtain ⟨nd, rfl⟩ := hD.out.out
    by_cases c : n < 4
    · have hr := Aside0.mk (hacc_range t hh n (by omega))
      have hr2 := Aside0.mk (hexv_range (hh n c))
      have h4 : (16 : Int) ^ n ≤ 4096 := by
        have : n = 0 ∨ n = 1 ∨ n = 2 ∨ n = 3 := by omega
        rcases this with rfl | rfl | rfl | rfl <;> decide
      have hcell : ((Lib.bytesWorld w 5 t).drewN nd).cell? ⟨w.heap.size, n, none⟩ = some (.int .u8 (bt t n)) := by
        have := Lib.bytesWorld_cell w 5 t n (by omega)
        have e : ((t.data.toList.getD n 0).toNat : Int) = bt t n := by
          rw [← rd_bytesOf]
          have h' : n < t.data.toList.length := by rw [data_length]; omega
          simp [rd, bytesOf, List.getD_eq_getElem?_getD, List.getElem?_eq_getElem h']
        rw [e] at this
        exact this
      have hM : ∃ m, m = hacc t n := ⟨_, rfl⟩
      obtain ⟨m, hm⟩ := hM
      have hC : ∃ x, x = bt t n := ⟨_, rfl⟩
      obtain ⟨x, hx⟩ := hC
      have hE := Aside0.mk (show hacc t (n + 1) = m * 16 + hexv x by rw [hm, hx]; rfl)
      have hH := hh n c
      rw [← hm] at hr ⊢
      rw [← hx] at hr2 hcell hH
      have hc := Aside0.mk c
      have hm' := Aside0.mk hm
      have hx' := Aside0.mk hx
      clear hm hx
      have g1 := hr.out
      have g2 := hr2.out
      have f1 : decide (1152921504606846976 ≤ m) = false := decide_eq_false (by omega)
      have f2 : m * 16 % 18446744073709551616 = m * 16 := Int.emod_eq_of_lt (by omega) (by omega)
      have f3 : (m * 16 + hexv x) % 18446744073709551616 = m * 16 + hexv x := Int.emod_eq_of_lt (by omega) (by omega)
      have f4 : decide (m * 16 + hexv x < m * 16) = false := decide_eq_false (by omega)
      have f5 : decide (IntKind.u64.wrap (IntKind.u64.wrap 18446744073709551616 - 1) < m * 16 + hexv x) = false := decide_eq_false (by rw [show IntKind.u64.wrap (IntKind.u64.wrap 18446744073709551616 - 1) = 18446744073709551615 from rfl]; omega)
      have c0 : decide ((n : Int) < 4) = true := decide_eq_true (by omega)
      have f6 : decide (16 ≤ hexv x) = false := decide_eq_false (by omega)
      have f7 : (x == 95) = false := beq_eq_false_iff_ne.mpr (by rintro rfl; revert hH; unfold IsHex; decide)
      have c1 : ((n : Int) < 4) = True := eq_true (by omega)
      clear g1 g2 h4
      rcases hH with hH | hH | hH
      · have e1 : decide (48 ≤ x) = true := decide_eq_true hH.1
        have e2 : decide (x ≤ 57) = true := decide_eq_true hH.2
        have e3 : (x - 48) % 256 = hexv x := by unfold hexv; rw [if_pos hH.2]; omega
        clear hH
        go_wp2
        go_roundg (gk - 1)
        case measure => have := hi.out; have := hc.out; omega
        case rel => exact ⟨n + 1, rfl, by rw [hE.out], by simp, ⟨by have := hi.out; have := hc.out; omega⟩, ⟨⟨nd, rfl⟩⟩⟩
      · have e1 : decide (48 ≤ x) = true := decide_eq_true (by omega)
        have e2 : decide (x ≤ 57) = false := decide_eq_false (by omega)
        have e4 : hexv x = x - 55 := by unfold hexv; rw [if_neg (by omega), if_pos hH.2]
        have C := fun wr => Lib.hid (lower_calls x (x + 32) wr (or32_up x hH.1 hH.2))
        have e5 : decide (97 ≤ x + 32) = true := decide_eq_true (by omega)
        have e6 : decide (x + 32 ≤ 122) = true := decide_eq_true (by omega)
        have e7 : ((x + 32 - 97) % 256 + 10) % 256 = hexv x := by rw [e4]; omega
        clear hH e4
        go_wp2_with (first | (go_at_call 268; refine ((C _).out).mono ?_; rintro e w1 ⟨rfl, h1⟩; obtain ⟨nd, rfl⟩ := h1.out; clear h1))
        go_roundg (gk - 1)
        case measure => have := hi.out; have := hc.out; omega
        case rel => exact ⟨n + 1, rfl, by rw [hE.out], by simp, ⟨by have := hi.out; have := hc.out; omega⟩, ⟨⟨_, rfl⟩⟩⟩
      · have e1 : decide (48 ≤ x) = true := decide_eq_true (by omega)
        have e2 : decide (x ≤ 57) = false := decide_eq_false (by omega)
        have e4 : hexv x = x - 87 := by unfold hexv; rw [if_neg (by omega), if_neg (by omega)]
        have C := fun wr => Lib.hid (lower_calls x x wr (or32_low x hH.1 hH.2))
        have e5 : decide (97 ≤ x) = true := decide_eq_true (by omega)
        have e6 : decide (x ≤ 122) = true := decide_eq_true (by omega)
        have e7 : ((x - 97) % 256 + 10) % 256 = hexv x := by rw [e4]; omega
        clear hH e4
        go_wp2_with (first | (go_at_call 268; refine ((C _).out).mono ?_; rintro e w1 ⟨rfl, h1⟩; obtain ⟨nd, rfl⟩ := h1.out; clear h1))
        go_roundg (gk - 1)
        case measure => have := hi.out; have := hc.out; omega
        case rel => exact ⟨n + 1, rfl, by rw [hE.out], by simp, ⟨by have := hi.out; have := hc.out; omega⟩, ⟨⟨_, rfl⟩⟩⟩
    · obtain rfl : n = 4 := by have := hi.out; omega
      clear c
      go_wp2
      go_ret2
      exact ⟨rfl, pw_below_drewN HB.out _⟩

theorem bt_extract (s : ByteArray) (a b n : Nat) (h : a + n < b) (hb : b ≤ s.size) : bt (s.extract a b) n = bt s ((a + n : Nat) : Int) := by
  unfold bt
  simp only [Int.toNat_natCast]
  have h1 : n < (s.extract a b).size := by simp; omega
  have h2 : a + n < s.size := by omega
  rw [dif_pos h1, dif_pos h2]
  have h3 : (s.extract a b)[n]'h1 = s[a + n]'h2 := by first | exact ByteArray.getElem_extract | (show (s.extract a b).data[n] = s.data[a+n]; simp [ByteArray.data_extract])
  rw [h3]
theorem hacc_four (t : ByteArray) : hacc t 4 = hexn t 0 := by
  show (((0 * 16 + hexv (bt t 0)) * 16 + hexv (bt t 1)) * 16 + hexv (bt t 2)) * 16 + hexv (bt t 3) = ((hexv (bt t 0) * 16 + hexv (bt t 1)) * 16 + hexv (bt t 2)) * 16 + hexv (bt t 3)
  rw [Int.zero_mul, Int.zero_add]
theorem hexn_range (s : ByteArray) (i : Nat) (h : ∀ n : Nat, n < 4 → IsHex (bt s ((i + n : Nat) : Int))) : 0 ≤ hexn s i ∧ hexn s i < 65536 := by
  have h0 := hexv_range (h 0 (by omega))
  have h1 := hexv_range (h 1 (by omega))
  have h2 := hexv_range (h 2 (by omega))
  have h3 := hexv_range (h 3 (by omega))
  unfold hexn
  simp only [Nat.add_zero] at h0
  omega
theorem hexn_extract (s : ByteArray) (a b : Nat) (h : a + 4 ≤ b) (hb : b ≤ s.size) : hexn (s.extract a b) 0 = hexn s a := by
  unfold hexn
  have e0 := bt_extract s a b 0 (by omega) hb
  have e1 := bt_extract s a b 1 (by omega) hb
  have e2 := bt_extract s a b 2 (by omega) hb
  have e3 := bt_extract s a b 3 (by omega) hb
  simp only [Nat.zero_add, Nat.add_zero] at e0 e1 e2 e3 ⊢
  rw [e0, e1, e2, e3]

set_option maxHeartbeats 8000000 in
set_option maxRecDepth 100000 in
theorem parseUint4_public (t : ByteArray) (hsz : t.size = 4) (hh : ∀ n : Nat, n < 4 → IsHex (bt t n)) (w : World) :
    Calls Tryz.prog 208 #[.string t, .int .i64 16, .int .i64 64] w fun e w' => e = .returned (.tuple #[.int .u64 (hacc t 4), .nilIface]) ∧ Below w.heap.size w w' := by
  have C := fun wr => Lib.hid (parseUint4 t hsz hh wr)
  clear hsz hh
  go_enter Tryz.func208, Tryz.ntmps208
  go_wp2_with (first | (go_at_call 250; refine ((C _).out).mono ?_; rintro e w1 ⟨rfl, h1⟩; have HB1 := Aside0.mk h1; clear h1))
  go_ret2
  exact ⟨rfl, HB1.out⟩

set_option maxHeartbeats 8000000 in
set_option maxRecDepth 100000 in
theorem runeit_calls (s : ByteArray) (hs : 4 ≤ s.size) (hh : ∀ n : Nat, n < 4 → IsHex (bt s (n : Int))) (w : World) :
    Calls Tryz.prog 146 #[.string s] w fun e w' => e = .returned (.int .i32 (hexn s 0)) ∧ Below w.heap.size w w' := by
  have hsz : (s.extract 0 4).size = 4 := by simp; omega
  have hh' : ∀ n : Nat, n < 4 → IsHex (bt (s.extract 0 4) n) := by
    intro n hn
    rw [bt_extract s 0 4 n (by omega) hs, Nat.zero_add]
    exact hh n hn
  have he : hacc (s.extract 0 4) 4 = hexn s 0 := by rw [hacc_four, hexn_extract s 0 4 (by omega) hs]
  have hr := hexn_range s 0 (by intro n hn; rw [Nat.zero_add]; exact hh n hn)
  have C := fun wr => Lib.hid (parseUint4_public (s.extract 0 4) hsz hh' wr)
  rw [he] at C
  obtain ⟨m, hm⟩ : ∃ m, m = hexn s 0 := ⟨_, rfl⟩
  rw [← hm] at C hr ⊢
  have hw : IntKind.i32.wrap m = m := by simp [IntKind.wrap, IntKind.bits, IntKind.signed]; omega
  have h4 : (4 ≤ s.size) = True := eq_true hs
  have hmin : min 4 s.size = 4 := by omega
  clear hm he hh' hsz hh
  go_enter Tryz.func146, Tryz.ntmps146
  go_wp2_with (first | (go_at_call 208; refine ((C _).out).mono ?_; rintro e w1 ⟨rfl, h1⟩; have HB1 := Aside0.mk h1; clear h1))
  go_ret
  exact ⟨rfl, HB1.out⟩
end Go.Proofs.YtdolnkknlflmeaaGreatDoor.L
end
section
/-
  utf8.EncodeRune into a cut of a row of the call's own.
-/
namespace Go.Proofs.YtdolnkknlflmeaaGreatDoor.L
open Go.RowKit Go.Proofs.YtdolnkknlflmeaaGreatDoorW.PrintWords Go.Proofs.YtdolnkknlflmeaaGreatDoorW.PrintLast Go.Proofs.YtdolnkknlflmeaaGreatDoorW.PrintMore
set_option linter.unusedVariables false
set_option linter.unusedSimpArgs false

/-- A character in UTF-8. -/
def encL (r : Int) : List Int :=
  if r ≤ 127 then [r]
  else if r ≤ 2047 then [192 + r / 64, 128 + r % 64]
  else if r < 55296 ∨ (57343 < r ∧ r ≤ 65535) then [224 + r / 4096, 128 + r / 64 % 64, 128 + r % 64]
  else if 65535 < r ∧ r ≤ 1114111 then [240 + r / 262144, 128 + r / 4096 % 64, 128 + r / 64 % 64, 128 + r % 64]
  else [239, 191, 189]

theorem enc_cells {w : World} {g o : Nat} {cur : Array Value} (hb : w.heap[g]? = some (.cells cur 5 (0, 0))) (ho : o + 8 ≤ cur.size) (h5 : ∀ j, j < 8 → ∃ x, cur[o + j]? = some (.int .u8 x)) (j : Nat) (hj : j < 8) :
    (∃ x, w.cell? ⟨g, o + j, none⟩ = some (.int .u8 x)) ∧ w.frozen? ⟨g, o + j, none⟩ = false := by
  constructor
  · obtain ⟨x, hx⟩ := h5 j hj
    exact ⟨x, by rw [cell_of_row w g _ cur 5 _ hb]; exact hx⟩
  · simp [World.frozen?, hb]

def EncPost (r : Int) (w : World) (g o : Nat) (e : Ending) (w' : World) : Prop := e = .returned (.int .i64 (encL r).length) ∧ w' = w.setCells g o (nums .u8 (encL r))

set_option maxHeartbeats 8000000 in
set_option maxRecDepth 100000 in
theorem encNon_2 (r : Int) (h1 : 127 < r) (h2 : r ≤ 2047) (w : World) (g o c : Nat) (cur : Array Value) (hb : w.heap[g]? = some (.cells cur 5 (0, 0))) (ho : o + 8 ≤ cur.size) (h5 : ∀ j, j < 8 → ∃ x, cur[o + j]? = some (.int .u8 x)) (hc : 8 ≤ c) :
    Calls Tryz.prog 209 #[.slice (some ⟨g, o, none⟩) 8 c, .int .i32 r] w (EncPost r w g o) := by
  obtain ⟨⟨x0, c0⟩, f0⟩ := enc_cells hb ho h5 0 (by omega)
  obtain ⟨⟨x1, c1⟩, f1⟩ := enc_cells hb ho h5 1 (by omega)
  simp only [Nat.add_zero] at c0 f0
  have hE : encL r = [192 + r / 64, 128 + r % 64] := by unfold encL; rw [if_neg (by omega), if_pos (by omega)]
  have hw : r % 4294967296 = r := by omega
  have e1 : Go.bits .or .u8 192 (r / 64 % 256) = 192 + r / 64 := by rw [show r / 64 % 256 = r / 64 by omega]; exact u8_or192 _ (by omega) (by omega)
  have e2 : Go.bits .and .u8 (r % 256) 63 = r % 64 := by rw [u8_and63 _ (by omega) (by omega)]; omega
  have e3 : Go.bits .or .u8 128 (r % 64) = 128 + r % 64 := u8_or128 _ (by omega) (by omega)
  have d1 : decide (r ≤ 2047) = true := decide_eq_true h2
  have hE' := Aside0.mk hE
  clear hE h1 h2 hb ho h5
  go_enter Tryz.func209, Tryz.ntmps209
  go_wp2
  go_ret
  exact ⟨by rw [hE'.out]; rfl, by rw [hE'.out]; rfl⟩

set_option maxHeartbeats 8000000 in
set_option maxRecDepth 100000 in
theorem encNon_3 (r : Int) (h1 : 2047 < r) (h2 : r ≤ 65535) (h3 : r < 55296 ∨ 57343 < r) (w : World) (g o c : Nat) (cur : Array Value) (hb : w.heap[g]? = some (.cells cur 5 (0, 0))) (ho : o + 8 ≤ cur.size) (h5 : ∀ j, j < 8 → ∃ x, cur[o + j]? = some (.int .u8 x)) (hc : 8 ≤ c) :
    Calls Tryz.prog 209 #[.slice (some ⟨g, o, none⟩) 8 c, .int .i32 r] w (EncPost r w g o) := by
  obtain ⟨⟨x0, c0⟩, f0⟩ := enc_cells hb ho h5 0 (by omega)
  obtain ⟨⟨x1, c1⟩, f1⟩ := enc_cells hb ho h5 1 (by omega)
  obtain ⟨⟨x2, c2⟩, f2⟩ := enc_cells hb ho h5 2 (by omega)
  simp only [Nat.add_zero] at c0 f0
  have hE : encL r = [224 + r / 4096, 128 + r / 64 % 64, 128 + r % 64] := by unfold encL; rw [if_neg (by omega), if_neg (by omega), if_pos (by omega)]
  have hw : r % 4294967296 = r := by omega
  have e1 : Go.bits .or .u8 224 (r / 4096 % 256) = 224 + r / 4096 := by rw [show r / 4096 % 256 = r / 4096 by omega]; exact u8_or224 _ (by omega) (by omega)
  have e2 : Go.bits .and .u8 (r / 64 % 256) 63 = r / 64 % 64 := by rw [u8_and63 _ (by omega) (by omega)]; omega
  have e3 : Go.bits .or .u8 128 (r / 64 % 64) = 128 + r / 64 % 64 := u8_or128 _ (by omega) (by omega)
  have e4 : Go.bits .and .u8 (r % 256) 63 = r % 64 := by rw [u8_and63 _ (by omega) (by omega)]; omega
  have e5 : Go.bits .or .u8 128 (r % 64) = 128 + r % 64 := u8_or128 _ (by omega) (by omega)
  have d1 : decide (r ≤ 2047) = false := decide_eq_false (by omega)
  have d3 : decide (r ≤ 65535) = true := decide_eq_true h2
  have hE' := Aside0.mk hE
  rcases h3 with h3 | h3
  · have d2 : decide (r < 55296) = true := decide_eq_true h3
    clear hE h1 h2 h3 hb ho h5
    go_enter Tryz.func209, Tryz.ntmps209
    go_wp2
    go_ret
    exact ⟨by rw [hE'.out]; rfl, by rw [hE'.out]; rfl⟩
  · have d2 : decide (r < 55296) = false := decide_eq_false (by omega)
    have d4 : decide (57343 < r) = true := decide_eq_true h3
    clear hE h1 h2 h3 hb ho h5
    go_enter Tryz.func209, Tryz.ntmps209
    go_wp2
    go_ret
    exact ⟨by rw [hE'.out]; rfl, by rw [hE'.out]; rfl⟩

set_option maxHeartbeats 8000000 in
set_option maxRecDepth 100000 in
theorem encNon_4 (r : Int) (h1 : 65535 < r) (h2 : r ≤ 1114111) (w : World) (g o c : Nat) (cur : Array Value) (hb : w.heap[g]? = some (.cells cur 5 (0, 0))) (ho : o + 8 ≤ cur.size) (h5 : ∀ j, j < 8 → ∃ x, cur[o + j]? = some (.int .u8 x)) (hc : 8 ≤ c) :
    Calls Tryz.prog 209 #[.slice (some ⟨g, o, none⟩) 8 c, .int .i32 r] w (EncPost r w g o) := by
  obtain ⟨⟨x0, c0⟩, f0⟩ := enc_cells hb ho h5 0 (by omega)
  obtain ⟨⟨x1, c1⟩, f1⟩ := enc_cells hb ho h5 1 (by omega)
  obtain ⟨⟨x2, c2⟩, f2⟩ := enc_cells hb ho h5 2 (by omega)
  obtain ⟨⟨x3, c3⟩, f3⟩ := enc_cells hb ho h5 3 (by omega)
  simp only [Nat.add_zero] at c0 f0
  have hE : encL r = [240 + r / 262144, 128 + r / 4096 % 64, 128 + r / 64 % 64, 128 + r % 64] := by unfold encL; rw [if_neg (by omega), if_neg (by omega), if_neg (by omega), if_pos (by omega)]
  have hw : r % 4294967296 = r := by omega
  have e1 : Go.bits .or .u8 240 (r / 262144 % 256) = 240 + r / 262144 := by rw [show r / 262144 % 256 = r / 262144 by omega]; exact u8_or240 _ (by omega) (by omega)
  have e6 : Go.bits .and .u8 (r / 4096 % 256) 63 = r / 4096 % 64 := by rw [u8_and63 _ (by omega) (by omega)]; omega
  have e7 : Go.bits .or .u8 128 (r / 4096 % 64) = 128 + r / 4096 % 64 := u8_or128 _ (by omega) (by omega)
  have e2 : Go.bits .and .u8 (r / 64 % 256) 63 = r / 64 % 64 := by rw [u8_and63 _ (by omega) (by omega)]; omega
  have e3 : Go.bits .or .u8 128 (r / 64 % 64) = 128 + r / 64 % 64 := u8_or128 _ (by omega) (by omega)
  have e4 : Go.bits .and .u8 (r % 256) 63 = r % 64 := by rw [u8_and63 _ (by omega) (by omega)]; omega
  have e5 : Go.bits .or .u8 128 (r % 64) = 128 + r % 64 := u8_or128 _ (by omega) (by omega)
  have d1 : decide (r ≤ 2047) = false := decide_eq_false (by omega)
  have d2 : decide (r < 55296) = false := decide_eq_false (by omega)
  have d3 : decide (r ≤ 65535) = false := decide_eq_false (by omega)
  have d4 : decide (57343 < r) = true := decide_eq_true (by omega)
  have d5 : decide (65535 < r) = true := decide_eq_true (by omega)
  have d6 : decide (r ≤ 1114111) = true := decide_eq_true (by omega)
  have hE' := Aside0.mk hE
  clear hE h1 h2 hb ho h5
  go_enter Tryz.func209, Tryz.ntmps209
  go_wp2
  go_ret
  exact ⟨by rw [hE'.out]; rfl, by rw [hE'.out]; rfl⟩

/-- The characters that are no half of a surrogate pair. -/
def Scalar (r : Int) : Prop := 0 ≤ r ∧ r ≤ 1114111 ∧ (r < 55296 ∨ 57343 < r)
set_option maxHeartbeats 8000000 in
set_option maxRecDepth 100000 in
theorem encodeRune_calls (r : Int) (hr : Scalar r) (w : World) (g o c : Nat) (cur : Array Value) (hb : w.heap[g]? = some (.cells cur 5 (0, 0))) (ho : o + 8 ≤ cur.size) (h5 : ∀ j, j < 8 → ∃ x, cur[o + j]? = some (.int .u8 x)) (hc : 8 ≤ c) :
    Calls Tryz.prog 149 #[.slice (some ⟨g, o, none⟩) 8 c, .int .i32 r] w (EncPost r w g o) := by
  obtain ⟨r0, r1, r2⟩ := hr
  have hw : r % 4294967296 = r := by omega
  by_cases h : r ≤ 127
  · obtain ⟨⟨x0, c0⟩, f0⟩ := enc_cells hb ho h5 0 (by omega)
    simp only [Nat.add_zero] at c0 f0
    have d1 : decide (r ≤ 127) = true := decide_eq_true h
    have hE' := Aside0.mk (show encL r = [r] by unfold encL; rw [if_pos h])
    have hm : r % 256 = r := by omega
    clear hb ho h5 h r0 r1 r2
    go_enter Tryz.func149, Tryz.ntmps149
    go_wp2
    go_ret
    exact ⟨by rw [hE'.out]; rfl, by rw [hE'.out]; rfl⟩
  · have d1 : decide (r ≤ 127) = false := decide_eq_false h
    have C : Hid (Calls Tryz.prog 209 #[.slice (some ⟨g, o, none⟩) 8 c, .int .i32 r] w (EncPost r w g o)) := Lib.hid (by
      by_cases h2 : r ≤ 2047
      · exact encNon_2 r (by omega) h2 w g o c cur hb ho h5 hc
      · by_cases h3 : r ≤ 65535
        · exact encNon_3 r (by omega) h3 r2 w g o c cur hb ho h5 hc
        · exact encNon_4 r (by omega) r1 w g o c cur hb ho h5 hc)
    clear hb ho h5 h r0 r1 r2
    go_enter Tryz.func149, Tryz.ntmps149
    go_wp2_with (first | (go_at_call 209; refine (C.out).mono ?_; rintro e w1 ⟨rfl, rfl⟩))
    go_ret
    exact ⟨rfl, rfl⟩
end Go.Proofs.YtdolnkknlflmeaaGreatDoor.L
end
section
/-
  What gjson.unescape reads; the laws for its row.
-/
namespace Go.Proofs.YtdolnkknlflmeaaGreatDoor.L
open Go.RowKit Go.Proofs.YtdolnkknlflmeaaGreatDoorW.PrintWords Go.Proofs.YtdolnkknlflmeaaGreatDoorW.PrintLast Go.Proofs.YtdolnkknlflmeaaGreatDoorW.PrintMore
set_option linter.unusedVariables false
set_option linter.unusedSimpArgs false

def Esc1 (d c : Int) : Prop := (d = 92 ∧ c = 92) ∨ (d = 47 ∧ c = 47) ∨ (d = 98 ∧ c = 8) ∨ (d = 102 ∧ c = 12) ∨ (d = 110 ∧ c = 10) ∨ (d = 114 ∧ c = 13) ∨ (d = 116 ∧ c = 9) ∨ (d = 34 ∧ c = 34)
def Hex4 (s : ByteArray) (i : Nat) : Prop := ∀ n : Nat, n < 4 → IsHex (bt s ((i + n : Nat) : Int))
/-- From place i on the text s unescapes to r. -/
inductive Un (s : ByteArray) : Nat → List Int → Prop
  | done : Un s s.size []
  | plain {i : Nat} {c : Int} {r : List Int} : i < s.size → bt s i = c → 32 ≤ c → c ≠ 92 → Un s (i + 1) r → Un s i (c :: r)
  | esc {i : Nat} {d c : Int} {r : List Int} : i + 1 < s.size → bt s i = 92 → bt s ((i + 1 : Nat) : Int) = d → Esc1 d c → Un s (i + 2) r → Un s i (c :: r)
  | uni {i : Nat} {u : Int} {r : List Int} : i + 6 ≤ s.size → bt s i = 92 → bt s ((i + 1 : Nat) : Int) = 117 → Hex4 s (i + 2) → hexn s (i + 2) = u → (u < 55296 ∨ 57343 < u) → Un s (i + 6) r → Un s i (encL u ++ r)
  | pair {i : Nat} {u v : Int} {r : List Int} : i + 12 ≤ s.size → bt s i = 92 → bt s ((i + 1 : Nat) : Int) = 117 → Hex4 s (i + 2) → hexn s (i + 2) = u → 55296 ≤ u → u < 56320 →
      bt s ((i + 6 : Nat) : Int) = 92 → bt s ((i + 7 : Nat) : Int) = 117 → Hex4 s (i + 8) → hexn s (i + 8) = v → 56320 ≤ v → v < 57344 → Un s (i + 12) r → Un s i (encL (65536 + (u - 55296) * 1024 + (v - 56320)) ++ r)

theorem Un.le {s : ByteArray} {i : Nat} {r : List Int} (h : Un s i r) : i ≤ s.size := by cases h <;> omega

theorem decodeRune_pair (u v : Int) (h1 : 55296 ≤ u) (h2 : u < 56320) (h3 : 56320 ≤ v) (h4 : v < 57344) : utf16_DecodeRune.f u v = some (65536 + (u - 55296) * 1024 + (v - 56320)) := by
  unfold utf16_DecodeRune.f
  rw [if_pos h1, if_pos h2, if_pos h3, if_pos h4]
  congr 1
  have e1 : wrap32 (u - 55296) = u - 55296 := by unfold wrap32; omega
  have e2 : wrap32 ((u - 55296) * 1024) = (u - 55296) * 1024 := by unfold wrap32; omega
  have e3 : wrap32 (v - 56320) = v - 56320 := by unfold wrap32; omega
  rw [e1, e2, e3, bits_join .i32 31 (by decide) wraps_i32 10 _ _ (by omega) (by omega) (by omega) (by omega) (by omega) (by omega)]
  unfold wrap32
  omega

/-- The row behind eight zeros appended: the block, its room. -/
structure Z8 (w0 w : World) (base g cap : Nat) (cur : Array Value) (xs : List Int) : Prop where
  hb : base ≤ g
  blk : w.heap[g]? = some (.cells cur 5 (0, 0))
  sz : cur.size = cap
  mx : cap ≤ maxLen
  fit : xs.length + 8 ≤ cap
  tk : cur.toList.take (xs.length + 8) = nums .u8 (xs ++ [0, 0, 0, 0, 0, 0, 0, 0])
  below : Below base w0 w

theorem heap_setCells (g : Nat) : ∀ (vs : List Value) (o : Nat) (w : World) (cur : Array Value), w.heap[g]? = some (.cells cur 5 (0, 0)) →
    ∃ cur' : Array Value, (w.setCells g o vs).heap[g]? = some (.cells cur' 5 (0, 0)) ∧ cur'.size = cur.size ∧ (∀ j, j < o → cur'[j]? = cur[j]?) ∧ (∀ j, j < vs.length → o + j < cur.size → cur'[o + j]? = vs[j]?)
  | [], o, w, cur, h => ⟨cur, h, rfl, fun _ _ => rfl, fun j hj => by simp at hj⟩
  | v :: r, o, w, cur, h => by
    have h1 : (w.setCell ⟨g, o, none⟩ v).heap[g]? = some (.cells (cur.setIfInBounds o v) 5 (0, 0)) := by simp [World.setCell, Array.getElem?_modify, h]
    obtain ⟨cur', e1, e2, e3, e4⟩ := heap_setCells g r (o + 1) _ _ h1
    refine ⟨cur', e1, by rw [e2]; simp, fun j hj => ?_, fun j hj hs => ?_⟩
    · rw [e3 j (by omega)]
      simp [Array.getElem?_setIfInBounds]
      omega
    · match j with
      | 0 =>
        rw [Nat.add_zero, e3 o (by omega)]
        simp [Array.getElem?_setIfInBounds]
        omega
      | j + 1 =>
        have := e4 j (by simpa using hj) (by simp; omega)
        rw [show o + (j + 1) = o + 1 + j by omega, this]
        rfl
theorem below_setCells' {B b : Nat} {a : World} (hb : B ≤ b) : ∀ (vs : List Value) (o : Nat) (w : World), Below B a w → Below B a (w.setCells b o vs)
  | [], _, _, h => h
  | v :: r, o, w, h => below_setCells' hb r (o + 1) _ (h.setCell hb v)

theorem Z8.enc {w0 w : World} {base g cap : Nat} {cur : Array Value} {xs : List Int} (h : Z8 w0 w base g cap cur xs) (ys : List Int) (hy : ys.length ≤ 8) :
    Kd.R (Kd.int .u8) 5 (w.setCells g xs.length (nums .u8 ys)) base (fun _ => True) (.slice (some ⟨g, 0, none⟩) (xs.length + ys.length) cap) (xs ++ ys) ∧ Below base w0 (w.setCells g xs.length (nums .u8 ys)) := by
  refine ⟨?_, below_setCells' h.hb _ _ _ h.below⟩
  obtain ⟨cur', e1, e2, e3, e4⟩ := heap_setCells g (nums .u8 ys) xs.length w cur h.blk
  refine Kd.R_of_own ?_ (fun _ _ => trivial)
  have hf := h.fit
  have hz := h.sz
  have hn : (nums .u8 ys).length = ys.length := nums_length _ _
  rw [List.length_append]
  refine ⟨by simp [encs], .inr ⟨g, cap, cur', rfl, h.hb, e1, by omega, h.mx, by omega, ?_⟩⟩
  rw [Nat.mul_one]
  apply List.ext_getElem?
  intro j
  rw [List.getElem?_take]
  have hl : (encs (Value.int .u8) (xs ++ ys)).length = xs.length + ys.length := by simp [encs]
  by_cases hj : j < xs.length + ys.length
  · rw [if_pos hj, Array.getElem?_toList]
    by_cases hx : j < xs.length
    · rw [e3 j hx]
      have h1 : (cur.toList.take (xs.length + 8))[j]? = cur[j]? := by rw [List.getElem?_take, if_pos (by omega), Array.getElem?_toList]
      rw [← h1, h.tk]
      simp [nums, encs, List.getElem?_append, hx]
    · have h1 := e4 (j - xs.length) (by omega) (by omega)
      rw [show xs.length + (j - xs.length) = j by omega] at h1
      rw [h1]
      simp [nums, encs, List.getElem?_append, hx]
  · rw [if_neg hj, List.getElem?_eq_none (by omega)]

theorem Z8.ints {w0 w : World} {base g cap : Nat} {cur : Array Value} {xs : List Int} (h : Z8 w0 w base g cap cur xs) : ∀ j, j < 8 → ∃ x, cur[xs.length + j]? = some (.int .u8 x) := by
  intro j hj
  have h1 : (cur.toList.take (xs.length + 8))[xs.length + j]? = cur[xs.length + j]? := by rw [List.getElem?_take, if_pos (by omega), Array.getElem?_toList]
  refine ⟨0, ?_⟩
  rw [← h1, h.tk]
  have : j = 0 ∨ j = 1 ∨ j = 2 ∨ j = 3 ∨ j = 4 ∨ j = 5 ∨ j = 6 ∨ j = 7 := by omega
  simp only [nums, List.map_append]
  rw [List.getElem?_append_right (by simp)]
  rcases this with rfl | rfl | rfl | rfl | rfl | rfl | rfl | rfl <;> simp

theorem elem80 : Tryz.prog.elem 80 = 5 := by simp [Program.elem, Tryz.underlying80]
theorem cut_low (W : World) (g n cap : Nat) (h : n + 8 ≤ cap) : (Instr.slice 80 (.slice (some ⟨g, 0, none⟩) (n + 8) cap) (some (.int .i64 (n : Int))) none none).run Tryz.prog W = .ok (.slice (some ⟨g, n, none⟩) 8 (cap - n)) W := by
  obtain ⟨i, hi, hz0, hz1, hz2⟩ := info_parts info5
  have hu : Tryz.prog.underlying 80 = some (.slice (Tryz.prog.elem 80)) := by rw [elem80]; exact Tryz.underlying80
  have ha : (⟨g, 0, none⟩ : Addr).add n = ⟨g, n, none⟩ := add_plain g n
  rw [run_slice_l W 80 (some ⟨g, 0, none⟩) (n + 8) cap hu .i64 (n : Int) (Int.natCast_nonneg _) (by omega), elem80]
  have hne : ¬ cap = n := by omega
  simp [sizeOf, typeInfo, hi, hz1, sliced, Result.andThen, hne, ha]
  try omega
theorem cut_high (W : World) (g n m cap : Nat) (h : n + m ≤ cap) : (Instr.slice 80 (.slice (some ⟨g, 0, none⟩) (n + 8) cap) none (some (.int .i64 ((n : Int) + (m : Int)))) none).run Tryz.prog W = .ok (.slice (some ⟨g, 0, none⟩) (n + m) cap) W := by
  obtain ⟨i, hi, hz0, hz1, hz2⟩ := info_parts info5
  have hu : Tryz.prog.underlying 80 = some (.slice (Tryz.prog.elem 80)) := by rw [elem80]; exact Tryz.underlying80
  rw [run_slice_h W 80 (some ⟨g, 0, none⟩) (n + 8) cap hu .i64 ((n : Int) + (m : Int)) (by omega) (by omega), elem80]
  have e : ((n : Int) + (m : Int)).toNat = n + m := by omega
  simp [sizeOf, typeInfo, hi, hz1, sliced, Result.andThen, e]
  intro _
  exact add_plain g 0
section
variable {ops : Array Oper} {rest : List Oper} {o : Oper} {a : Act} {Q : Exit → Act → World → Prop}
def zeros8 : Array Value := #[.int .u8 0, .int .u8 0, .int .u8 0, .int .u8 0, .int .u8 0, .int .u8 0, .int .u8 0, .int .u8 0]
/-- append(v, 0, 0, 0, 0, 0, 0, 0, 0) -/
theorem ap8z {w0 W : World} (base : Nat) (hgd : o.guard = none) (d x : Operand) (ho : o.op = .call { callee := .builtin .append, args := #[d, x], argTypes := #[80, 80] })
    (v : Value) (xs : List Int) (hs : a.eval d = v) (hx : a.eval x = .slice (some ⟨W.heap.size, 0, none⟩) 8 8)
    (HO : Kd.R (Kd.int .u8) 5 W base (fun _ => True) v xs) (HB : Below base w0 W) (hbase : base ≤ W.heap.size) (hl : xs.length < 100000000000)
    (h : ∀ g cap cur w1, Z8 w0 w1 base g cap cur xs → wpList Tryz.prog ops Q rest (a.put o.dst (.slice (some ⟨g, 0, none⟩) (xs.length + 8) cap)) w1) :
    wpList Tryz.prog ops Q (o :: rest) a (W.alloc (.cells #[.int .u8 0, .int .u8 0, .int .u8 0, .int .u8 0, .int .u8 0, .int .u8 0, .int .u8 0, .int .u8 0] 5)) := by
  obtain ⟨i, hi, hz0, hz1, hz2⟩ := info_parts info5
  have hown := Kd.own_of_R HO
  refine wpList_append_own_at (W.alloc (.cells zeros8 5)) hgd d x 80 ho base 5 i (.int .u8 0) 1 1 Tryz.underlying80 hi hz0 hz1 hz2 rfl (by decide) v xs.length _ hs (hown.alloc _) ⟨W.heap.size, 0, none⟩ 8 8 zeros8.toList hx rfl
    (World.news_of_block (cs := zeros8) (t := 5) (fr := (0, 0)) (heap_alloc_new W _)) (by decide) (by simp only [maxLen]; omega) (by omega) (by simp; omega) ?_
  intro v1 w1 ho1 hg hnil hat
  rcases ho1.2 with ⟨rfl, hn⟩ | ⟨g, cap, cur, rfl, hb, hblk, hfit, hmx, hsz, htk⟩
  · omega
  · refine h g cap cur w1 ⟨hb, hblk, by simpa using hsz, hmx, hfit, ?_, (HB.alloc hbase _).grown hg (by simp; omega) (own_base hown)⟩
    rw [Nat.mul_one] at htk
    rw [htk, nums_append]
    rfl
end
end Go.Proofs.YtdolnkknlflmeaaGreatDoor.L
end
