/-
  gjson.parseObjectPath of a component that Escape has made: the walk.
-/
import Derived.Test.YtdolnkknlflmeaaGreatDoorZOs
namespace Go.Proofs.YtdolnkknlflmeaaGreatDoor.L
open Go.RowKit Go.Proofs.YtdolnkknlflmeaaGreatDoorW.PrintWords Go.Proofs.YtdolnkknlflmeaaGreatDoorW.PrintLast Go.Proofs.YtdolnkknlflmeaaGreatDoorW.PrintMore
set_option linter.unusedVariables false
set_option linter.unusedSimpArgs false

def opCells (p : ByteArray) : Array Value := #[.string p, .string ⟨#[]⟩, .string ⟨#[]⟩, .bool false, .bool false, .bool false]
def OpPost (s : ByteArray) (w : World) (e : Ending) (w' : World) : Prop := e = .returned (.agg (opCells s)) ∧ Below w.heap.size w w'

theorem opBlk {w wr : World} (h : Below (w.heap.size + 1) (w.alloc (.cells (opCells ⟨#[]⟩) 161)) wr) : Blk wr w.heap.size 161 (opCells ⟨#[]⟩) := (Blk.new w 161 _).below h (Nat.lt_succ_self _)
theorem below_of_alloc {w wr : World} {o : Obj} (h : Below (w.heap.size + 1) (w.alloc o) wr) : Below w.heap.size w wr :=
  below_then (below_alloc (Below.refl _ _) o) (by simp) ⟨h.os, h.tape, h.output, h.size, fun k hk => h.block k (by simpa using hk)⟩
/-- A byte of the path as the walk asks for it. -/
theorem at_of {p : ByteArray} {n : Nat} {c : Int} (h : bt p (n : Int) = c) : ∀ h : n < p.size, ((p[n]'h).toNat : Int) = c := by
  intro h1
  have h2 := bt_at p n
  simp only [Int.toNat_natCast] at h2
  rw [h2 h1, h]

set_option maxHeartbeats 8000000 in
set_option maxRecDepth 100000 in
theorem parseObjectPath_esc (s : ByteArray) (hs : s.size ≤ 1000000) (w : World) : Calls Tryz.prog 109 #[.string (escS s)] w (OpPost s w) := by
  have hp : ∃ p : ByteArray, p = strOfNums (escL (bytesOf s)) := ⟨_, rfl⟩
  obtain ⟨p, hp⟩ := hp
  have hpe : escS s = p := hp.symm
  rw [hpe]
  have hL := byt_bytesOf s
  have hlen := bytesOf_length s
  have hsize : p.size ≤ 2 * s.size := by rw [hp, strOfNums_size]; have := escL_length (bytesOf s); rw [hlen] at this; exact this
  have hpp := Aside0.mk hp
  have HB := Aside0.mk (show Below (w.heap.size + 1) (w.alloc (.cells (opCells ⟨#[]⟩) 161)) (w.alloc (.cells (opCells ⟨#[]⟩) 161)) from Below.refl _ _)
  clear hp hpe
  go_enter Tryz.func109, Tryz.ntmps109
  go_wp2
  go_loopg [3] s.size (fun kq v3 wr => ∃ n : Nat, v3 = .int .i64 (n : Int) ∧ Aside0 (n + kq = s.size) ∧ Aside0 (∀ c, c ∈ (bytesOf s).take n → safeB c = true) ∧ Aside0 (Below (w.heap.size + 1) (w.alloc (.cells (opCells ⟨#[]⟩) 161)) wr))
  case atStart => exact ⟨0, rfl, ⟨by omega⟩, ⟨by simp⟩, HB⟩
  case round => 
    clear HB
    obtain ⟨n, rfl, hi, hS, HB⟩ := hrel
    by_cases c : n < s.size
    · have hj : n < (bytesOf s).length := by rw [hlen]; exact c
      have hep := epos_all (bytesOf s) n (by omega) hS.out
      cases hc : safeB ((bytesOf s)[n]) with
      | true =>
        obtain ⟨q1, q2⟩ := esc_bt_safe (bytesOf s) hL n hj hc
        rw [hep, ← hpp.out] at q1 q2
        obtain ⟨t1, t2, t3, t4, t5⟩ := safe_ne hc
        have hx := at_of q2
        have hS' : Aside0 (∀ c, c ∈ (bytesOf s).take (n + 1) → safeB c = true) := ⟨by
          intro c h
          rw [List.take_succ_eq_append_getElem hj] at h
          rcases List.mem_append.1 h with h | h
          · exact hS.out c h
          · simp at h; rw [h]; exact hc⟩
        obtain ⟨x, hxe⟩ : ∃ x, x = (bytesOf s)[n] := ⟨_, rfl⟩
        rw [← hxe] at t1 t2 t3 t4 t5 hx
        clear hxe hc q2 hep hj hL hlen
        go_wp2
        go_roundg (gk - 1)
        case measure => have := hi.out; omega
        case rel => exact ⟨n + 1, by simp, ⟨by have := hi.out; omega⟩, hS', HB⟩
      | false => 
        obtain ⟨q1, q2, q3⟩ := esc_bt_not (bytesOf s) hL n hj hc
        rw [hep, ← hpp.out] at q1 q2 q3
        have hx := at_of q2
        have hx1 := at_of q3
        have q0 : n < p.size := by omega
        obtain ⟨x, hxe⟩ : ∃ x, x = (bytesOf s)[n] := ⟨_, rfl⟩
        rw [← hxe] at hx1
        have hxE := Aside0.mk hxe
        clear hxe
        have hbs := fun W => print_bytes (P := Tryz.prog) 9 80 5 Tryz.underlying9 Tryz.underlying80 Tryz.underlying5 (p.extract 0 n) W
        have hmin : min n p.size = n := by omega
        have hz : (p.extract 0 n).size = n := by simp; omega
        have hO1 : Aside0 (RB (Lib.bytesWorld wr 5 (p.extract 0 n)) (w.heap.size + 1) (.slice (some ⟨wr.heap.size, 0, none⟩) n (grownCap wr n 0 5)) ((bytesOf s).take n)) := ⟨by
          have h1 := RB.conv wr (w.heap.size + 1) (p.extract 0 n) (by have := HB.out.size; simp at this; omega) (by rw [hz]; omega)
          have e : bytesOf (p.extract 0 n) = (bytesOf s).take n := by
            have e1 : bytesOf p = escL (bytesOf s) := by rw [hpp.out]; exact bytesOf_strOfNums _ (byt_esc hL)
            have e2 : bytesOf (p.extract 0 n) = (bytesOf p).take n := by simp [bytesOf, List.map_take]
            rw [e2, e1]
            have e3 : escL (bytesOf s) = (bytesOf s).take n ++ escL ((bytesOf s).drop n) := by
              conv => lhs; rw [← List.take_append_drop n (bytesOf s), escL_append, escL_safe _ hS.out]
            rw [e3, List.take_append_of_le_length (by rw [List.length_take, hlen]; omega), List.take_take, Nat.min_self]
          rw [e, hz] at h1
          exact h1⟩
        have HB1 := Aside0.mk (bytes_below HB.out (by have := HB.out.size; simp at this; omega) 5 (p.extract 0 n))
        clear hz
        go_wp2_with (first | (at_builtin; go_loud (refine apRB (w0 := w.alloc (.cells (opCells ⟨#[]⟩) 161)) (W := Lib.bytesWorld wr 5 (p.extract 0 n)) (w.heap.size + 1) rfl (.tmp 82) (.tmp 86) rfl _ _ x rfl rfl hO1.out HB1.out (by have := HB1.out.size; simp at this; omega) (by rw [List.length_take]; omega) ?_); intro v4 w4 ho hb; have HO4 := Aside0.mk ho; have HB4 := Aside0.mk hb; clear ho hb))
        have hst : Aside0 (epos (bytesOf s) (n + 1) = n + 2 ∧ (bytesOf s).take (n + 1) = (bytesOf s).take n ++ [x]) := ⟨by
          refine ⟨by rw [epos_not (bytesOf s) n hj hc, hep], ?_⟩
          rw [List.take_succ_eq_append_getElem hj, hxE.out]⟩
        have hn := Aside0.mk c
        clear hx hx1 q0 q1 q2 q3 hep hbs hc c hmin hO1 HB1 HB hS hxE hj
        go_loopg [3, 4] (s.size - (n + 1)) (fun kq v3 v4 wr => ∃ j : Nat, v3 = .int .i64 ((epos (bytesOf s) j : Nat) : Int) ∧ Aside0 (j ≤ s.size ∧ j + kq = s.size) ∧ Aside0 (RB wr (w.heap.size + 1) v4 ((bytesOf s).take j)) ∧ Aside0 (Below (w.heap.size + 1) (w.alloc (.cells (opCells ⟨#[]⟩) 161)) wr))
        case atStart => exact ⟨n + 1, by rw [hst.out.1]; simp; omega, ⟨by have := hn.out; omega⟩, ⟨by rw [hst.out.2]; exact HO4.out⟩, HB4⟩
        case round =>
          clear HO4 HB4 hst hn hi
          obtain ⟨j, rfl, hi, HO, HB⟩ := hrel
          by_cases c : j < s.size
          · have hj : j < (bytesOf s).length := by rw [hlen]; exact c
            have hc2 := Aside0.mk c
            have hl := Aside0.mk (show ((bytesOf s).take j).length < 100000000000 by rw [List.length_take]; omega)
            cases hc : safeB ((bytesOf s)[j]) with
            | true =>
              obtain ⟨q1, q2⟩ := esc_bt_safe (bytesOf s) hL j hj hc
              rw [← hpp.out] at q1 q2
              obtain ⟨t1, t2, t3, t4, t5⟩ := safe_ne hc
              have hx := at_of q2
              have hE : Aside0 (epos (bytesOf s) (j + 1) = epos (bytesOf s) j + 1 ∧ (bytesOf s).take (j + 1) = (bytesOf s).take j ++ [(bytesOf s)[j]]) := ⟨epos_safe _ j hj hc, List.take_succ_eq_append_getElem hj⟩
              obtain ⟨x, hxe⟩ : ∃ x, x = (bytesOf s)[j] := ⟨_, rfl⟩
              obtain ⟨m, hm⟩ : ∃ m, m = epos (bytesOf s) j := ⟨_, rfl⟩
              rw [← hxe] at t1 t2 t3 t4 t5 hx hE
              rw [← hm] at hx q1 hE ⊢
              clear hxe hc q2 hm hj c
              go_wp2_with (first | (at_builtin; refine apRB (w0 := w.alloc (.cells (opCells ⟨#[]⟩) 161)) (W := wr) (w.heap.size + 1) rfl (.tmp 167) (.tmp 171) rfl _ _ x rfl rfl HO.out HB.out (by have := HB.out.size; simp at this; omega) hl.out ?_; intro v5 w5 ho hb; have HO5 := Aside0.mk ho; have HB5 := Aside0.mk hb; clear ho hb))
              go_roundg (gk - 1)
              case measure => have := hi.out; have := hc2.out; omega
              case rel => have := hc2.out; exact ⟨j + 1, by rw [hE.out.1]; simp, ⟨by have := hi.out; omega⟩, ⟨by rw [hE.out.2]; exact HO5.out⟩, HB5⟩
            | false => 
              obtain ⟨q1, q2, q3⟩ := esc_bt_not (bytesOf s) hL j hj hc
              rw [← hpp.out] at q1 q2 q3
              have hx := at_of q2
              have hx1 := at_of q3
              have hE : Aside0 (epos (bytesOf s) (j + 1) = epos (bytesOf s) j + 2 ∧ (bytesOf s).take (j + 1) = (bytesOf s).take j ++ [(bytesOf s)[j]]) := ⟨epos_not _ j hj hc, List.take_succ_eq_append_getElem hj⟩
              obtain ⟨x, hxe⟩ : ∃ x, x = (bytesOf s)[j] := ⟨_, rfl⟩
              obtain ⟨m, hm⟩ : ∃ m, m = epos (bytesOf s) j := ⟨_, rfl⟩
              rw [← hxe] at hx1 hE
              rw [← hm] at hx hx1 q1 hE ⊢
              have q0 : m < p.size := by omega
              clear hxe hc q2 q3 hm hj c
              go_wp2_with (first | (at_builtin; refine apRB (w0 := w.alloc (.cells (opCells ⟨#[]⟩) 161)) (W := wr) (w.heap.size + 1) rfl (.tmp 106) (.tmp 110) rfl _ _ x rfl rfl HO.out HB.out (by have := HB.out.size; simp at this; omega) hl.out ?_; intro v5 w5 ho hb; have HO5 := Aside0.mk ho; have HB5 := Aside0.mk hb; clear ho hb))
              go_roundg (gk - 1)
              case measure => have := hi.out; have := hc2.out; omega
              case rel => have := hc2.out; exact ⟨j + 1, by rw [hE.out.1]; simp; omega, ⟨by have := hi.out; omega⟩, ⟨by rw [hE.out.2]; exact HO5.out⟩, HB5⟩
          · obtain rfl : j = s.size := by have := hi.out; omega
            have hcv := strRB HO.out
            have hm : epos (bytesOf s) s.size = p.size := by rw [hpp.out, strOfNums_size, ← hlen, epos_end]
            have hr : strOfNums ((bytesOf s).take s.size) = s := by rw [List.take_of_length_le (by omega), strOfNums_bytesOf]
            rw [hr] at hcv
            rw [hm]
            have hK := Aside0.mk (opBlk HB.out)
            have c0 := hK.out.cell 0
            have f0 := hK.out.frozen 0
            simp [opCells] at c0
            clear c hm hr
            go_wp2
            refine bodyPost_ret (results_blk (p := 2) rfl _ _ w.heap.size 161 (opCells s) _ rfl (hK.out.set_ 0 _) Tryz.underlying161 rfl size161) rfl ?_
            exact ⟨rfl, below_of_alloc HB.out |>.setCell (Nat.le_refl _) _⟩
    · have hn : n = s.size := by have := hi.out; omega
      subst hn
      have hps : Aside0 (p = s) := ⟨by
        rw [hpp.out, escL_safe, strOfNums_bytesOf]
        have h1 := hS.out
        rw [List.take_of_length_le (by omega)] at h1
        exact h1⟩
      have hK := Aside0.mk (opBlk HB.out)
      have c0 := hK.out.cell 0
      have f0 := hK.out.frozen 0
      simp [opCells] at c0
      clear c
      have hm : p.size = s.size := by rw [hps.out]
      go_wp2
      refine bodyPost_ret (results_blk (p := 2) rfl _ _ w.heap.size 161 (opCells p) _ rfl (hK.out.set_ 0 _) Tryz.underlying161 rfl size161) rfl ?_
      exact ⟨by rw [hps.out], below_of_alloc HB.out |>.setCell (Nat.le_refl _) _⟩
end Go.Proofs.YtdolnkknlflmeaaGreatDoor.L
