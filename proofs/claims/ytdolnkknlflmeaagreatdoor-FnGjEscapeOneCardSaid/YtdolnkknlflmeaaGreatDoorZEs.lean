/-
  gjson.Escape: what it hands back.
-/
import Derived.Test.YtdolnkknlflmeaaGreatDoorZLx10
import Derived.Lib.Hide
import Derived.Lib.BufferWrite
import Derived.Laws.CopyOwn
import Derived.Deep.WholeRow
import Derived.Deep.RegionWith
namespace Go.Proofs.YtdolnkknlflmeaaGreatDoor.L
open Go.RowKit Go.Proofs.YtdolnkknlflmeaaGreatDoorW.PrintWords Go.Proofs.YtdolnkknlflmeaaGreatDoorW.PrintLast Go.Proofs.YtdolnkknlflmeaaGreatDoorW.PrintMore
set_option linter.unusedVariables false
set_option linter.unusedSimpArgs false

def safeB (c : Int) : Bool := (gjson_isSafePathKeyChar.f c).getD false
theorem safe_some (c : Int) : gjson_isSafePathKeyChar.f c = some (safeB c) := by
  have h : (gjson_isSafePathKeyChar.f c).isSome = true := by unfold gjson_isSafePathKeyChar.f; repeat' split
                                                             all_goals rfl
  obtain ⟨b, hb⟩ := Option.isSome_iff_exists.mp h
  simp [safeB, hb]
def escL : List Int → List Int
  | [] => []
  | c :: t => if safeB c = true then c :: escL t else 92 :: c :: escL t
theorem escL_append (a b : List Int) : escL (a ++ b) = escL a ++ escL b := by
  induction a with
  | nil => rfl
  | cons c t ih => simp only [List.cons_append, escL, ih]; split <;> simp
theorem escL_length (a : List Int) : (escL a).length ≤ 2 * a.length := by
  induction a with
  | nil => simp [escL]
  | cons c t ih => simp only [escL]; split <;> simp <;> omega
theorem escL_safe (a : List Int) (h : ∀ c, c ∈ a → safeB c = true) : escL a = a := by
  induction a with
  | nil => rfl
  | cons c t ih => simp [escL, h c (by simp), ih (fun c hc => h c (by simp [hc]))]
def escS (s : ByteArray) : ByteArray := strOfNums (escL (bytesOf s))
theorem take_succ_bt (s : ByteArray) (i : Int) (h0 : 0 ≤ i) (h1 : i < (s.size : Int)) : (bytesOf s).take (i.toNat + 1) = (bytesOf s).take i.toNat ++ [bt s i] := by
  rw [← rd_bytesOf]
  unfold rd
  rw [List.take_succ_eq_append_getElem (by rw [bytesOf_length]; omega)]
  congr 2
  rw [List.getD_eq_getElem?_getD, List.getElem?_eq_getElem (by rw [bytesOf_length]; omega)]
  rfl
theorem strOfNums_bytesOf (s : ByteArray) : strOfNums (bytesOf s) = s := by
  unfold strOfNums bytesOf
  apply ByteArray.ext
  apply Array.ext'
  simp [Function.comp_def]

section
variable {P : Program} {ops : Array Oper} {rest : List Oper} {o : Oper} {a : Act} {Q : Exit → Act → World → Prop}
/-- copy(made, s): the row behind it, cut to the string's length. -/
theorem wpList_copy_made {w0 W : World} (base : Nat) (hgd : o.guard = none) (d x : Operand) (dT sT e : TypeId)
    (ho : o.op = .call { callee := .builtin .copy, args := #[d, x], argTypes := #[dT, sT] })
    (hu : P.underlying dT = some (.slice e)) (hsz : (P.info? e).map (·.size) = some 1) (m : Nat) (s : ByteArray)
    (hd : a.eval d = .slice (some ⟨W.heap.size, 0, none⟩) m m) (hx : a.eval x = .string s) (hm : s.size ≤ m) (hmm : m ≤ 9223372036854775807)
    (HB : Below base w0 W) (hbase : base ≤ W.heap.size)
    (h : ∀ w1, w1.ownsRow base e 1 (.slice (some ⟨W.heap.size, 0, none⟩) s.size m) s.size (nums .u8 (bytesOf s)) → Below base w0 w1 → wpList P ops Q rest (a.put o.dst (goInt s.size)) w1) :
    wpList P ops Q (o :: rest) a (W.alloc (.cells (madeCells #[.int .u8 0] m) e)) := by
  refine wpList_plain hgd fun K hK => ?_
  have hsz' : (madeCells #[Value.int .u8 0] m).size = m := by simp [size_madeCells]
  have hrun := Lib.run_copy_row_string (P := P) (W.alloc (.cells (madeCells #[.int .u8 0] m) e)) dT sT o.type e W.heap.size 0 m m s (madeCells #[.int .u8 0] m) e hu hsz (heap_alloc_new W _) hm (by rw [hsz']; omega)
  unfold Oper.wp
  simp [execOp, ho, resolve, invoke, builtin, hd, hx, hrun, Result.andThen]
  rw [World.setRow_alloc_new]
  refine hK _ _ (h _ ?_ (HB.alloc hbase _))
  have hb : (Lib.byteCells s.data.toList) = nums .u8 (bytesOf s) := by simp [Lib.byteCells, nums, bytesOf]
  have hl : (nums .u8 (bytesOf s)).length = s.size := by rw [nums_length, bytesOf_length]
  refine ⟨by rw [hl]; omega, .inr ⟨W.heap.size, m, _, rfl, hbase, heap_alloc_new W _, hm, by simpa [maxLen] using hmm, ?_, ?_⟩⟩
  · simp [hb, hl, size_madeCells]
    omega
  · simp only [hb]
    rw [List.take_append_of_le_length (by rw [hl]; omega), List.take_of_length_le (by rw [hl]; omega)]

/-- append(v, y), y a byte. -/
theorem ap8 {ops : Array Oper} {rest : List Oper} {o : Oper} {a : Act} {Q : Exit → Act → World → Prop} {w0 W : World} (base : Nat) (hgd : o.guard = none) (d x : Operand) (ho : o.op = .call { callee := .builtin .append, args := #[d, x], argTypes := #[80, 80] })
    (v : Value) (xs : List Int) (y : Int) (hs : a.eval d = v) (hx : a.eval x = .slice (some ⟨W.heap.size, 0, none⟩) 1 1)
    (HO : Kd.R (Kd.int .u8) 5 W base (fun _ => True) v xs) (HB : Below base w0 W) (hbase : base ≤ W.heap.size) (hl : xs.length < 140737488355328)
    (h : ∀ v1 w1, Kd.R (Kd.int .u8) 5 w1 base (fun _ => True) v1 (xs ++ [y]) → Below base w0 w1 → wpList Tryz.prog ops Q rest (a.put o.dst v1) w1) :
    wpList Tryz.prog ops Q (o :: rest) a (W.alloc (.cells #[.int .u8 y] 5)) := by
  refine Kd.R_append (Kd.int .u8) (w0 := w0) base hgd d x 80 5 (.int .u8 0) 1 ho Tryz.underlying80 info5 rfl (by decide) (by omega) v xs y [.int .u8 y] (fun _ => True) (fun _ => False) hs hx ?aP (fun _ hk => hk.elim) (fun _ _ => trivial) ?aO ?aB ?aS ?aL ?_
  case aP => exact rfl
  case aO => exact HO
  case aB => exact HB
  case aS => exact hbase
  case aL => omega
  intro v1 w1 ho hb _ _
  exact h v1 w1 ho hb
/-- string(v), v a row of bytes of the call's own. -/
theorem str8 {w : World} {base : Nat} {ok : Nat → Prop} {v : Value} {xs : List Int} (h : Kd.R (Kd.int .u8) 5 w base ok v xs) : (convert 80 9 v).run Tryz.prog w = .ok (.string (strOfNums xs)) w :=
  own_string (P := Tryz.prog) Tryz.underlying80 Tryz.underlying5 Tryz.underlying9 (Kd.own_of_R h)
end

theorem safe_calls (c : Int) (w : World) : Calls Tryz.prog 74 #[.int .u8 c] w fun e w' => e = .returned (.bool (safeB c)) ∧ Drawn0 w w' := gjson_isSafePathKeyChar.calls c _ w (safe_some c)
theorem drawn_below {w w1 w2 : World} (h : Below w.heap.size w w1) (k : Drawn0 w1 w2) : Below w.heap.size w w2 := by
  obtain ⟨n, rfl⟩ := k.out
  exact pw_below_drewN h n
set_option maxHeartbeats 8000000 in
set_option maxRecDepth 100000 in
theorem Escape_calls (s : ByteArray) (w : World) (hs : s.size ≤ 1000000) :
    Calls Tryz.prog 44 #[.string s] w fun e w' => e = .returned (.string (escS s)) ∧ Below w.heap.size w w' := by
  have HB := Aside0.mk (Below.refl w.heap.size w)
  have hmk := print_make 80 5 .u8 1 Tryz.underlying80 (by kernel_rfl) (by decide) (s.size + 1) (by omega) (P := Tryz.prog)
  simp only [Int.natCast_add, Int.natCast_one] at hmk
  have C : ∀ c wr, Hid _ := fun c wr => Lib.hid (safe_calls c wr)
  go_enter Tryz.func44, Tryz.ntmps44
  go_wp2
  go_loopg [3] s.size (fun kq v3 wr => ∃ n : Nat, v3 = .int .i64 (n : Int) ∧ Aside0 (n + kq = s.size) ∧ Aside0 (∀ c, c ∈ (bytesOf s).take n → safeB c = true) ∧ Aside0 (Below w.heap.size w wr))
  case atStart => exact ⟨0, rfl, ⟨by omega⟩, ⟨by simp⟩, HB⟩
  case round => 
    clear HB
    obtain ⟨n, rfl, hi, hS, HB⟩ := hrel
    by_cases c : n < s.size
    · have c0 : decide ((n : Int) < (s.size : Int)) = true := decide_eq_true (by omega)
      have hx := bt_at s n
      simp only [Int.toNat_natCast] at hx
      by_cases hc : safeB (bt s n) = true
      · have hc' := hc
        go_wp2_with (first | (go_at_call 74; refine ((C _ _).out).mono ?_; rintro e w1 ⟨rfl, h1⟩; have HB1 := Aside0.mk (drawn_below HB.out h1); clear h1))
        go_roundg (gk - 1)
        case measure => have := hi.out; omega
        case rel => 
          have h2 := hi.out
          refine ⟨n + 1, by simp, ⟨by omega⟩, ⟨?_⟩, HB1⟩
          intro c hc2
          have h3 := take_succ_bt s n (by omega) (by omega)
          simp only [Int.toNat_natCast] at h3
          rw [h3] at hc2
          rcases List.mem_append.1 hc2 with h | h
          · exact hS.out c h
          · simp at h; rw [h]; exact hc
      · have hc' : safeB (bt s n) = false := by simpa using hc
        go_wp2_with (first | (go_at_call 74; refine ((C _ _).out).mono ?_; rintro e w1 ⟨rfl, h1⟩; have HB1 := Aside0.mk (drawn_below HB.out h1); clear h1) | (refine wpList_copy_made (w0 := w) (W := w1) w.heap.size rfl (.tmp 20) (.tmp 23) 80 9 5 rfl Tryz.underlying80 (by kernel_rfl) (s.size + 1) (s.extract 0 n) rfl rfl (by simp; omega) (by omega) HB1.out (by have := HB1.out.size; omega) ?_; rintro w2 ho hb; have HO := Aside0.mk ho; have HB2 := Aside0.mk hb; clear ho hb))
        have hO2 : Aside0 (Kd.R (Kd.int .u8) 5 w2 w.heap.size (fun _ => True) (.slice (some ⟨w1.heap.size, 0, none⟩) n (s.size + 1)) (escL ((bytesOf s).take n))) := ⟨by
          rw [escL_safe _ hS.out]
          have h1 := HO.out
          have e : bytesOf (s.extract 0 n) = (bytesOf s).take n := by simp [bytesOf, List.map_take]
          have e2 : (s.extract 0 n).size = n := by simp; omega
          rw [e, e2] at h1
          have e3 : ((bytesOf s).take n).length = n := by rw [List.length_take, bytesOf_length]; omega
          refine Kd.R_of_own ?_ (fun _ _ => trivial)
          rw [e3]
          exact h1⟩
        clear HO hS
        have hn := Aside0.mk c
        clear c c0 hx hc hc'
        go_loopg [3, 4] (s.size - n) (fun kq v3 v4 wr => ∃ n : Nat, v3 = .int .i64 (n : Int) ∧ Aside0 (n ≤ s.size ∧ n + kq = s.size) ∧ Aside0 (Kd.R (Kd.int .u8) 5 wr w.heap.size (fun _ => True) v4 (escL ((bytesOf s).take n))) ∧ Aside0 (Below w.heap.size w wr))
        case atStart => exact ⟨n, rfl, ⟨by have := hn.out; omega⟩, hO2, HB2⟩
        case round => 
          clear hO2 HB2 HB1 HB hn hi
          obtain ⟨m, rfl, hi, HO, HB⟩ := hrel
          by_cases c : m < s.size
          · have c0 : decide ((m : Int) < (s.size : Int)) = true := decide_eq_true (by omega)
            have hx := bt_at s m
            simp only [Int.toNat_natCast] at hx
            have hL := Aside0.mk (escL_length ((bytesOf s).take m))
            have hT := take_succ_bt s m (by omega) (by omega)
            simp only [Int.toNat_natCast] at hT
            cases hc : safeB (bt s m) with
            | true =>
              have hE : Aside0 (escL ((bytesOf s).take (m + 1)) = escL ((bytesOf s).take m) ++ [bt s m]) := ⟨by rw [hT, escL_append]; simp [escL, hc]⟩
              clear hT
              go_wp2_with (first | (go_at_call 74; refine ((C _ _).out).mono ?_; rintro e w3 ⟨rfl, h1⟩; obtain ⟨nd, rfl⟩ := h1.out; have HB3 := Aside0.mk (pw_below_drewN HB.out nd); have HO3 := Aside0.mk (Kd.R_drewN HO.out nd); clear h1) | (at_builtin; refine ap8 (w0 := w) w.heap.size rfl (.tmp 42) (.tmp 46) rfl _ _ (bt s m) rfl rfl HO3.out HB3.out (by have := HB3.out.size; omega) (by have := hL.out; simp only [List.length_take, bytesOf_length] at this; omega) ?_; intro v4 w4 ho hb; have HO4 := Aside0.mk ho; have HB4 := Aside0.mk hb; clear ho hb))
              go_roundg (gk - 1)
              case measure => have := hi.out; omega
              case rel => exact ⟨m + 1, by simp, ⟨by have := hi.out; omega⟩, ⟨by rw [hE.out]; exact HO4.out⟩, HB4⟩
            | false => 
              have hE : Aside0 (escL ((bytesOf s).take (m + 1)) = (escL ((bytesOf s).take m) ++ [92]) ++ [bt s m]) := ⟨by rw [hT, escL_append]; simp [escL, hc]⟩
              clear hT
              go_wp2_with (first | (go_at_call 74; refine ((C _ _).out).mono ?_; rintro e w3 ⟨rfl, h1⟩; obtain ⟨nd, rfl⟩ := h1.out; have HB3 := Aside0.mk (pw_below_drewN HB.out nd); have HO3 := Aside0.mk (Kd.R_drewN HO.out nd); clear h1) | (at_builtin; refine ap8 (w0 := w) w.heap.size rfl (.tmp 39) (.tmp 40) rfl _ _ 92 rfl rfl HO3.out HB3.out (by have := HB3.out.size; omega) (by have := hL.out; simp only [List.length_take, bytesOf_length] at this; omega) ?_; intro v4 w4 ho hb; have HO4 := Aside0.mk ho; have HB4 := Aside0.mk hb; clear ho hb) | (at_builtin; refine ap8 (w0 := w) w.heap.size rfl (.tmp 42) (.tmp 46) rfl _ _ (bt s m) rfl rfl HO4.out HB4.out (by have := HB4.out.size; omega) (by have := hL.out; simp only [List.length_append, List.length_singleton, List.length_take, bytesOf_length] at this ⊢; omega) ?_; intro v5 w5 ho hb; have HO5 := Aside0.mk ho; have HB5 := Aside0.mk hb; clear ho hb))
              go_roundg (gk - 1)
              case measure => have := hi.out; omega
              case rel => exact ⟨m + 1, by simp, ⟨by have := hi.out; omega⟩, ⟨by rw [hE.out]; exact HO5.out⟩, HB5⟩
          · have c0 : decide (m < s.size) = false := decide_eq_false (by omega)
            clear c
            have hr : Aside0 (escL ((bytesOf s).take m) = escL (bytesOf s)) := ⟨by
              rw [List.take_of_length_le (by rw [bytesOf_length]; have := hi.out; simp at c0; omega)]⟩
            have hcv := str8 HO.out
            go_wp2
            go_ret
            exact ⟨by rw [hr.out]; rfl, HB.out⟩
    · have c0 : decide (n < s.size) = false := decide_eq_false (by omega)
      clear c
      have hr : Aside0 (s = escS s) := ⟨by
        have h2 := hi.out
        have : s.size ≤ n := by simpa using c0
        unfold escS
        rw [escL_safe, strOfNums_bytesOf]
        intro c hc
        refine hS.out c ?_
        rw [List.take_of_length_le (by rw [bytesOf_length]; omega)]
        exact hc⟩
      go_wp2
      go_ret
      exact ⟨by rw [← hr.out]; rfl, HB.out⟩

end Go.Proofs.YtdolnkknlflmeaaGreatDoor.L
