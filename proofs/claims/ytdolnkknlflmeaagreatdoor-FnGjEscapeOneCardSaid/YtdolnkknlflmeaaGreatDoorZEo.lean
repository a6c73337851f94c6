/-
  Parts of the proof: E5, E6.
-/
import Derived.Test.YtdolnkknlflmeaaGreatDoorZPq
import Derived.Test.YtdolnkknlflmeaaGreatDoorZGi
import Derived.Test.YtdolnkknlflmeaaGreatDoorZUt
section
/-
  FnGjEscapeOne: what the parts answer at the printed text.
-/
namespace Go.Proofs.YtdolnkknlflmeaaGreatDoor.L
open Go.RowKit Go.Proofs.YtdolnkknlflmeaaGreatDoorW.PrintWords Go.Proofs.YtdolnkknlflmeaaGreatDoorW.PrintLast Go.Proofs.YtdolnkknlflmeaaGreatDoorW.PrintMore
set_option linter.unusedVariables false
set_option linter.unusedSimpArgs false

theorem read_b0 : spec_reader_blanks.f 9 wTrue 0 = some (wTrue, 0) := by kernel_rfl
theorem read_v : rv 9 wTrue 0 = some (⟨2, 0, 4, [], []⟩, true, wTrue, 4) := by kernel_rfl
theorem read_b1 : spec_reader_blanks.f 9 wTrue 4 = some (wTrue, (wTrue.size : Int)) := by kernel_rfl
theorem read_t : spec_Tree.f 9 wTrue 2 0 4 [] [] = some (2, ⟨#[]⟩, [], []) := by kernel_rfl
theorem Read_true (w : World) : Calls Tryz.prog 38 #[.string wTrue] w (RdPost ⟨2, ⟨#[]⟩, [], []⟩ w) :=
  Read_ok 9 wTrue wTrue wTrue 0 4 ⟨2, 0, 4, [], []⟩ ⟨2, ⟨#[]⟩, [], []⟩ w read_b0 read_v read_b1 read_t
theorem jv_two {s : ByteArray} {b e : Nat} {x y : Int} (h : JV s b e ⟨2, x, y, [], []⟩) : x = (b : Int) ∧ y = (e : Int) := by
  generalize hv : (⟨2, x, y, [], []⟩ : S48) = v at h
  cases h <;> simp_all
def Hit (ty : Int) (raw str : ByteArray) (num : Nat) : Prop := ty = 4 ∧ raw = wTrue
theorem get_hit (O K : ByteArray) (hs : O.size + K.size ≤ 4096) (hne : ¬ O = K) (w : World) :
    Calls Tryz.prog 11 #[.string (strOfNums (exL O K)), .string (escS K)] w (GgPost Hit w) := by
  obtain ⟨X, hX⟩ : ∃ X, X = strOfNums (exL O K) := ⟨_, rfl⟩
  rw [← hX]
  obtain ⟨lo, lk, n1, n2, hsz, hlo, hlk, h123, hn1, hn2, hM, hT⟩ := ex_text O K X hX
  refine GjGet_of X (escS K) w Hit (fun wr _ => ?_)
  refine (get_object (fun _ => 0) X K (by omega) (by omega) 0 X.size [n1, n2] _ [O, K] wr ⟨⟨?_, by omega, h123⟩, hM, .cons hn1 (.cons hn2 .nil), ?_, ?_⟩).mono ?_
  · exact Bl.refl (Nat.zero_le _)
  · rintro ⟨v, hv, h5⟩
    simp at hv
    rcases hv with rfl | rfl
    · exact absurd h5 (show ¬ (5:Int) ≤ 1 by decide)
    · exact absurd h5 (show ¬ (5:Int) ≤ 2 by decide)
  · intro v vb ve hf hJ
    simp [findM, hne] at hf
    subst hf
    exact ⟨fun h => absurd h (show ¬ (2:Int) = 4 by decide), fun h => absurd h (show ¬ (2:Int) = 3 by decide)⟩
  · rintro e w' ⟨hb, ⟨hf, _⟩ | ⟨v, vb, ve, ty, raw, str, num, hf, hJ, rfl, hk⟩⟩
    · simp [findM, hne] at hf
    · simp [findM, hne] at hf
      subst hf
      refine ⟨ty, raw, str, num, vb, rfl, ⟨by rw [hk.hty]; rfl, ?_⟩, hb⟩
      rw [hk.hraw]
      have hv := jv_two hJ
      rw [show vb = 13 + lo + lk by have := hv.1; omega, show ve = 17 + lo + lk by have := hv.2; omega]
      exact hT
end Go.Proofs.YtdolnkknlflmeaaGreatDoor.L
end
section
/-
  Walk of FnGjEscapeOne: it answers true at every input.
-/
namespace Go.Proofs.YtdolnkknlflmeaaGreatDoor.L
open Go.RowKit Go.Proofs.YtdolnkknlflmeaaGreatDoorW.PrintWords Go.Proofs.YtdolnkknlflmeaaGreatDoorW.PrintLast Go.Proofs.YtdolnkknlflmeaaGreatDoorW.PrintMore
set_option linter.unusedVariables false
set_option linter.unusedSimpArgs false

def E5Post (w : World) (e : Ending) (w' : World) : Prop := e = .returned (.bool true) ∧ Below w.heap.size w w'
set_option maxRecDepth 100000 in
theorem law5_big (k o : ByteArray) (w : World) (hk : k.size ≤ 140737488351232) (ho : o.size ≤ 140737488351232) (hb : 2147483647 < k.size ∨ 2147483647 < o.size) :
    Calls Tryz.prog 5 #[.string k, .string o] w (E5Post w) := by
  by_cases h : 2147483647 < k.size
  · have d : decide ((k.size : Int) > 2147483647) = true := decide_eq_true (by omega)
    have d' : decide ((2147483647 : Int) < (k.size : Int)) = true := decide_eq_true (by omega)
    clear hb
    go_enter Tryz.func5, Tryz.ntmps5
    go_wp2
    go_ret
    exact ⟨rfl, Below.refl _ _⟩
  · have d1 : decide ((2147483647 : Int) < (k.size : Int)) = false := decide_eq_false (by omega)
    have d2 : decide ((2147483647 : Int) < (o.size : Int)) = true := decide_eq_true (by omega)
    clear hb
    go_enter Tryz.func5, Tryz.ntmps5
    go_wp2
    go_ret
    exact ⟨rfl, Below.refl _ _⟩
set_option maxRecDepth 100000 in
theorem law5_empty (o : ByteArray) (w : World) (ho : o.size ≤ 2147483647) :
    Calls Tryz.prog 5 #[.string ⟨#[]⟩, .string o] w (E5Post w) := by
  have d2 : decide ((2147483647 : Int) < (o.size : Int)) = false := decide_eq_false (by omega)
  go_enter Tryz.func5, Tryz.ntmps5
  go_wp2
  go_ret
  exact ⟨rfl, Below.refl _ _⟩
theorem ne_isEmpty' (s : ByteArray) (h : 0 < s.size) : s.toList.isEmpty = false := by
  rw [ByteArray.toList_eq, List.isEmpty_eq_false_iff]
  intro e
  have : s.data.toList.length = 0 := by rw [e]; rfl
  rw [Array.length_toList] at this
  have h2 : s.size = s.data.size := rfl
  omega
theorem ne_beq (s r : ByteArray) (h : ¬ s = r) : (s.toList == r.toList) = false := by
  refine beq_eq_false_iff_ne.mpr (fun e => h ?_)
  rw [ByteArray.toList_eq, ByteArray.toList_eq] at e
  exact ByteArray.ext (Array.toList_inj.1 e)
set_option maxRecDepth 100000 in
theorem law5_same (k : ByteArray) (w : World) (hk : k.size ≤ 2147483647) (h0 : 0 < k.size) :
    Calls Tryz.prog 5 #[.string k, .string k] w (E5Post w) := by
  have d2 : decide ((2147483647 : Int) < (k.size : Int)) = false := decide_eq_false (by omega)
  have d3 := ne_isEmpty' k h0
  go_enter Tryz.func5, Tryz.ntmps5
  go_wp2
  go_ret
  exact ⟨rfl, Below.refl _ _⟩
set_option maxRecDepth 100000 in
theorem law5_len (k o : ByteArray) (w : World) (hk : k.size ≤ 2147483647) (ho : o.size ≤ 2147483647) (h0 : 0 < k.size) (hne : ¬ k = o) (hs : 4096 < k.size + o.size) :
    Calls Tryz.prog 5 #[.string k, .string o] w (E5Post w) := by
  have d1 : decide ((2147483647 : Int) < (k.size : Int)) = false := decide_eq_false (by omega)
  have d2 : decide ((2147483647 : Int) < (o.size : Int)) = false := decide_eq_false (by omega)
  have d3 := ne_isEmpty' k h0
  have d4 := ne_beq k o hne
  have d5 : wrap64 ((k.size : Int) + (o.size : Int)) = (k.size : Int) + (o.size : Int) := w64 ⟨by omega, by omega⟩
  have d6 : decide ((4096 : Int) < (k.size : Int) + (o.size : Int)) = true := decide_eq_true (by omega)
  go_enter Tryz.func5, Tryz.ntmps5
  go_wp2
  go_ret
  exact ⟨rfl, Below.refl _ _⟩
set_option maxRecDepth 100000 in
theorem law5_u1 (k o : ByteArray) (w : World) (h0 : 0 < k.size) (hne : ¬ k = o) (hs : k.size + o.size ≤ 4096) (hu : ∀ w, Calls Tryz.prog 17 #[.string k] w fun e w' => e = .returned (.bool false) ∧ Drawn0 w w') :
    Calls Tryz.prog 5 #[.string k, .string o] w (E5Post w) := by
  have d1 : decide ((2147483647 : Int) < (k.size : Int)) = false := decide_eq_false (by omega)
  have d2 : decide ((2147483647 : Int) < (o.size : Int)) = false := decide_eq_false (by omega)
  have d3 := ne_isEmpty' k h0
  have d4 := ne_beq k o hne
  have d5 : wrap64 ((k.size : Int) + (o.size : Int)) = (k.size : Int) + (o.size : Int) := w64 ⟨by omega, by omega⟩
  have d6 : decide ((4096 : Int) < (k.size : Int) + (o.size : Int)) = false := decide_eq_false (by omega)
  have C := fun w => Lib.hid (hu w)
  clear hu
  go_enter Tryz.func5, Tryz.ntmps5
  go_wp2_with (first | (go_at_call 17; refine ((C _).out).mono ?_; rintro e w1 ⟨rfl, hb⟩; have hb1 := Aside0.mk (drawn_below (Below.refl _ _) hb); clear hb))
  go_ret
  exact ⟨rfl, hb1.out⟩
set_option maxRecDepth 100000 in
theorem law5_u2 (k o : ByteArray) (w : World) (h0 : 0 < k.size) (hne : ¬ k = o) (hs : k.size + o.size ≤ 4096) (hu : ∀ w, Calls Tryz.prog 17 #[.string k] w fun e w' => e = .returned (.bool true) ∧ Drawn0 w w')
    (hv : ∀ w, Calls Tryz.prog 17 #[.string o] w fun e w' => e = .returned (.bool false) ∧ Drawn0 w w') :
    Calls Tryz.prog 5 #[.string k, .string o] w (E5Post w) := by
  have d1 : decide ((2147483647 : Int) < (k.size : Int)) = false := decide_eq_false (by omega)
  have d2 : decide ((2147483647 : Int) < (o.size : Int)) = false := decide_eq_false (by omega)
  have d3 := ne_isEmpty' k h0
  have d4 := ne_beq k o hne
  have d5 : wrap64 ((k.size : Int) + (o.size : Int)) = (k.size : Int) + (o.size : Int) := w64 ⟨by omega, by omega⟩
  have d6 : decide ((4096 : Int) < (k.size : Int) + (o.size : Int)) = false := decide_eq_false (by omega)
  have C := fun w => Lib.hid (hu w)
  have D := fun w => Lib.hid (hv w)
  clear hu hv
  go_enter Tryz.func5, Tryz.ntmps5
  go_wp2_with (first | (go_at_call_of 17 k; refine ((C _).out).mono ?_; rintro e w1 ⟨rfl, hb⟩; have hb1 := Aside0.mk (drawn_below (Below.refl _ _) hb); clear hb) | (go_at_call_of 17 o; refine ((D _).out).mono ?_; rintro e w2 ⟨rfl, hb⟩; have hb2 := Aside0.mk (drawn_below hb1.out hb); clear hb))
  go_ret
  exact ⟨rfl, hb2.out⟩
set_option maxHeartbeats 8000000 in
set_option maxRecDepth 100000 in
theorem law5_main (k o : ByteArray) (w : World) (h0 : 0 < k.size) (hne : ¬ k = o) (hs : k.size + o.size ≤ 4096) (hu : ∀ w, Calls Tryz.prog 17 #[.string k] w fun e w' => e = .returned (.bool true) ∧ Drawn0 w w')
    (hv : ∀ w, Calls Tryz.prog 17 #[.string o] w fun e w' => e = .returned (.bool true) ∧ Drawn0 w w') :
    Calls Tryz.prog 5 #[.string k, .string o] w (E5Post w) := by
  have d1 : decide ((2147483647 : Int) < (k.size : Int)) = false := decide_eq_false (by omega)
  have d2 : decide ((2147483647 : Int) < (o.size : Int)) = false := decide_eq_false (by omega)
  have d3 := ne_isEmpty' k h0
  have d4 := ne_beq k o hne
  have d5 : wrap64 ((k.size : Int) + (o.size : Int)) = (k.size : Int) + (o.size : Int) := w64 ⟨by omega, by omega⟩
  have d6 : decide ((4096 : Int) < (k.size : Int) + (o.size : Int)) = false := decide_eq_false (by omega)
  have C := fun w => Lib.hid (hu w)
  have D := fun w => Lib.hid (hv w)
  have E := fun m0 m1 w h h' => Lib.hid (Print_obj o k (by omega) (by omega) m0 m1 w h h')
  have F := fun w => Lib.hid (GjEscape_calls k (by omega) w)
  have G := fun w => Lib.hid (get_hit o k (by omega) (fun e => hne e.symm) w)
  have H := fun str num w => Lib.hid (gjIs_true wTrue str num Read_true w)
  have hm : ∀ W : World, Blk ((W.alloc (.cells (nKeys o k) 9)).alloc (.cells nKids 25)) (W.heap.size + 1) 25 nKids := fun W => by
    have := Blk.new (W.alloc (.cells (nKeys o k) 9)) 25 nKids
    simpa using this
  clear hu hv
  go_enter Tryz.func5, Tryz.ntmps5
  go_wp2_with (first | (go_at_call_of 17 k; refine ((C _).out).mono ?_; rintro e w1 ⟨rfl, hb⟩; have hb1 := Aside0.mk (drawn_below (Below.refl _ _) hb); clear hb) | (go_at_call_of 17 o; refine ((D _).out).mono ?_; rintro e w2 ⟨rfl, hb⟩; have hb2 := Aside0.mk (drawn_below hb1.out hb); clear hb) | (go_at_call 18; refine ((E w2.heap.size (w2.heap.size + 1) _ ?p1 ?p2).out).mono ?_; (case p1 => exact (Blk.new w2 9 (nKeys o k)).alloc _); (case p2 => exact hm w2); rintro e w3 ⟨rfl, hb⟩; have hb3 := Aside0.mk (below_then ((hb2.out.alloc hb2.out.size (.cells (nKeys o k) 9)).alloc (by have := hb2.out.size; simp; omega) (.cells nKids 25)) (by have := hb2.out.size; simp; omega) hb); clear hb) | (go_at_call 19; refine ((F _).out).mono ?_; rintro e w4 ⟨rfl, hb⟩; have hb4 := Aside0.mk (below_then hb3.out hb3.out.size hb); clear hb) | (go_at_call 11; refine ((G _).out).mono ?_; rintro e w5 ⟨ty, raw, str, num, rfl, ⟨rfl, rfl⟩, hb⟩; have hb5 := Aside0.mk (below_then hb4.out hb4.out.size hb); have hx : exB 4 wTrue = true := rfl; rw [hx]; clear hb) | (go_at_call 13; refine ((H _ _ _).out).mono ?_; rintro e w6 ⟨rfl, hb⟩; have hb6 := Aside0.mk (below_then hb5.out hb5.out.size hb); clear hb))
  go_ret
  exact ⟨rfl, hb6.out⟩
theorem law5 (k o : ByteArray) (w : World) (hk : k.size ≤ 140737488351232) (ho : o.size ≤ 140737488351232) : Calls Tryz.prog 5 #[.string k, .string o] w (E5Post w) := by
  by_cases b : 2147483647 < k.size ∨ 2147483647 < o.size
  · exact law5_big k o w hk ho b
  by_cases h0 : 0 < k.size
  · by_cases he : k = o
    · subst he
      exact law5_same k w (by omega) h0
    by_cases hs : 4096 < k.size + o.size
    · exact law5_len k o w (by omega) (by omega) h0 he hs
    obtain ⟨b1, hu⟩ := utf8_calls k (by omega)
    obtain ⟨b2, hv⟩ := utf8_calls o (by omega)
    cases b1
    · exact law5_u1 k o w h0 he (by omega) hu
    cases b2
    · exact law5_u2 k o w h0 he (by omega) hu hv
    · exact law5_main k o w h0 he (by omega) hu hv
  · obtain rfl : k = ⟨#[]⟩ := by
      apply ByteArray.ext
      apply Array.eq_empty_of_size_eq_zero
      have : k.size = k.data.size := rfl
      omega
    exact law5_empty o w (by omega)
end Go.Proofs.YtdolnkknlflmeaaGreatDoor.L
end
