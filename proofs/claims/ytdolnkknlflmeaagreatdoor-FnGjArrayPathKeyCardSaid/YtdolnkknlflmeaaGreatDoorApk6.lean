/-
  Walk of FnGjArrayPathKey: it answers true at every input.
-/
import Derived.Test.YtdolnkknlflmeaaGreatDoorApk5
namespace Go.Proofs.YtdolnkknlflmeaaGreatDoor
open Go.RowKit

theorem below_end {w w' w'' : World} {o : Obj} (hb : Below w.heap.size w w') (hb2 : Below (w'.alloc o).heap.size (w'.alloc o) w'') : Below w.heap.size w w'' :=
  (hb.alloc hb.size o).trans (hb2.mono (Nat.le_trans hb.size (by simp)))

theorem law4_none (k : ByteArray) (p : Bool) (w : World) (hk : k.size ≤ 4096) (h : wordP k) :
    Calls Tryz.prog 4 #[.string k, .string ⟨#[]⟩, .bool p] w (ValPost (.bool true) w) := by
  have W1 := fun w => Lib.hid (word_tt k w (by omega) h)
  have W2 := fun w => Lib.hid (behind_none k p w)
  have W3 := fun w => Lib.hid (door_alone k w hk h)
  have W4 := fun w => Lib.hid (rest_none k ⟨#[]⟩ ⟨#[]⟩ p w)
  clear h
  go_enter Tryz.func4, Tryz.ntmps4
  go_wp2_with (first | (go_at_call 9; refine ((W1 _).out).mono ?_; rintro e w' ⟨rfl, rfl⟩) | (go_at_call 15; refine ((W2 _).out).mono ?_; rintro e w' ⟨rfl, rfl⟩) | (go_at_call 14; refine ((W3 _).out).mono ?_; rintro e w' ⟨rfl, hb⟩; unfold doorV) | (go_at_call 16; refine ((W4 _).out).mono ?_; rintro e w'' ⟨rfl, hb2⟩))
  go_ret
  exact ⟨rfl, below_end hb hb2⟩

theorem law4_pipe (k r : ByteArray) (w : World) (hk : k.size + r.size ≤ 4096) (h : wordP k) (h2 : wordP r) :
    Calls Tryz.prog 4 #[.string k, .string r, .bool true] w (ValPost (.bool true) w) := by
  have hne := ne_isEmpty r h2.1
  have W1 := fun w => Lib.hid (word_tt k w (by omega) h)
  have W1r := fun w => Lib.hid (word_tt r w (by omega) h2)
  have W2 := fun w => Lib.hid (behind_pipe k r w (by omega) (by omega) (by intro e; rw [e] at hne; cases hne))
  have W3 := fun w => Lib.hid (door_pipe k r w hk h)
  have W4 := fun w => Lib.hid (rest_pipe k ⟨#[]⟩ r w h2.1)
  clear h h2
  go_enter Tryz.func4, Tryz.ntmps4
  go_wp2_with (first | (go_at_call_of 9 k; refine ((W1 _).out).mono ?_; rintro e w' ⟨rfl, rfl⟩) | (go_at_call_of 9 r; refine ((W1r _).out).mono ?_; rintro e w' ⟨rfl, rfl⟩) | (go_at_call 15; refine ((W2 _).out).mono ?_; rintro e w' ⟨rfl, rfl⟩) | (go_at_call 14; refine ((W3 _).out).mono ?_; rintro e w' ⟨rfl, hb⟩; unfold doorV) | (go_at_call 16; refine ((W4 _).out).mono ?_; rintro e w'' ⟨rfl, hb2⟩))
  go_ret
  exact ⟨rfl, below_end hb hb2⟩

theorem law4_dot (k r : ByteArray) (w : World) (hk : k.size + r.size ≤ 4096) (h : wordP k) (h2 : wordP r) :
    Calls Tryz.prog 4 #[.string k, .string r, .bool false] w (ValPost (.bool true) w) := by
  have hne := ne_isEmpty r h2.1
  have W1 := fun w => Lib.hid (word_tt k w (by omega) h)
  have W1r := fun w => Lib.hid (word_tt r w (by omega) h2)
  have W2 := fun w => Lib.hid (behind_dot k r w (by omega) (by omega) (by intro e; rw [e] at hne; cases hne))
  have W3 := fun w => Lib.hid (door_dot k r w hk h h2)
  have W4 := fun w => Lib.hid (rest_dot k ⟨#[]⟩ r w h2.1)
  clear h h2
  go_enter Tryz.func4, Tryz.ntmps4
  go_wp2_with (first | (go_at_call_of 9 k; refine ((W1 _).out).mono ?_; rintro e w' ⟨rfl, rfl⟩) | (go_at_call_of 9 r; refine ((W1r _).out).mono ?_; rintro e w' ⟨rfl, rfl⟩) | (go_at_call 15; refine ((W2 _).out).mono ?_; rintro e w' ⟨rfl, rfl⟩) | (go_at_call 14; refine ((W3 _).out).mono ?_; rintro e w' ⟨rfl, hb⟩; unfold doorV) | (go_at_call 16; refine ((W4 _).out).mono ?_; rintro e w'' ⟨rfl, hb2⟩))
  go_ret
  exact ⟨rfl, below_end hb hb2⟩

theorem law4 (k r : ByteArray) (p : Bool) (w : World) (hk : k.size ≤ 140737488351232) (hr : r.size ≤ 140737488351232) :
    Calls Tryz.prog 4 #[.string k, .string r, .bool p] w (ValPost (.bool true) w) := by
  by_cases b : 2147483647 < k.size ∨ 2147483647 < r.size
  · exact law4_big k r p w hk hr b
  by_cases c : ¬ wordP k ∨ (0 < r.size ∧ ¬ wordP r) ∨ 4096 < k.size + r.size
  · exact law4_guard k r p w (by omega) (by omega) c
  have hw : wordP k := Classical.byContradiction fun h => c (.inl h)
  have hs : k.size + r.size ≤ 4096 := by
    rcases Nat.lt_or_ge 4096 (k.size + r.size) with h | h
    · exact absurd (.inr (.inr h)) c
    · exact h
  by_cases h0 : 0 < r.size
  · have hr2 : wordP r := Classical.byContradiction fun h => c (.inr (.inl ⟨h0, h⟩))
    cases p
    · exact law4_dot k r w hs hw hr2
    · exact law4_pipe k r w hs hw hr2
  · obtain rfl : r = ⟨#[]⟩ := by
      apply ByteArray.ext
      apply Array.eq_empty_of_size_eq_zero
      have : r.size = r.data.size := rfl
      omega
    exact law4_none k p w (by omega) hw
end Go.Proofs.YtdolnkknlflmeaaGreatDoor
