/-
  Walks of isDotPiperChar (at a byte that begins no modifier, list or form) and of gjBehind.
-/
import Derived.Test.YtdolnkknlflmeaaGreatDoorProg
import Derived.WalkKit
import Derived.WalkLawsBesides
import Derived.WalkSpells
import Derived.Lib.Hide
import Derived.Deep.QuietTactic
import Derived.BigQuiet
import Derived.Deep.DeepFit
namespace Go.Proofs.YtdolnkknlflmeaaGreatDoor
open Go.RowKit

theorem isDot_word (s : ByteArray) (w : World) (h0 : 0 < s.size) (h1 : ((s[0].toNat : Int) == 64) = false) (h2 : ((s[0].toNat : Int) == 91) = false) (h3 : ((s[0].toNat : Int) == 123) = false) :
    Calls Tryz.prog 111 #[.string s] w fun e w' => e = .returned (.bool false) ∧ w = w' := by
  go_enter Tryz.func111, Tryz.ntmps111
  go_wp2
  go_ret
  exact ⟨rfl, rfl⟩

theorem behind_none (s : ByteArray) (p : Bool) (w : World) :
    Calls Tryz.prog 15 #[.string s, .string ⟨#[]⟩, .bool p] w fun e w' => e = .returned (.string s) ∧ w = w' := by
  go_enter Tryz.func15, Tryz.ntmps15
  go_wp2
  go_ret
  exact ⟨rfl, rfl⟩
theorem behind_dot (s r : ByteArray) (w : World) (hs : s.size ≤ 4096) (hr : r.size ≤ 4096) (h : r.toList = []  → False) :
    Calls Tryz.prog 15 #[.string s, .string r, .bool false] w fun e w' => e = .returned (.string (s ++ ⟨#[46]⟩ ++ r)) ∧ w = w' := by
  have h1 : r.toList.isEmpty = false := by cases h' : r.toList with
    | nil => exact absurd h' h
    | cons => rfl
  go_enter Tryz.func15, Tryz.ntmps15
  go_wp2

  go_ret
  exact ⟨rfl, rfl⟩
theorem behind_pipe (s r : ByteArray) (w : World) (hs : s.size ≤ 4096) (hr : r.size ≤ 4096) (h : r.toList = []  → False) :
    Calls Tryz.prog 15 #[.string s, .string r, .bool true] w fun e w' => e = .returned (.string (s ++ ⟨#[124]⟩ ++ r)) ∧ w = w' := by
  have h1 : r.toList.isEmpty = false := by cases h' : r.toList with
    | nil => exact absurd h' h
    | cons => rfl
  go_enter Tryz.func15, Tryz.ntmps15
  go_wp2
  go_ret
  exact ⟨rfl, rfl⟩
end Go.Proofs.YtdolnkknlflmeaaGreatDoor
