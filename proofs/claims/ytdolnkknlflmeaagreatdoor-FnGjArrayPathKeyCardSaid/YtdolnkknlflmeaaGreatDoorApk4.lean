/-
  Walks of DoorArrayPath, GjArrayPath and gjArrayRest.
-/
import Derived.Test.YtdolnkknlflmeaaGreatDoorApk3
import Derived.Test.YtdolnkknlflmeaaGreatDoorKit
namespace Go.Proofs.YtdolnkknlflmeaaGreatDoor
open Go.RowKit

abbrev doorCs (part path pipe : ByteArray) (piped more : Bool) : Array Value := #[.string part, .string path, .string pipe, .string ⟨#[]⟩, .string ⟨#[]⟩, .string ⟨#[]⟩, .string ⟨#[]⟩, .bool piped, .bool more, .bool false, .bool false, .bool false, .bool false]
def doorV (part path pipe : ByteArray) (piped more : Bool) : Value := .agg (doorCs part path pipe piped more)
theorem info76 : (Tryz.prog.info? 76).map (·.size) = some 13 := by kernel_rfl
theorem info38 : (Tryz.prog.info? 38).map (·.size) = some 13 := by kernel_rfl

def zero76 : Array Value := #[.string ⟨#[]⟩, .string ⟨#[]⟩, .string ⟨#[]⟩, .string ⟨#[]⟩, .string ⟨#[]⟩, .string ⟨#[]⟩, .string ⟨#[]⟩, .bool false, .bool false, .bool false, .bool false, .bool false, .bool false]
set_option maxRecDepth 100000 in
theorem door_of (s part path pipe : ByteArray) (piped more : Bool) (w : World) (h : Calls Tryz.prog 72 #[.string s] (w.alloc (.cells zero76 76)) (ValPost (papV part path pipe piped more) (w.alloc (.cells zero76 76)))) :
    Calls Tryz.prog 41 #[.string s] w (ValPost (doorV part path pipe piped more) w) := by
  have H := Lib.hid h
  clear h
  go_enter Tryz.func41, Tryz.ntmps41
  go_wp2_with (first | (go_at_call 72; refine ((H).out).mono ?_; rintro e w' ⟨rfl, hb⟩; have hB := (Blk.new w 76 zero76).below hb (by simp); unfold papV) | (with_reducible show wpList _ _ _ (Oper.mk none (Op.store 76 (Operand.tmp 2) (Operand.tmp 37)) _ _ _ _ :: _) _ _; (refine wpList_store_blk rfl 76 (.tmp 2) (.tmp 37) rfl w.heap.size (doorCs part path pipe piped more) rfl rfl 76 zero76 (hB.alloc _) rfl rfl rfl ?_); intro w2 hB2 hg2))
  refine bodyPost_ret (v := doorV part path pipe piped more) (results_blk rfl _ _ w.heap.size 76 _ _ rfl hB2 Tryz.underlying76 rfl info76) rfl ⟨rfl, ?_⟩
  have h1 : Below w.heap.size w w' := ((Below.refl _ _).alloc (Nat.le_refl _) _).trans (hb.mono (by simp))
  exact (h1.alloc h1.size _).grown hg2 (Nat.le_trans h1.size (by simp)) (by rintro k ⟨⟩; exact Nat.le_refl _)

set_option maxRecDepth 100000 in
theorem impl_of (s part path pipe : ByteArray) (piped more : Bool) (w : World) (h : ∀ w, Calls Tryz.prog 72 #[.string s] w (ValPost (papV part path pipe piped more) w)) :
    Calls Tryz.prog 14 #[.string s] w (ValPost (doorV part path pipe piped more) w) := by
  have H := fun w => Lib.hid (door_of s part path pipe piped more w (h _))
  clear h
  go_enter Tryz.func14, Tryz.ntmps14
  go_wp2_with (first | (go_at_call 41; refine ((H _).out).mono ?_; rintro e w' ⟨rfl, hb⟩; have hB := (Blk.new w 38 zero76).below hb (by simp); unfold doorV) | (with_reducible show wpList _ _ _ (Oper.mk none (Op.store 38 (Operand.tmp 2) (Operand.tmp 4)) _ _ _ _ :: _) _ _; (refine wpList_store_blk rfl 38 (.tmp 2) (.tmp 4) rfl w.heap.size (doorCs part path pipe piped more) rfl rfl 38 zero76 hB rfl rfl rfl ?_); intro w2 hB2 hg2))
  refine bodyPost_ret (v := doorV part path pipe piped more) (results_blk rfl _ _ w.heap.size 38 _ _ rfl hB2 Tryz.underlying38 rfl info38) rfl ⟨rfl, ?_⟩
  have h1 : Below w.heap.size w w' := ((Below.refl _ _).alloc (Nat.le_refl _) _).trans (hb.mono (by simp))
  exact h1.grown hg2 h1.size (by rintro k ⟨⟩; exact Nat.le_refl _)

theorem rest_none (part path pipe : ByteArray) (p : Bool) (w : World) :
    Calls Tryz.prog 16 #[doorV part path pipe false false, .string ⟨#[]⟩, .bool p] w (ValPost (.bool true) w) := by
  unfold doorV
  go_enter Tryz.func16, Tryz.ntmps16
  go_wp2
  go_ret
  exact ⟨rfl, (Below.refl _ _).alloc (Nat.le_refl _) _⟩
theorem rest_pipe (part path r : ByteArray) (w : World) (h : 0 < r.size) :
    Calls Tryz.prog 16 #[doorV part path r true false, .string r, .bool true] w (ValPost (.bool true) w) := by
  have hne := ne_isEmpty r h
  unfold doorV
  go_enter Tryz.func16, Tryz.ntmps16
  go_wp2
  go_ret
  exact ⟨rfl, (Below.refl _ _).alloc (Nat.le_refl _) _⟩
theorem rest_dot (part pipe r : ByteArray) (w : World) (h : 0 < r.size) :
    Calls Tryz.prog 16 #[doorV part r pipe false true, .string r, .bool false] w (ValPost (.bool true) w) := by
  have hne := ne_isEmpty r h
  unfold doorV
  go_enter Tryz.func16, Tryz.ntmps16
  go_wp2
  go_ret
  exact ⟨rfl, (Below.refl _ _).alloc (Nat.le_refl _) _⟩
end Go.Proofs.YtdolnkknlflmeaaGreatDoor
