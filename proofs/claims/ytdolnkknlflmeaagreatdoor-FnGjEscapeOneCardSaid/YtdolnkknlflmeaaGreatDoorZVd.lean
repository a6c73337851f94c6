/-
  What the reader's value, members and elements compute, as functions with a bound on the rounds.
-/
import Derived.Test.YtdolnkknlflmeaaGreatDoorZLx9
namespace Go.Proofs.YtdolnkknlflmeaaGreatDoor.L
open Go.RowKit Go.Proofs.YtdolnkknlflmeaaGreatDoorW.PrintWords Go.Proofs.YtdolnkknlflmeaaGreatDoorW.PrintLast Go.Proofs.YtdolnkknlflmeaaGreatDoorW.PrintMore

def wNull : ByteArray := ⟨#[110, 117, 108, 108]⟩
def wFalse : ByteArray := ⟨#[102, 97, 108, 115, 101]⟩
def wTrue : ByteArray := ⟨#[116, 114, 117, 101]⟩
mutual
/-- value -/
def rv : Nat → ByteArray → Int → Option (S48 × Bool × ByteArray × Int)
  | 0, _, _ => none
  | k + 1, s, at_ => (spec_reader_here.f s at_).bind fun h =>
    if h.1 = 123 then (rm k h.2.1 h.2.2).bind fun m => some (⟨6, at_, m.2.2.2.2, m.1, m.2.1⟩, m.2.2.1, m.2.2.2.1, m.2.2.2.2)
    else if h.1 = 91 then (re k h.2.1 h.2.2).bind fun m => some (⟨5, at_, m.2.2.2, [], m.1⟩, m.2.1, m.2.2.1, m.2.2.2)
    else if h.1 = 34 then (spec_reader_quoted.f k h.2.1 h.2.2).bind fun m => some (⟨4, at_, m.2.2, [], []⟩, m.1, m.2.1, m.2.2)
    else if h.1 = 45 ∨ (48 ≤ h.1 ∧ h.1 ≤ 57) then (spec_reader_number.f k h.2.1 h.2.2).bind fun m => some (⟨3, at_, m.2.2, [], []⟩, m.1, m.2.1, m.2.2)
    else (spec_reader_word.f h.2.1 h.2.2 wNull).bind fun m =>
      if m.1 = true then some (⟨0, at_, m.2.2, [], []⟩, true, m.2.1, m.2.2)
      else (spec_reader_word.f m.2.1 m.2.2 wFalse).bind fun m =>
        if m.1 = true then some (⟨1, at_, m.2.2, [], []⟩, true, m.2.1, m.2.2)
        else (spec_reader_word.f m.2.1 m.2.2 wTrue).bind fun m =>
          if m.1 = true then some (⟨2, at_, m.2.2, [], []⟩, true, m.2.1, m.2.2)
          else some (⟨0, at_, m.2.2, [], []⟩, false, m.2.1, m.2.2)
/-- members -/
def rm : Nat → ByteArray → Int → Option (List S84 × List S48 × Bool × ByteArray × Int)
  | 0, _, _ => none
  | k + 1, s, at_ => (spec_reader_blanks.f k s (wrap64 (at_ + 1))).bind fun b => (spec_reader_take.f b.1 b.2 125).bind fun t =>
    if t.1 = true then some ([], [], true, t.2.1, t.2.2) else rml k t.2.1 t.2.2 [] []
/-- the loop of members -/
def rml : Nat → ByteArray → Int → List S84 → List S48 → Option (List S84 × List S48 × Bool × ByteArray × Int)
  | 0, _, _, _, _ => none
  | k + 1, s, at_, ns, ks => (spec_reader_here.f s at_).bind fun h =>
    if h.1 = 34 then (spec_reader_quoted.f k h.2.1 h.2.2).bind fun q =>
      if q.1 = true then (if ns.length < 8796093022208 then (spec_reader_blanks.f k q.2.1 q.2.2).bind fun b => (spec_reader_take.f b.1 b.2 58).bind fun t =>
        if t.1 = true then (spec_reader_blanks.f k t.2.1 t.2.2).bind fun b => (rv k b.1 b.2).bind fun v =>
          if v.2.1 = true then (if ks.length < 1954687338268 then (spec_reader_blanks.f k v.2.2.1 v.2.2.2).bind fun b => (spec_reader_take.f b.1 b.2 125).bind fun t =>
            if t.1 = true then some (ns ++ [⟨at_, q.2.2⟩], ks ++ [v.1], true, t.2.1, t.2.2)
            else (spec_reader_take.f t.2.1 t.2.2 44).bind fun t =>
              if t.1 = true then (spec_reader_blanks.f k t.2.1 t.2.2).bind fun b => rml k b.1 b.2 (ns ++ [⟨at_, q.2.2⟩]) (ks ++ [v.1])
              else some ([], [], false, t.2.1, t.2.2) else none)
          else some ([], [], false, v.2.2.1, v.2.2.2)
        else some ([], [], false, t.2.1, t.2.2) else none)
      else some ([], [], false, q.2.1, q.2.2)
    else some ([], [], false, h.2.1, h.2.2)
/-- elements -/
def re : Nat → ByteArray → Int → Option (List S48 × Bool × ByteArray × Int)
  | 0, _, _ => none
  | k + 1, s, at_ => (spec_reader_blanks.f k s (wrap64 (at_ + 1))).bind fun b => (spec_reader_take.f b.1 b.2 93).bind fun t =>
    if t.1 = true then some ([], true, t.2.1, t.2.2) else rel k t.2.1 t.2.2 []
/-- the loop of elements -/
def rel : Nat → ByteArray → Int → List S48 → Option (List S48 × Bool × ByteArray × Int)
  | 0, _, _, _ => none
  | k + 1, s, at_, ks => (rv k s at_).bind fun v =>
    if v.2.1 = true then (if ks.length < 1954687338268 then (spec_reader_blanks.f k v.2.2.1 v.2.2.2).bind fun b => (spec_reader_take.f b.1 b.2 93).bind fun t =>
      if t.1 = true then some (ks ++ [v.1], true, t.2.1, t.2.2)
      else (spec_reader_take.f t.2.1 t.2.2 44).bind fun t =>
        if t.1 = true then (spec_reader_blanks.f k t.2.1 t.2.2).bind fun b => rel k b.1 b.2 (ks ++ [v.1])
        else some ([], false, t.2.1, t.2.2) else none)
    else some ([], false, v.2.2.1, v.2.2.2)
end

theorem info48 : (Tryz.prog.info? 48).map (fun i => (i.zero, i.size, i.bytes)) = some (some (.agg #[(.int .i64 0), (.int .i64 0), (.int .i64 0), (.slice none 0 0), (.slice none 0 0)]), 5, 72) := by kernel_rfl
theorem info84 : (Tryz.prog.info? 84).map (fun i => (i.zero, i.size, i.bytes)) = some (some (.agg #[(.int .i64 0), (.int .i64 0)]), 2, 16) := by kernel_rfl

/-- The reader's state at wr, of a call that began at w. -/
structure RS (w0 w : World) (g : Nat) (s : ByteArray) (at_ : Int) (wr : World) : Prop where
  is : IsS120 w0 wr g s at_
  below : Below w0.heap.size w0 wr
  keep : KeepBut w wr g none
theorem RS.start {w0 w : World} {g : Nat} {s : ByteArray} {at_ : Int} (h : IsS120 w0 w g s at_) (hb : Below w0.heap.size w0 w) : RS w0 w g s at_ w := ⟨h, hb, KeepBut.refl _ _ _⟩
theorem RS.step {w0 w wr w1 : World} {g : Nat} {s s' : ByteArray} {at_ at' : Int} (h : RS w0 w g s at_ wr) (hi : IsS120 w0 w1 g s' at') (hb : Below w0.heap.size w0 w1) (hk : KeepBut wr w1 g none) : RS w0 w g s' at' w1 :=
  ⟨hi, hb, h.keep.trans hk (.inl rfl)⟩
theorem RS.alloc {w0 w wr : World} {g : Nat} {s : ByteArray} {at_ : Int} (h : RS w0 w g s at_ wr) (o : Obj) : RS w0 w g s at_ (wr.alloc o) := ⟨h.is.alloc o, h.below.alloc h.below.size o, keep_alloc h.keep o⟩
theorem RS.set {w0 w wr : World} {g : Nat} {s : ByteArray} {at_ : Int} (h : RS w0 w g s at_ wr) (a : Int) : RS w0 w g s a (wr.setCell ⟨g, 1, none⟩ (.int .i64 a)) :=
  ⟨h.is.set_1 a, h.below.setCell h.is.ge _, h.keep.set_ _ _⟩
theorem RS.grown {w0 w wr w1 : World} {g : Nat} {s : ByteArray} {at_ : Int} {row : Option Nat} (h : RS w0 w g s at_ wr) (hg : wr.grownBy w1 row) (hne : some g ≠ row) (hr : ∀ k, row = some k → w.heap.size ≤ k) (hw : w0.heap.size ≤ w.heap.size) : RS w0 w g s at_ w1 :=
  ⟨h.is.grown hg hne, h.below.grown hg h.below.size (fun k hk => Nat.le_trans hw (hr k hk)), h.keep.trans (KeepBut.of_grown hg g) (by
    cases row with
    | none => exact .inl rfl
    | some b => exact .inr ⟨b, rfl, hr b rfl⟩)⟩
theorem RS.c0 {w0 w wr : World} {g : Nat} {s : ByteArray} {at_ : Int} (h : RS w0 w g s at_ wr) : wr.cell? ⟨g, 0, none⟩ = some (.string s) := cellS120_0 h.is.1
theorem RS.c1 {w0 w wr : World} {g : Nat} {s : ByteArray} {at_ : Int} (h : RS w0 w g s at_ wr) : wr.cell? ⟨g, 1, none⟩ = some (.int .i64 at_) := cellS120_1 h.is.1
theorem RS.f1 {w0 w wr : World} {g : Nat} {s : ByteArray} {at_ : Int} (h : RS w0 w g s at_ wr) : wr.frozen? ⟨g, 1, none⟩ = false := blk_frozen h.is.1 1
theorem RS.size {w0 w wr : World} {g : Nat} {s : ByteArray} {at_ : Int} (h : RS w0 w g s at_ wr) : w.heap.size ≤ wr.heap.size := h.keep.1

/-- A row of the call's own behind a step of the reader. -/
theorem R_rs {α : Type} {d : Kd α} {e base : Nat} {ok : Nat → Prop} {v : Value} {xs : List α} {w0 wr w1 : World} {g : Nat} {s : ByteArray} {at_ : Int} (h : d.R e wr base ok v xs) (hi : IsS120 w0 wr g s at_) (ht : ∀ q, q ∈ e :: d.E → q ≠ 120) (hk : KeepBut wr w1 g none) : d.R e w1 base ok v xs :=
  Kd.R_mono (Kd.R_keep (hi.apart h ht) hk (fun _ hk => hk.2)) (fun _ hk => hk.1)

def VSaid (k : Nat) : Prop := ∀ (g : Nat) (s : ByteArray) (at_ : Int) (P : S48) (ok : Bool) (s' : ByteArray) (at' : Int) (w0 w : World), IsS120 w0 w g s at_ → Below w0.heap.size w0 w → rv k s at_ = some (P, ok, s', at') →
  Calls Tryz.prog 76 #[.pointer (some ⟨g, 0, none⟩)] w fun e w' => ∃ v3 v4 : Value, e = .returned (.tuple #[.agg #[.int .i64 P.f0, .int .i64 P.f1, .int .i64 P.f2, v3, v4], .bool ok]) ∧
    Kd.R k84 84 w' w.heap.size (fun _ => True) v3 P.f3 ∧ Kd.R k48 48 w' w.heap.size (fun j => some j ≠ v3.ownBlock) v4 P.f4 ∧ IsS120 w0 w' g s' at' ∧ Below w0.heap.size w0 w' ∧ KeepBut w w' g none
def MSaid (k : Nat) : Prop := ∀ (g : Nat) (s : ByteArray) (at_ : Int) (ns : List S84) (ks : List S48) (ok : Bool) (s' : ByteArray) (at' : Int) (w0 w : World), IsS120 w0 w g s at_ → Below w0.heap.size w0 w → rm k s at_ = some (ns, ks, ok, s', at') →
  Calls Tryz.prog 117 #[.pointer (some ⟨g, 0, none⟩)] w fun e w' => ∃ v3 v4 : Value, e = .returned (.tuple #[v3, v4, .bool ok]) ∧
    Kd.R k84 84 w' w.heap.size (fun _ => True) v3 ns ∧ Kd.R k48 48 w' w.heap.size (fun j => some j ≠ v3.ownBlock) v4 ks ∧ IsS120 w0 w' g s' at' ∧ Below w0.heap.size w0 w' ∧ KeepBut w w' g none
def ESaid (k : Nat) : Prop := ∀ (g : Nat) (s : ByteArray) (at_ : Int) (ks : List S48) (ok : Bool) (s' : ByteArray) (at' : Int) (w0 w : World), IsS120 w0 w g s at_ → Below w0.heap.size w0 w → re k s at_ = some (ks, ok, s', at') →
  Calls Tryz.prog 118 #[.pointer (some ⟨g, 0, none⟩)] w fun e w' => ∃ v4 : Value, e = .returned (.tuple #[v4, .bool ok]) ∧
    Kd.R k48 48 w' w.heap.size (fun _ => True) v4 ks ∧ IsS120 w0 w' g s' at' ∧ Below w0.heap.size w0 w' ∧ KeepBut w w' g none
end Go.Proofs.YtdolnkknlflmeaaGreatDoor.L
