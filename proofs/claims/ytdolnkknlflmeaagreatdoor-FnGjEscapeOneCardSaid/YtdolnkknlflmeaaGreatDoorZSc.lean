/-
  A scope in which the run jumps to several labels.
-/
import Derived.ScopeJumps
import Derived.WalkMore
import Derived.Test.YtdolnkknlflmeaaGreatDoorZKit
namespace Go.Proofs.YtdolnkknlflmeaaGreatDoor
open Go

/-- As Q; by a goto to label l: J l. -/
def jumpsTo (J : Nat → Act → World → Prop) (Q : Exit → Act → World → Prop) : Exit → Act → World → Prop
  | .goto l, a, w => J l a w
  | e, a, w => Q e a w
section
variable {P : Program} {a : Act} {w : World} {Q : Exit → Act → World → Prop} {J : Nat → Act → World → Prop}
@[go_sem] theorem jumpsTo_ret : jumpsTo J Q .ret a w = Q .ret a w := rfl
@[go_sem] theorem jumpsTo_normal : jumpsTo J Q .normal a w = Q .normal a w := rfl
@[go_sem] theorem jumpsTo_exit (id : Nat) : jumpsTo J Q (.exit id) a w = Q (.exit id) a w := rfl
@[go_sem] theorem jumpsTo_goto (l : Nat) : jumpsTo J Q (.goto l) a w = J l a w := rfl
@[go_sem] theorem jumpsTo_panic (ch : List PanicEntry) : jumpsTo J Q (.panic ch) a w = Q (.panic ch) a w := rfl

theorem wp_scope_multi {c : Code} (J : Nat → Act → World → Prop) (μ : Nat → Act → World → Nat)
    (pass : ∀ l a w, J l a w → ∃ rest, findLabel c l = some rest ∧ rest.wp P (jumpsTo (fun l' a' w' => J l' a' w' ∧ μ l' a' w' < μ l a w) Q) a w)
    (first : c.wp P (jumpsTo J Q) a w) : (Code.scope c).wp P Q a w := by
  intro b k cs
  have key : ∀ n l a w, μ l a w = n → J l a w → ∃ rest, findLabel c l = some rest ∧ ∃ e a' w', Q e a' w' ∧ Arrives P (lone (b.at a (.code rest :: .inScope c :: k)) cs w) b k cs e a' w' := by
    intro n
    induction n using Nat.strongRecOn with
    | _ n ih =>
      intro l a w hn hJ
      obtain ⟨rest, hf, hp⟩ := pass l a w hJ
      refine ⟨rest, hf, ?_⟩
      obtain ⟨e, a₁, w₁, hq, harr⟩ := hp b (.inScope c :: k) cs
      cases e with
      | normal => exact ⟨.normal, a₁, w₁, hq, Steps.trans harr (.one step_inScope)⟩
      | exit id => exact ⟨.exit id, a₁, w₁, hq, fun k' hk => harr k' (by simp [exitTo, hk])⟩
      | goto l' =>
        obtain ⟨hJ', hlt⟩ := hq
        obtain ⟨rest', hf', e₂, a₂, w₂, hq₂, harr₂⟩ := ih _ (by omega) l' a₁ w₁ rfl hJ'
        have hg : gotoIn l' (.inScope c :: k) = some (.code rest' :: .inScope c :: k) := by simp [gotoIn, hf']
        exact ⟨e₂, a₂, w₂, hq₂, .of_steps (harr _ hg) harr₂⟩
      | ret => exact ⟨_, a₁, w₁, hq, harr⟩
      | panic ch => exact ⟨_, a₁, w₁, hq, harr⟩
      | outgrown => exact ⟨_, a₁, w₁, hq, harr⟩
  obtain ⟨e, a₁, w₁, hq, harr⟩ := first b (.inScope c :: k) cs
  cases e with
  | normal => exact ⟨.normal, a₁, w₁, hq, .head step_scope (Steps.trans harr (.one step_inScope))⟩
  | exit id => exact ⟨.exit id, a₁, w₁, hq, fun k' hk => .head step_scope (harr k' (by simp [exitTo, hk]))⟩
  | goto l' =>
    obtain ⟨rest', hf', e₂, a₂, w₂, hq₂, harr₂⟩ := key _ l' a₁ w₁ rfl hq
    have hg : gotoIn l' (.inScope c :: k) = some (.code rest' :: .inScope c :: k) := by simp [gotoIn, hf']
    exact ⟨e₂, a₂, w₂, hq₂, .of_steps (.head step_scope (harr _ hg)) harr₂⟩
  | ret => exact ⟨_, a₁, w₁, hq, .of_steps (.one step_scope) harr⟩
  | panic ch => exact ⟨_, a₁, w₁, hq, .of_steps (.one step_scope) harr⟩
  | outgrown => exact ⟨_, a₁, w₁, hq, .of_steps (.one step_scope) harr⟩
/-- Jumps forward to one label, and none behind it. -/
theorem wp_scope_fwd {c rest : Code} (l : Nat) (J : Act → World → Prop) (hf : findLabel c l = some rest)
    (first : c.wp P (jumpsTo (fun l' a w => l' = l ∧ J a w) Q) a w)
    (pass : ∀ a w, J a w → rest.wp P (Exit.noGoto Q) a w) : (Code.scope c).wp P Q a w := by
  refine wp_scope_multi (fun l' a w => l' = l ∧ J a w) (fun _ _ _ => 0) ?_ first
  rintro l' a w ⟨rfl, h⟩
  refine ⟨rest, hf, Code.wp_mono ?_ (pass a w h)⟩
  intro e a w h
  cases e with
  | goto l => exact h.elim
  | _ => exact h
end
end Go.Proofs.YtdolnkknlflmeaaGreatDoor
