/- A scope with jumps forward to its labels. -/
import Derived.Test.YtpjfmfaijcbopaaGreatDoorRi
import Derived.ScopeJumps
namespace Go

/-- As Q; by a goto to label l: J l. -/
def Exit.jumps (J : Nat → Act → World → Prop) (Q : Exit → Act → World → Prop) : Exit → Act → World → Prop
  | .goto l, a, w => J l a w
  | e, a, w => Q e a w

theorem wp_scope_fwd {P : Program} {a : Act} {w : World} {Q : Exit → Act → World → Prop} {c : Code} (J : Nat → Act → World → Prop)
    (first : c.wp P (Exit.jumps J Q) a w)
    (pass : ∀ l a w, J l a w → ∃ rest, findLabel c l = some rest ∧ rest.wp P (Exit.noGoto Q) a w) : (Code.scope c).wp P Q a w := by
  intro b k cs
  have key : ∀ l a w, J l a w → ∃ e a' w', Q e a' w' ∧ ∃ rest, gotoIn l (.inScope c :: k) = some (.code rest :: .inScope c :: k) ∧ Arrives P (lone (b.at a (.code rest :: .inScope c :: k)) cs w) b k cs e a' w' := by
    intro l a w hJ
    obtain ⟨rest, hf, hw⟩ := pass l a w hJ
    have hg : gotoIn l (.inScope c :: k) = some (.code rest :: .inScope c :: k) := by simp [gotoIn, hf]
    obtain ⟨e, a₁, w₁, hq, harr⟩ := hw b (.inScope c :: k) cs
    cases e with
    | normal => exact ⟨.normal, a₁, w₁, hq, rest, hg, Steps.trans harr (.one step_inScope)⟩
    | exit id => exact ⟨.exit id, a₁, w₁, hq, rest, hg, fun k' hk => harr k' (by simp [exitTo, hk])⟩
    | goto l' => exact hq.elim
    | ret => exact ⟨_, a₁, w₁, hq, rest, hg, harr⟩
    | panic ch => exact ⟨_, a₁, w₁, hq, rest, hg, harr⟩
    | outgrown => exact ⟨_, a₁, w₁, hq, rest, hg, harr⟩
  obtain ⟨e, a₁, w₁, hq, harr⟩ := first b (.inScope c :: k) cs
  cases e with
  | normal => exact ⟨.normal, a₁, w₁, hq, .head step_scope (Steps.trans harr (.one step_inScope))⟩
  | exit id => exact ⟨.exit id, a₁, w₁, hq, fun k' hk => .head step_scope (harr k' (by simp [exitTo, hk]))⟩
  | goto l =>
    obtain ⟨e₂, a₂, w₂, hq₂, rest, hg, harr₂⟩ := key l a₁ w₁ hq
    exact ⟨e₂, a₂, w₂, hq₂, .of_steps (.head step_scope (harr _ hg)) harr₂⟩
  | ret => exact ⟨_, a₁, w₁, hq, .of_steps (.one step_scope) harr⟩
  | panic ch => exact ⟨_, a₁, w₁, hq, .of_steps (.one step_scope) harr⟩
  | outgrown => exact ⟨_, a₁, w₁, hq, .of_steps (.one step_scope) harr⟩
/-- The same; what a jump owes is hidden under a letter. -/
theorem wp_scope_hide {P : Program} {a : Act} {w : World} {Q : Exit → Act → World → Prop} {c : Code}
    (h : ∀ J : Nat → Act → World → Prop, (J = fun l a w => ∃ rest, findLabel c l = some rest ∧ rest.wp P (Exit.noGoto Q) a w) → c.wp P (Exit.jumps J Q) a w) : (Code.scope c).wp P Q a w :=
  wp_scope_fwd _ (h _ rfl) (fun _ _ _ h => h)
theorem Exit.jumps_goto (J : Nat → Act → World → Prop) (Q : Exit → Act → World → Prop) (l : Nat) (a : Act) (w : World) : Exit.jumps J Q (.goto l) a w = J l a w := rfl
theorem Exit.jumps_ret (J : Nat → Act → World → Prop) (Q : Exit → Act → World → Prop) (a : Act) (w : World) : Exit.jumps J Q .ret a w = Q .ret a w := rfl
end Go
