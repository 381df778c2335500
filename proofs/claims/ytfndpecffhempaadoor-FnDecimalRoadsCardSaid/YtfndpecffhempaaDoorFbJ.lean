/- A scope in which the run jumps to several labels: a law after the kit's own for one label (Derived/ScopeJumps). No function of the program is walked here. -/
import Derived.ScopeJumps
namespace Go.Proofs.YtfndpecffhempaaDoor

/-- As Q; by a goto to label l: J l. -/
def jumpsTo (J : Nat → Act → World → Prop) (Q : Exit → Act → World → Prop) : Exit → Act → World → Prop
  | .goto l, a, w => J l a w
  | e, a, w => Q e a w

theorem wp_scope_many {P : Program} {a : Act} {w : World} {Q : Exit → Act → World → Prop} {c : Code} (J : Nat → Act → World → Prop) (μ : Nat → Nat)
    (first : c.wp P (jumpsTo J Q) a w)
    (pass : ∀ l a w, J l a w → ∃ rest, findLabel c l = some rest ∧ rest.wp P (jumpsTo (fun l' a' w' => J l' a' w' ∧ μ l' < μ l) Q) a w) : (Code.scope c).wp P Q a w := by
  intro b k cs
  have hg : ∀ l rest, findLabel c l = some rest → gotoIn l (.inScope c :: k) = some (.code rest :: .inScope c :: k) := fun l rest hf => by simp [gotoIn, hf]
  have key : ∀ n l a w rest, μ l = n → findLabel c l = some rest → rest.wp P (jumpsTo (fun l' a' w' => J l' a' w' ∧ μ l' < μ l) Q) a w → ∃ e a' w', Q e a' w' ∧ Arrives P (lone (b.at a (.code rest :: .inScope c :: k)) cs w) b k cs e a' w' := by
    intro n
    induction n using Nat.strongRecOn with
    | _ n ih =>
      intro l a w rest hn hf hp
      obtain ⟨e, a₁, w₁, hq, harr⟩ := hp b (.inScope c :: k) cs
      cases e with
      | normal => exact ⟨.normal, a₁, w₁, hq, Steps.trans harr (.one step_inScope)⟩
      | exit id => exact ⟨.exit id, a₁, w₁, hq, fun k' hk => harr k' (by simp [exitTo, hk])⟩
      | goto l' =>
        obtain ⟨hJ', hlt⟩ := hq
        obtain ⟨rest', hf', hp'⟩ := pass l' a₁ w₁ hJ'
        obtain ⟨e₂, a₂, w₂, hq₂, harr₂⟩ := ih _ (by omega) l' a₁ w₁ rest' rfl hf' hp'
        exact ⟨e₂, a₂, w₂, hq₂, .of_steps (harr _ (hg l' rest' hf')) harr₂⟩
      | ret => exact ⟨_, a₁, w₁, hq, harr⟩
      | panic ch => exact ⟨_, a₁, w₁, hq, harr⟩
      | outgrown => exact ⟨_, a₁, w₁, hq, harr⟩
  obtain ⟨e, a₁, w₁, hq, harr⟩ := first b (.inScope c :: k) cs
  cases e with
  | normal => exact ⟨.normal, a₁, w₁, hq, .head step_scope (Steps.trans harr (.one step_inScope))⟩
  | exit id => exact ⟨.exit id, a₁, w₁, hq, fun k' hk => .head step_scope (harr k' (by simp [exitTo, hk]))⟩
  | goto l =>
    obtain ⟨rest, hf, hp⟩ := pass l a₁ w₁ hq
    obtain ⟨e₂, a₂, w₂, hq₂, harr₂⟩ := key _ l a₁ w₁ rest rfl hf hp
    exact ⟨e₂, a₂, w₂, hq₂, .of_steps (.head step_scope (harr _ (hg l rest hf))) harr₂⟩
  | ret => exact ⟨_, a₁, w₁, hq, .of_steps (.one step_scope) harr⟩
  | panic ch => exact ⟨_, a₁, w₁, hq, .of_steps (.one step_scope) harr⟩
  | outgrown => exact ⟨_, a₁, w₁, hq, .of_steps (.one step_scope) harr⟩
end Go.Proofs.YtfndpecffhempaaDoor
