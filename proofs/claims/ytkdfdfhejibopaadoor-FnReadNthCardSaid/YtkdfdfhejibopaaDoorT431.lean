/- A scope with several labels, each met where the run goes to it; (*parser).parseNth's text behind its labels. -/
import Derived.Test.YtkdfdfhejibopaaDoorT406
import Derived.WalkMore
import Derived.ScopeJumps
namespace Go.Proofs.YtkdfdfhejibopaaDoor
open Go.RowKit
set_option linter.unusedVariables false

/-- What a run may do with the labels of a scope: at a goto it goes on behind the label. -/
structure Via (P : Program) (c : Code) (Q : Exit → Act → World → Prop) (Z : Nat → Exit → Act → World → Prop) : Prop where
  jump : ∀ (n l : Nat) (rest : Code) (a : Act) (w : World), findLabel c l = some rest → rest.wp P (Z n) a w → Z (n + 1) (.goto l) a w
  ret : ∀ (n : Nat) (a : Act) (w : World), Q .ret a w → Z n .ret a w

def Exit.into (P : Program) (c : Code) (Q : Exit → Act → World → Prop) : Nat → Exit → Act → World → Prop
  | 0, .goto _, _, _ => False
  | n + 1, .goto l, a, w => ∃ rest, findLabel c l = some rest ∧ rest.wp P (Exit.into P c Q n) a w
  | _, .normal, a, w => Q .normal a w
  | _, .exit id, a, w => Q (.exit id) a w
  | _, .ret, a, w => Q .ret a w
  | _, .panic ch, a, w => Q (.panic ch) a w
  | _, .outgrown, a, w => Q .outgrown a w

theorem via_into (P : Program) (c : Code) (Q : Exit → Act → World → Prop) : Via P c Q (Exit.into P c Q) where
  jump n l rest a w h1 h2 := ⟨rest, h1, h2⟩
  ret n a w h := by cases n <;> exact h

theorem scope_into {P : Program} {c : Code} {Q : Exit → Act → World → Prop} {b : Frame} {k : List Item} {cs : List Frame} :
    ∀ (n : Nat) (d : Code) (a : Act) (w : World), d.wp P (Exit.into P c Q n) a w →
      ∃ e a' w', Q e a' w' ∧ Arrives P (lone (b.at a (.code d :: .inScope c :: k)) cs w) b k cs e a' w' := by
  intro n
  induction n with
  | zero =>
    intro d a w h
    obtain ⟨e, a₁, w₁, hq, harr⟩ := h b (.inScope c :: k) cs
    cases e with
    | normal => exact ⟨.normal, a₁, w₁, hq, Steps.trans harr (.one step_inScope)⟩
    | exit id => exact ⟨.exit id, a₁, w₁, hq, fun k' hk => harr k' (by simp [exitTo, hk])⟩
    | goto l => exact hq.elim
    | ret => exact ⟨_, a₁, w₁, hq, harr⟩
    | panic ch => exact ⟨_, a₁, w₁, hq, harr⟩
    | outgrown => exact ⟨_, a₁, w₁, hq, harr⟩
  | succ n ih =>
    intro d a w h
    obtain ⟨e, a₁, w₁, hq, harr⟩ := h b (.inScope c :: k) cs
    cases e with
    | normal => exact ⟨.normal, a₁, w₁, hq, Steps.trans harr (.one step_inScope)⟩
    | exit id => exact ⟨.exit id, a₁, w₁, hq, fun k' hk => harr k' (by simp [exitTo, hk])⟩
    | goto l =>
      obtain ⟨rest, hr, hw⟩ := hq
      have hg : gotoIn l (.inScope c :: k) = some (.code rest :: .inScope c :: k) := by simp [gotoIn, hr]
      obtain ⟨e₂, a₂, w₂, hq₂, harr₂⟩ := ih rest a₁ w₁ hw
      exact ⟨e₂, a₂, w₂, hq₂, .of_steps (harr _ hg) harr₂⟩
    | ret => exact ⟨_, a₁, w₁, hq, harr⟩
    | panic ch => exact ⟨_, a₁, w₁, hq, harr⟩
    | outgrown => exact ⟨_, a₁, w₁, hq, harr⟩

theorem wp_scope_via {P : Program} {c : Code} {Q : Exit → Act → World → Prop} {a : Act} {w : World} (n : Nat)
    (h : ∀ Z, Via P c Q Z → c.wp P (Z n) a w) : (Code.scope c).wp P Q a w := by
  intro b k cs
  obtain ⟨e, a₁, w₁, hq, harr⟩ := scope_into (b := b) (k := k) (cs := cs) n c a w (h _ (via_into P c Q))
  cases e with
  | normal => exact ⟨.normal, a₁, w₁, hq, .head step_scope harr⟩
  | exit id => exact ⟨.exit id, a₁, w₁, hq, fun k' hk => .head step_scope (harr k' hk)⟩
  | goto l => exact ⟨.goto l, a₁, w₁, hq, fun k' hk => .head step_scope (harr k' hk)⟩
  | ret => exact ⟨_, a₁, w₁, hq, .of_steps (.one step_scope) harr⟩
  | panic ch => exact ⟨_, a₁, w₁, hq, .of_steps (.one step_scope) harr⟩
  | outgrown => exact ⟨_, a₁, w₁, hq, .of_steps (.one step_scope) harr⟩

/-- parseNth's text inside its scope. -/
def IsNth (c : Code) : Prop := ∃ r, Tryd.f37.body = some (.seq r (.scope c))
theorem isNth_ex : ∃ c, IsNth c := ⟨_, _, rfl⟩

end Go.Proofs.YtkdfdfhejibopaaDoor
