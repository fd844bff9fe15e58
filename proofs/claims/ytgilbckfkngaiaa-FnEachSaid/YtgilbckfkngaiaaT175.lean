/- A region that draws its order, in a round of a range over a function. -/
import Derived.Test.YtgilbckfkngaiaaT166
import Derived.RangeFuncLeaves
import Derived.RangeFuncOwn
import Derived.RangeFuncCalls
import Derived.OrdersIn
import Derived.TacticsIn
namespace Go.Proofs.Ytgilbckfkngaiaa
set_option linter.unusedVariables false

section
variable {P : Program} {ops : Array Oper} {Q : Exit → Act → World → Prop} {md : Region.Mode}

theorem rowsIn_of_rows {l n : Nat} {row : String} {args : Array Value} {w : World} {R : Value → World → Prop} (h : Rows P row args w R) : RowsIn (Fence.wide.inRound l) n P row args w R :=
  fun c cs _ => let ⟨v, w', r, s⟩ := h c cs; ⟨v, w', r, stepsIn_wide.2 s⟩

/-- In a round every operation that is no defer is carried out as everywhere. -/
theorem opIn_of_op {l n : Nat} {o : Oper} {a : Act} {w : World} {K : Act → World → Prop} (hd : ∀ c, o.op ≠ .defer c) (h : Oper.wp P o a w K Q) : Oper.wpIn (Fence.wide.inRound l) n P o a w K Q := by
  unfold Oper.wpIn
  unfold Oper.wp at h
  refine ⟨fun _ _ => trivial, ?_⟩
  rw [Fence.inRound_round, Oper.semAt_some _ _ _ hd]
  generalize (execOp a.eval o).run P w = r at h
  cases r with
  | ok x w' =>
    cases x with
    | value v => exact h
    | skip => exact h
    | defer d => exact h
    | enter f args => exact ⟨fun hx => (by cases hx), CallsIn.inRound l ((callsIn_wide (n := n - 1)).2 h)⟩
    | row r args => exact ⟨fun hx => (by cases hx), rowsIn_of_rows h⟩
    | _ => exact h.elim
  | halt x w' =>
    cases x <;> first | exact h | exact h.elim

theorem anyIn_of_any {l n : Nat} (hq : ¬ LetsOut Q) (hd : ∀ (j : Nat) (o : Oper), ops[j]? = some o → ∀ c, o.op ≠ .defer c) : ∀ (fuel : Nat) (listed : Array Bool) (a : Act) (w : World), wpAny P md ops Q fuel listed a w → wpAnyIn (Fence.wide.inRound l) n P md ops Q fuel listed a w
  | 0, _, _, _, h => h
  | fuel + 1, listed, a, w, h => by
    refine ⟨h.1, fun i hi => ?_⟩
    have h1 := h.2 i hi
    unfold wpOpIn
    unfold wpOp at h1
    cases ho : ops[i]? with
    | none =>
      rw [ho] at h1
      exact anyIn_of_any hq hd fuel _ a w h1
    | some o =>
      rw [ho] at h1
      dsimp only at h1 ⊢
      split at h1
      · rename_i hw
        rw [if_pos hw]
        exact Oper.wpIn_mono (fun a w h => anyIn_of_any hq hd fuel _ a w h) (opIn_of_op (hd i o ho) (h1.resolve_right (fun x => hq x.2)))
      · rename_i hw
        rw [if_neg hw]
        exact ⟨fun _ _ => trivial, anyIn_of_any hq hd fuel _ _ w h1⟩

theorem wpIn_region_G {l n id : Nat} {a : Act} {w : World} (G : Array Bool → World → Prop) (hq : ¬ LetsOut Q) (hd : ∀ (j : Nat) (o : Oper), ops[j]? = some o → ∀ c, o.op ≠ .defer c) (hm : P.follows .mixedOrders = true)
    (h : wpAnyG P .any ops Q G ops.size (Array.replicate ops.size false) a w.drew) : (Code.region id ops true).wpIn (Fence.wide.inRound l) n P Q a w :=
  wpIn_region_any hm (anyIn_of_any hq hd _ _ _ _ (wpAny_of_G _ _ _ _ h))
end

def noDefer (ops : Array Oper) : Bool := ops.all fun o => match o.op with | .defer .. => false | _ => true
theorem noDefer_spec {ops : Array Oper} (h : noDefer ops = true) (j : Nat) (o : Oper) (ho : ops[j]? = some o) : ∀ c, o.op ≠ .defer c := by
  intro c hc
  unfold noDefer at h
  rw [Array.all_eq_true'] at h
  have := h o (Array.mem_of_getElem? ho)
  rw [hc] at this
  cases this
end Go.Proofs.Ytgilbckfkngaiaa
