/- AddNodes: the reference's list. -/
import Derived.Test.YtmhhfljbocbolaaT39
import Derived.Deep.RegionLaw
namespace Go.Proofs.Ytmhhfljbocbolaa
open Go.RowKit
set_option linter.unusedVariables false

theorem own_empty (w : World) (t : TypeId) : (w.alloc (.cells #[] t)).drew.ownsRow w.heap.size t 1 (.slice (some ⟨w.heap.size, 0, none⟩) 0 0) 0 [] := by
  refine ⟨by simp, .inr ⟨w.heap.size, 0, #[], rfl, Nat.le_refl _, ?_, by omega, by simp [maxLen], rfl, rfl⟩⟩
  exact heap_alloc_new w _

theorem ivs_append (l m : List Int) : ivs (l ++ m) = ivs l ++ ivs m := by simp [ivs]

section
variable (w : World)
theorem wp_append_ints {o : Oper} {a : Act} {K : Act → World → Prop} {Q : Exit → Act → World → Prop} (s x : Operand)
    (ho : o.op = .call { callee := .builtin .append, args := #[s, x], argTypes := #[23, 23] })
    (base : Nat) (v : Value) (xs : List Int) (hs : a.eval s = v) (hown : w.ownsRow base 3 1 v xs.length (ivs xs))
    (A : Option Addr) (c : Nat) (ys : List Int) (hx : a.eval x = .slice A ys.length c) (hr : RSl w w.heap.size A (ivs ys)) (hlen : xs.length + ys.length ≤ 1000000) (hbase : base ≤ w.heap.size)
    (h : ∀ a' c' w', w'.ownsRow base 3 1 (.slice a' (xs ++ ys).length c') (xs ++ ys).length (ivs (xs ++ ys)) → w.grownBy w' v.ownBlock → ((Value.slice a' (xs ++ ys).length c').ownBlock = v.ownBlock ∨ (Value.slice a' (xs ++ ys).length c').ownBlock = some w.heap.size) → K (a.put o.dst (.slice a' (xs ++ ys).length c')) w') :
    Oper.wp Try.prog o a w K Q := by
  obtain ⟨i0, hinf, hz0, hz1, hz2⟩ := info_parts Try.info3
  have hR := hr.reads
  rw [ivs_length] at hR
  refine wp_append_any w s x 23 ho base 3 i0 (.int .i64 0) 1 8 Try.underlying23 hinf hz0 hz1 hz2 rfl (by decide) v xs.length (ivs xs) hs hown w.heap.size A ys.length c (ivs ys) hx hR (one_ivs ys) (by unfold maxLen; omega) (by omega) hbase ?_
  intro v' w' h1 h2 h3
  rw [← ivs_append, ← List.length_append] at h1
  obtain ⟨a', c', rfl⟩ := own_slice h1
  exact h a' c' w' h1 h2 h3

theorem step_append_ints {ops : Array Oper} {o : Oper} {a : Act} {K : Act → World → Prop} {Q : Exit → Act → World → Prop} {E : Prop} (hgd : o.guard = none) (s x : Operand)
    (ho : o.op = .call { callee := .builtin .append, args := #[s, x], argTypes := #[23, 23] })
    (base : Nat) (v : Value) (xs : List Int) (hs : a.eval s = v) (hown : w.ownsRow base 3 1 v xs.length (ivs xs))
    (A : Option Addr) (c : Nat) (ys : List Int) (hx : a.eval x = .slice A ys.length c) (hr : RSl w w.heap.size A (ivs ys)) (hlen : xs.length + ys.length ≤ 1000000) (hbase : base ≤ w.heap.size)
    (h : ∀ a' c' w', w'.ownsRow base 3 1 (.slice a' (xs ++ ys).length c') (xs ++ ys).length (ivs (xs ++ ys)) → w.grownBy w' v.ownBlock → ((Value.slice a' (xs ++ ys).length c').ownBlock = v.ownBlock ∨ (Value.slice a' (xs ++ ys).length c').ownBlock = some w.heap.size) → K (a.put o.dst (.slice a' (xs ++ ys).length c')) w') :
    if Region.wanted o (yielded ops a.tmps) = true then Oper.wp Try.prog o a w K Q else E := by
  have hw : Region.wanted o (yielded ops a.tmps) = true := by simp [Region.wanted, hgd]
  rw [if_pos hw]
  exact wp_append_ints w s x ho base v xs hs hown A c ys hx hr hlen hbase h

theorem wpList_append_ints {ops : Array Oper} {rest : List Oper} {o : Oper} {a : Act} {Q : Exit → Act → World → Prop} (hgd : o.guard = none) (s x : Operand)
    (ho : o.op = .call { callee := .builtin .append, args := #[s, x], argTypes := #[23, 23] })
    (base : Nat) (v : Value) (xs : List Int) (hs : a.eval s = v) (hown : w.ownsRow base 3 1 v xs.length (ivs xs))
    (A : Option Addr) (c : Nat) (ys : List Int) (hx : a.eval x = .slice A ys.length c) (hr : RSl w w.heap.size A (ivs ys)) (hlen : xs.length + ys.length ≤ 1000000) (hbase : base ≤ w.heap.size)
    (h : ∀ a' c' w', w'.ownsRow base 3 1 (.slice a' (xs ++ ys).length c') (xs ++ ys).length (ivs (xs ++ ys)) → w.grownBy w' v.ownBlock → ((Value.slice a' (xs ++ ys).length c').ownBlock = v.ownBlock ∨ (Value.slice a' (xs ++ ys).length c').ownBlock = some w.heap.size) → wpList Try.prog ops Q rest (a.put o.dst (.slice a' (xs ++ ys).length c')) w') :
    wpList Try.prog ops Q (o :: rest) a w :=
  wpList_plain hgd fun _ hK => wp_append_ints w s x ho base v xs hs hown A c ys hx hr hlen hbase fun a' c' w' h2 h3 h4 => hK _ _ (h a' c' w' h2 h3 h4)
end

end Go.Proofs.Ytmhhfljbocbolaa
