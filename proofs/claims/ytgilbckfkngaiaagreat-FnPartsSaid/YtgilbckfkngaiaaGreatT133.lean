/- Lists of one number; an append behind a guard. -/
import Derived.Test.YtgilbckfkngaiaaGreatT53
namespace Go.Proofs.YtgilbckfkngaiaaGreat
open Go.RowKit
set_option linter.unusedVariables false

/-- A list of one number, that has just been laid. -/
theorem isl_one (w : World) (x : Int) (hx : -9223372036854775808 ≤ x ∧ x ≤ 9223372036854775807) (t : TypeId) : ISl (w.alloc (.cells #[.int .i64 x] t)) (w.alloc (.cells #[.int .i64 x] t)).heap.size (some ⟨w.heap.size, 0, none⟩) [x] := by
  refine ⟨.inr ⟨w.heap.size, 0, rfl, by simp, fun i hi => ?_⟩, by simp [maxLen], ?_⟩
  · have : i = 0 := by simp [ivs] at hi; omega
    subst this
    rw [World.cell?_alloc_at _ _ _ _ (by simp)]; rfl
  · intro y hy
    simp at hy
    subst hy; exact hx
theorem isl_one' (w : World) (n : Nat) (hn : n = w.heap.size) (x : Int) (hx : -9223372036854775808 ≤ x ∧ x ≤ 9223372036854775807) (t : TypeId) : ISl (w.alloc (.cells #[.int .i64 x] t)) (w.alloc (.cells #[.int .i64 x] t)).heap.size (some ⟨n, 0, none⟩) [x] := by
  subst hn; exact isl_one w x hx t
theorem one_sel {t : List Nd} {x : Int} {ns : List Nat} (h : SelP t [x] ns) : ∃ i : Nat, ns = [i] ∧ x = i ∧ i < t.length ∧ isEl t i = true := by
  have e := h.ord.eq
  match ns, e with
  | [i], e =>
    simp at e
    refine ⟨i, rfl, e, h.ord.lt i (by simp), ?_⟩
    unfold isEl
    rw [decide_eq_true_eq]; exact h.kind i (by simp)
theorem ord_one {t : List Nd} {i : Nat} (hi : i < t.length) : OrdP t.length [(i : Int)] [i] := ⟨rfl, by simpa using hi, by simp⟩
theorem mapN_one (i : Nat) (fs : Nat → List Nat) : mapN [i] fs = fs i := by
  show addN [] (fs i) = _
  simp [addN]

section
variable (w : World)
/-- An append, behind a guard that says yes or behind none; the list that it makes has a name of its own. -/
theorem wpList_append_ints_z {ops : Array Oper} {rest : List Oper} {o : Oper} {a : Act} {Q : Exit → Act → World → Prop} (hgd : Region.wanted o (yielded ops a.tmps) = true) (s x : Operand)
    (ho : o.op = .call { callee := .builtin .append, args := #[s, x], argTypes := #[23, 23] })
    (base : Nat) (v : Value) (xs : List Int) (hs : a.eval s = v) (hown : w.ownsRow base 3 1 v xs.length (ivs xs))
    (A : Option Addr) (c : Nat) (ys : List Int) (hx : a.eval x = .slice A ys.length c) (hr : RSl w w.heap.size A (ivs ys)) (hlen : xs.length + ys.length ≤ 1000000) (hbase : base ≤ w.heap.size) (zs : List Int) (hz : zs = xs ++ ys)
    (h : ∀ a' c' w', w'.ownsRow base 3 1 (.slice a' zs.length c') zs.length (ivs zs) → w.grownBy w' v.ownBlock → wpList Tryz.prog ops Q rest (a.put o.dst (.slice a' zs.length c')) w') :
    wpList Tryz.prog ops Q (o :: rest) a w := by
  subst hz
  exact BigFrame.wpList_want hgd fun _ hK => wp_append_ints w s x ho base v xs hs hown A c ys hx hr hlen hbase fun a' c' w' h2 h3 h4 => hK _ _ (h a' c' w' h2 h3)
end
theorem own_empty0 (w : World) (t : TypeId) : (w.alloc (.cells #[] t)).ownsRow w.heap.size t 1 (.slice (some ⟨w.heap.size, 0, none⟩) 0 0) 0 [] := by
  refine ⟨by simp, .inr ⟨w.heap.size, 0, #[], rfl, Nat.le_refl _, ?_, by omega, by simp [maxLen], rfl, rfl⟩⟩
  exact heap_alloc_new w _

end Go.Proofs.YtgilbckfkngaiaaGreat
