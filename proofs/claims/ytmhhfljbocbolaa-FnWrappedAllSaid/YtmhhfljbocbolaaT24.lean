/- A selection of some nodes of a tree: chosen. And FnSize. -/
import Derived.Test.YtmhhfljbocbolaaT23
namespace Go.Proofs.Ytmhhfljbocbolaa
open Go.RowKit
set_option linter.unusedVariables false

/-- A list of numbers below n, each once, has at most n. -/
theorem nodup_len {n : Nat} {l : List Nat} (hnd : l.Nodup) (h : ∀ x ∈ l, x < n) : l.length ≤ n := by
  have hp : l.Perm ((List.range n).filter fun x => decide (x ∈ l)) := by
    rw [List.perm_ext_iff_of_nodup hnd (List.nodup_range.filter _)]
    intro x
    rw [List.mem_filter, List.mem_range, decide_eq_true_eq]
    exact ⟨fun hx => ⟨h x hx, hx⟩, fun hx => hx.2⟩
  rw [hp.length_eq]
  exact Nat.le_trans (List.length_filter_le _ _) (by simp)
theorem OrdP.len {n : Nat} {l : List Int} {ns : List Nat} (h : OrdP n l ns) : ns.length ≤ n := nodup_len h.asc h.lt
theorem OrdP.nodup {n : Nat} {l : List Int} {ns : List Nat} (h : OrdP n l ns) : ns.Nodup := h.asc
theorem OrdP.length {n : Nat} {l : List Int} {ns : List Nat} (h : OrdP n l ns) : l.length = ns.length := by rw [h.eq]; simp

theorem SelOf.base {bl : Nat → Nat} {ns : List Nat} {B B' g : Nat} {doc : Option Addr} {w : World} (h : SelOf bl ns B g doc w) (hb : B' ≤ B) : SelOf bl ns B' g doc w := by
  obtain ⟨a, c, prev, h1, h2, h3, h4⟩ := h
  exact ⟨a, c, prev, h1, by omega, own_base h3 hb, h4⟩
theorem SelOf.kept {bl : Nat → Nat} {ns : List Nat} {B g : Nat} {doc : Option Addr} {w w' : World} (h : SelOf bl ns B g doc w) (hb : Below w.heap.size w w') : SelOf bl ns B g doc w' := by
  obtain ⟨a, c, prev, h1, h2, h3, h4⟩ := h
  exact ⟨a, c, prev, h1.below hb h1.lt, h2, own_kept h3 (fun b _ hb2 => hb.block b hb2), h4⟩

def AmongPost (t : List Nd) (L : Nat) (bl : Nat → Nat) (ns : List Nat) (w : World) (e : Ending) (w' : World) : Prop :=
  ∃ g doc, e = .returned (.tuple #[.pointer (some ⟨g, 0, none⟩), .slice (some ⟨L, 0, none⟩) t.length t.length, .bool true]) ∧ SelOf bl ns w.heap.size g doc w' ∧ Below w.heap.size w w'

def ChosenPost (t : List Nd) (ns : List Nat) (w : World) (e : Ending) (w' : World) : Prop :=
  ∃ L bl st g doc, e = .returned (.tuple #[.pointer (some ⟨g, 0, none⟩), .slice (some ⟨L, 0, none⟩) t.length t.length, .bool true]) ∧ L < w'.heap.size ∧ Tree t w' w.heap.size L bl st ∧ SelOf bl ns w.heap.size g doc w' ∧ Below w.heap.size w w'

end Go.Proofs.Ytmhhfljbocbolaa
