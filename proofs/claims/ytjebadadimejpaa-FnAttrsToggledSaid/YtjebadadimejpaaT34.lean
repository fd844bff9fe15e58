/- What is not among other nodes: NotNodes, NotOf. -/
import Derived.Test.YtjebadadimejpaaT33
namespace Go.Proofs.Ytjebadadimejpaa
open Go.RowKit
set_option linter.unusedVariables false

/-- Nodes of a list that the call owns. -/
def OwnN (bl : Nat → Nat) (B : Nat) (ns : List Nat) (v : Value) (w : World) : Prop := ∃ a c, v = .slice a ns.length c ∧ w.ownsRow B 42 1 (.slice a ns.length c) ns.length (ptrs bl ns)
def OwnNPost (bl : Nat → Nat) (ns : List Nat) (w : World) (e : Ending) (w' : World) : Prop := ∃ v, e = .returned v ∧ OwnN bl w.heap.size ns v w' ∧ Below w.heap.size w w'

def WinRel (bl : Nat → Nat) (ns ms : List Nat) (keep : Bool) (w : World) (v x : Value) (wr : World) : Prop :=
  ∃ (k : Nat) (a : Option Addr) (c : Nat), k ≤ ns.length ∧ x = .int .i64 (k : Nat) ∧ v = .slice a (thoseN (ns.take k) ms (!keep)).length c ∧
    wr.ownsRow w.heap.size 42 1 (.slice a (thoseN (ns.take k) ms (!keep)).length c) (thoseN (ns.take k) ms (!keep)).length (ptrs bl (thoseN (ns.take k) ms (!keep))) ∧ Below w.heap.size w wr

/-- What a selection's nodes are, told as places. -/
theorem SelOf.places {bl : Nat → Nat} {ns : List Nat} {B g : Nat} {doc : Option Addr} {w : World} (h : SelOf bl ns B g doc w) : ∃ a c, w.cell? ⟨g, 0, none⟩ = some (.slice a ns.length c) ∧ RSl w w.heap.size a (ptrs bl ns) := by
  obtain ⟨a, c, prev, hs1, _, hown, _⟩ := h
  refine ⟨a, c, hs1.cells.1, ?_⟩
  obtain ⟨a1, c1, hv, _, hrs⟩ := RSl.own hown
  cases hv
  exact hrs

def ListPost (l : List Int) (w : World) (e : Ending) (w' : World) : Prop := ∃ v, e = .returned (.tuple #[v, .bool true]) ∧ OwnI w.heap.size l v w' ∧ Below w.heap.size w w'

theorem OwnI.base {B B' : Nat} {l : List Int} {v : Value} {w : World} (h : OwnI B l v w) (hb : B' ≤ B) : OwnI B' l v w := by
  obtain ⟨a, c, rfl, h⟩ := h
  exact ⟨a, c, rfl, own_base h hb⟩
theorem OwnI.kept {B : Nat} {l : List Int} {v : Value} {w w' : World} (h : OwnI B l v w) (hb : Below w.heap.size w w') : OwnI B l v w' := by
  obtain ⟨a, c, rfl, h⟩ := h
  exact ⟨a, c, rfl, own_kept h (fun b _ hb2 => hb.block b hb2)⟩
theorem OwnI.row {B : Nat} {l : List Int} {v : Value} {w : World} (h : OwnI B l v w) : ∃ a c, v = .slice a l.length c ∧ RSl w w.heap.size a (ivs l) := by
  obtain ⟨a, c, rfl, h⟩ := h
  obtain ⟨a1, c1, hv, _, hrs⟩ := RSl.own h
  cases hv
  exact ⟨a, c, rfl, hrs⟩

end Go.Proofs.Ytjebadadimejpaa
