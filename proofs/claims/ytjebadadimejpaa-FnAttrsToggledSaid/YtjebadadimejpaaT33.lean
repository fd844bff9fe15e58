/- Those of some nodes that are not among others: the reference's and the program's. -/
import Derived.Test.YtjebadadimejpaaT32
namespace Go.Proofs.Ytjebadadimejpaa
open Go.RowKit
set_option linter.unusedVariables false

/-- Places of elements of a right tree, ascending. -/
structure SelP (t : List Nd) (l : List Int) (ns : List Nat) : Prop where
  right : RightP t
  ord : OrdP t.length l ns
  kind : ∀ k ∈ ns, (t.getD k default).kind = 3

def SelPost (t : List Nd) (l : List Int) (w : World) (e : Ending) (w' : World) : Prop := ∃ b, e = .returned (.bool b) ∧ (b = true → ∃ ns, SelP t l ns) ∧ Below w.heap.size w w'

def SomePost (t : List Nd) (l m : List Int) (w : World) (e : Ending) (w' : World) : Prop := ∃ b, e = .returned (.bool b) ∧ (b = true → (∃ ns, SelP t l ns) ∧ ∃ ms, SelP t m ms) ∧ Below w.heap.size w w'

/-- Those of ns that are among ms, or are not. -/
def thoseN (ns ms : List Nat) (no : Bool) : List Nat := ns.filter fun n => decide (n ∈ ms) != no

theorem thoseN_snoc (ns ms : List Nat) (no : Bool) (i : Nat) : thoseN (ns ++ [i]) ms no = thoseN ns ms no ++ if (decide (i ∈ ms) != no) = true then [i] else [] := by
  unfold thoseN
  rw [List.filter_append]
  congr 1
  rw [List.filter_cons, List.filter_nil]

theorem thoseN_len (ns ms : List Nat) (no : Bool) : (thoseN ns ms no).length ≤ ns.length := List.length_filter_le _ _
theorem thoseN_mem {ns ms : List Nat} {no : Bool} {k : Nat} (h : k ∈ thoseN ns ms no) : k ∈ ns := (List.mem_filter.1 h).1

def ThoseRel (ns ms : List Nat) (no : Bool) (w : World) (v x : Value) (wr : World) : Prop :=
  ∃ (k : Nat) (a : Option Addr) (c : Nat), k ≤ ns.length ∧ x = .int .i64 (k : Nat) ∧ v = .slice a (thoseN (ns.take k) ms no).length c ∧
    wr.ownsRow w.heap.size 3 1 (.slice a (thoseN (ns.take k) ms no).length c) (thoseN (ns.take k) ms no).length (ivs (toI (thoseN (ns.take k) ms no))) ∧ Below w.heap.size w wr

def OwnIPost (l : List Int) (w : World) (e : Ending) (w' : World) : Prop := ∃ v, e = .returned v ∧ OwnI w.heap.size l v w' ∧ Below w.heap.size w w'

end Go.Proofs.Ytjebadadimejpaa
