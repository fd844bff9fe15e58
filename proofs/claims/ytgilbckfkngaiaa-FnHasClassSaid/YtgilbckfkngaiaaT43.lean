/- FnAddOf: the door, and the walk. -/

import Derived.Test.YtgilbckfkngaiaaT42
namespace Go.Proofs.Ytgilbckfkngaiaa
open Go.RowKit
set_option linter.unusedVariables false

/-- A selection of a tree's nodes, whose own row lies behind the tree. -/
def Chosen2Post (t : List Nd) (ns : List Nat) (w : World) (e : Ending) (w' : World) : Prop :=
  ∃ L bl st g doc Bs, e = .returned (.tuple #[.pointer (some ⟨g, 0, none⟩), .slice (some ⟨L, 0, none⟩) t.length t.length, .bool true]) ∧ L < Bs ∧ w.heap.size ≤ Bs ∧ Bs ≤ w'.heap.size ∧ Tree t w' w.heap.size L bl st ∧ SelOf bl ns Bs g doc w' ∧ Below w.heap.size w w'

set_option maxRecDepth 100000 in
set_option maxHeartbeats 2000000 in
theorem chosen2_any (a : Option Addr) (c : Nat) (t : List Nd) (hR : RightP t) (ad : Option Addr) (c2 : Nat) (l : List Int) (ns : List Nat) (ho : OrdP t.length l ns) (hl : l.length ≤ 2147483647) (w : World) (h : NSl w w.heap.size a t) (hi : ISl w w.heap.size ad l) :
    Calls Try.prog 72 #[.slice a t.length c, .slice ad l.length c2] w (Chosen2Post t ns w) := by
  have HR := Lib.hid hR
  have HO := Lib.hid ho
  have HH := Lib.hid h
  have HI := Lib.hid hi
  clear hR ho h hi
  go_enter Try.func72, Try.ntmps72
  go_wp2_with fail
  refine (grown_any _ c t w HH.out HR.out).mono ?_
  rintro e w1 ⟨L, bl, st, rfl, hb1, hL, hT⟩
  have HT := Lib.hid hT
  have HB1 := Lib.hid hb1
  clear hT hb1
  go_wp2_with fail
  refine (among_any t HR.out.pos HR.out.le _ L bl st ad c2 l ns HO.out hl w1 hL HT.out (HI.out.up HB1.out)).mono ?_
  rintro e w2 ⟨g, doc, rfl, hsel, hb2⟩
  have HSel := Lib.hid hsel
  have HB2 := Lib.hid hb2
  clear hsel hb2
  go_wp2_with fail
  go_ret3
  exact ⟨L, bl, st, g, doc, w1.heap.size, rfl, hL, HB1.out.size, HB2.out.size, HT.out.kept HB2.out, HSel.out, bnext HB1.out HB2.out⟩

end Go.Proofs.Ytgilbckfkngaiaa
