/- A selection of some nodes of a tree: chosen. And FnSize. -/
import Derived.Test.YtgilbckfkngaiaaT23
namespace Go.Proofs.Ytgilbckfkngaiaa
open Go.RowKit
set_option linter.unusedVariables false

/-- A list of numbers below n, each once, has at most n. -/
theorem nodup_len {n : Nat} {l : List Nat} (hnd : l.Nodup) (h : ∀ x ∈ l, x < n) : l.length ≤ n := by
  have hp : l.Perm ((List.range n).filter fun x => decide (x ∈ l)) := by
    rw [List.perm_ext_iff_of_nodup hnd (List.nodup_range.filter _)]
    intro x
    rw [List.mem_filter, List.mem_range, decide_eq_true_eq]
    exact ⟨fun hx => ⟨h x hx, hx⟩, fun hx => hx.2⟩
  rw [hp.length_eq]
  exact Nat.le_trans (List.length_filter_le _ _) (by simp)
theorem OrdP.len {n : Nat} {l : List Int} {ns : List Nat} (h : OrdP n l ns) : ns.length ≤ n := nodup_len h.asc h.lt
theorem OrdP.nodup {n : Nat} {l : List Int} {ns : List Nat} (h : OrdP n l ns) : ns.Nodup := h.asc
theorem OrdP.length {n : Nat} {l : List Int} {ns : List Nat} (h : OrdP n l ns) : l.length = ns.length := by rw [h.eq]; simp

theorem SelOf.base {bl : Nat → Nat} {ns : List Nat} {B B' g : Nat} {doc : Option Addr} {w : World} (h : SelOf bl ns B g doc w) (hb : B' ≤ B) : SelOf bl ns B' g doc w := by
  obtain ⟨a, c, prev, h1, h2, h3, h4⟩ := h
  exact ⟨a, c, prev, h1, by omega, own_base h3 hb, h4⟩
theorem SelOf.kept {bl : Nat → Nat} {ns : List Nat} {B g : Nat} {doc : Option Addr} {w w' : World} (h : SelOf bl ns B g doc w) (hb : Below w.heap.size w w') : SelOf bl ns B g doc w' := by
  obtain ⟨a, c, prev, h1, h2, h3, h4⟩ := h
  exact ⟨a, c, prev, h1.below hb h1.lt, h2, own_kept h3 (fun b _ hb2 => hb.block b hb2), h4⟩

def AmongPost (t : List Nd) (L : Nat) (bl : Nat → Nat) (ns : List Nat) (w : World) (e : Ending) (w' : World) : Prop :=
  ∃ g doc, e = .returned (.tuple #[.pointer (some ⟨g, 0, none⟩), .slice (some ⟨L, 0, none⟩) t.length t.length, .bool true]) ∧ SelOf bl ns w.heap.size g doc w' ∧ Below w.heap.size w w'

set_option maxRecDepth 100000 in
set_option maxHeartbeats 2000000 in
theorem among_any (t : List Nd) (h0 : 0 < t.length) (ht : t.length ≤ 200) (B L : Nat) (bl : Nat → Nat) (st : Nat → Dn) (ad : Option Addr) (c : Nat) (l : List Int) (ns : List Nat) (ho : OrdP t.length l ns) (hl : l.length ≤ 2147483647) (w : World) (hL : L < w.heap.size) (hT : Tree t w B L bl st) (h : ISl w w.heap.size ad l) :
    Calls Try.prog 111 #[.slice (some ⟨L, 0, none⟩) t.length t.length, .slice ad l.length c, .bool true] w (AmongPost t L bl ns w) := by
  have HThese := Lib.hid (these_any t ht B L bl st ad c l ns ho hl w hL hT h)
  have HO := Lib.hid ho
  have HT := Lib.hid hT
  have g0 := hT.cell 0 h0
  have hlen := ho.len
  have HLen := Lib.hid (show ns.length ≤ 200 by omega)
  have p0 : (0 : Int) < (t.length : Int) := by omega
  clear ho hT h hl hlen
  go_enter Try.func111, Try.ntmps111
  go_wp2_with fail
  refine HThese.out.mono ?_
  rintro e w1 ⟨a1, c1, rfl, hown, hb1⟩
  have HOwn := Lib.hid hown
  have HB1 := Lib.hid hb1
  replace g0 := (hb1.cell (p := ⟨L, 0, none⟩) hL).trans g0
  clear hown hb1
  go_wp2_with fail
  refine (newDoc_any ⟨bl 0, 0, none⟩ w1).mono ?_
  rintro e w2 ⟨gd, gs, gn, rfl, hc, hs, hb2⟩
  have HS := Lib.hid hs
  have HB2 := Lib.hid hb2
  clear hs hb2
  go_wp2_with fail
  refine (eq1_any gs gn gd w2 HS.out).mono ?_
  rintro e w3 ⟨rfl, hs3, hb3⟩
  have HS3 := Lib.hid hs3
  have HB3 := Lib.hid (bnext HB2.out hb3)
  clear hs3 hb3
  go_wp2_with fail
  have hrs : RSl w3 w3.heap.size a1 (ptrs bl ns) := by
    obtain ⟨a2, c2, hv, _, hrs⟩ := RSl.own HOwn.out
    cases hv
    exact hrs.up HB3.out
  have HB13 := Lib.hid (bnext HB1.out HB3.out)
  refine (addNodes_any bl t.length ns HO.out.lt HO.out.nodup HLen.out a1 c1 w2.heap.size _ _ w3 hrs (HT.out.nodes.kept HB13.out) HS3.out).mono ?_
  rintro e w4 ⟨g, rfl, hsel, hb4⟩
  have HSel := Lib.hid hsel
  have HB4 := Lib.hid hb4
  clear hsel hb4 hrs
  go_wp2_with fail
  go_ret3
  exact ⟨g, _, rfl, HSel.out.base HB13.out.size, bnext HB13.out HB4.out⟩

def ChosenPost (t : List Nd) (ns : List Nat) (w : World) (e : Ending) (w' : World) : Prop :=
  ∃ L bl st g doc, e = .returned (.tuple #[.pointer (some ⟨g, 0, none⟩), .slice (some ⟨L, 0, none⟩) t.length t.length, .bool true]) ∧ L < w'.heap.size ∧ Tree t w' w.heap.size L bl st ∧ SelOf bl ns w.heap.size g doc w' ∧ Below w.heap.size w w'

set_option maxRecDepth 100000 in
set_option maxHeartbeats 2000000 in
theorem chosen_any (a : Option Addr) (c : Nat) (t : List Nd) (hR : RightP t) (ad : Option Addr) (c2 : Nat) (l : List Int) (ns : List Nat) (ho : OrdP t.length l ns) (hl : l.length ≤ 2147483647) (w : World) (h : NSl w w.heap.size a t) (hi : ISl w w.heap.size ad l) :
    Calls Try.prog 72 #[.slice a t.length c, .slice ad l.length c2] w (ChosenPost t ns w) := by
  have HR := Lib.hid hR
  have HO := Lib.hid ho
  have HH := Lib.hid h
  have HI := Lib.hid hi
  clear hR ho h hi
  go_enter Try.func72, Try.ntmps72
  go_wp2_with fail
  refine (grown_any _ c t w HH.out HR.out).mono ?_
  rintro e w1 ⟨L, bl, st, rfl, hb1, hL, hT⟩
  have HT := Lib.hid hT
  have HB1 := Lib.hid hb1
  clear hT hb1
  go_wp2_with fail
  refine (among_any t HR.out.pos HR.out.le _ L bl st ad c2 l ns HO.out hl w1 hL HT.out (HI.out.up HB1.out)).mono ?_
  rintro e w2 ⟨g, doc, rfl, hsel, hb2⟩
  have HSel := Lib.hid hsel
  have HB2 := Lib.hid hb2
  clear hsel hb2
  go_wp2_with fail
  go_ret3
  exact ⟨L, bl, st, g, doc, rfl, Nat.lt_of_lt_of_le hL HB2.out.size, HT.out.kept HB2.out, HSel.out.base HB1.out.size, bnext HB1.out HB2.out⟩

end Go.Proofs.Ytgilbckfkngaiaa
