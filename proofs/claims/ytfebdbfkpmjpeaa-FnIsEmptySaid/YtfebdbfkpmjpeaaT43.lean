/- FnAddOf: the door, and the walk. -/

import Derived.Test.YtfebdbfkpmjpeaaT42
namespace Go.Proofs.Ytfebdbfkpmjpeaa
open Go.RowKit
set_option linter.unusedVariables false

/-- A selection of a tree's nodes, whose own row lies behind the tree. -/
def Chosen2Post (t : List Nd) (ns : List Nat) (w : World) (e : Ending) (w' : World) : Prop :=
  ∃ L bl st g doc Bs, e = .returned (.tuple #[.pointer (some ⟨g, 0, none⟩), .slice (some ⟨L, 0, none⟩) t.length t.length, .bool true]) ∧ L < Bs ∧ w.heap.size ≤ Bs ∧ Bs ≤ w'.heap.size ∧ Tree t w' w.heap.size L bl st ∧ SelOf bl ns Bs g doc w' ∧ Below w.heap.size w w'

set_option maxRecDepth 100000 in
set_option maxHeartbeats 2000000 in
theorem chosen2_any (a : Option Addr) (c : Nat) (t : List Nd) (hR : RightP t) (ad : Option Addr) (c2 : Nat) (l : List Int) (ns : List Nat) (ho : OrdP t.length l ns) (hl : l.length ≤ 2147483647) (w : World) (h : NSl w w.heap.size a t) (hi : ISl w w.heap.size ad l) :
    Calls Try.prog 96 #[.slice a t.length c, .slice ad l.length c2] w (Chosen2Post t ns w) := by
  have HR := Lib.hid hR
  have HO := Lib.hid ho
  have HH := Lib.hid h
  have HI := Lib.hid hi
  clear hR ho h hi
  go_enter Try.func96, Try.ntmps96
  go_wp2_with fail
  refine (grown_any _ c t w HH.out HR.out).mono ?_
  rintro e w1 ⟨L, bl, st, rfl, hb1, hL, hT⟩
  have HT := Lib.hid hT
  have HB1 := Lib.hid hb1
  clear hT hb1
  go_wp2_with fail
  refine (among_any t HR.out.pos HR.out.le _ L bl st ad c2 l ns HO.out hl w1 hL HT.out (HI.out.up HB1.out)).mono ?_
  rintro e w2 ⟨g, doc, rfl, hsel, hb2⟩
  have HSel := Lib.hid hsel
  have HB2 := Lib.hid hb2
  clear hsel hb2
  go_wp2_with fail
  go_ret3
  exact ⟨L, bl, st, g, doc, w1.heap.size, rfl, hL, HB1.out.size, HB2.out.size, HT.out.kept HB2.out, HSel.out, bnext HB1.out HB2.out⟩

set_option maxRecDepth 100000 in
set_option maxHeartbeats 2000000 in
theorem addOf_any (a : Option Addr) (c : Nat) (t : List Nd) (hR : RightP t) (ad : Option Addr) (c2 : Nat) (l : List Int) (ns : List Nat) (ho : OrdP t.length l ns) (hl : l.length ≤ 2147483647) (ad3 : Option Addr) (c3 : Nat) (m : List Int) (ms : List Nat) (hom : OrdP t.length m ms) (hm : m.length ≤ 2147483647) (w : World) (h : NSl w w.heap.size a t) (hi : ISl w w.heap.size ad l) (hj : ISl w w.heap.size ad3 m) :
    Calls Try.prog 40 #[.slice a t.length c, .slice ad l.length c2, .slice ad3 m.length c3] w (ListPost (toI (addN ns ms)) w) := by
  have HC := Lib.hid (chosen2_any a c t hR ad c2 l ns ho hl w h hi)
  have HR := Lib.hid hR
  have HO := Lib.hid ho
  have HM := Lib.hid hom
  have HJ := Lib.hid hj
  have hnl := ho.len
  have hml := hom.len
  have hle := hR.le
  have HNL := Lib.hid (show ns.length ≤ 200 by omega)
  have HML := Lib.hid (show ms.length ≤ 200 by omega)
  clear hR ho hom h hi hj hnl hml hl
  go_enter Try.func40, Try.ntmps40
  go_wp2_with fail
  refine HC.out.mono ?_
  rintro e w1 ⟨L, bl, st, g, doc, Bs, rfl, hL, hwB, hBs, hT, hsel, hb1⟩
  have HT := Lib.hid hT
  have HSel := Lib.hid hsel
  have HB1 := Lib.hid hb1
  have hL1 : L < w1.heap.size := by omega
  clear hT hsel hb1
  go_wp2_with fail
  refine (these_any t hle _ L bl st ad3 c3 m ms HM.out hm w1 hL1 HT.out (HJ.out.up HB1.out)).mono ?_
  rintro e w2 ⟨a2, c4, rfl, hown, hb2⟩
  have HB2 := Lib.hid hb2
  have HT2 := Lib.hid (HT.out.kept hb2)
  have HSel2 := Lib.hid (HSel.out.kept hb2)
  have HRs : Hid (RSl w2 w2.heap.size a2 (ptrs bl ms)) := by
    obtain ⟨a1, c1, hv, _, hrs⟩ := RSl.own hown
    cases hv
    exact hrs
  have HLo : Hid (∀ b o, a2 = some ⟨b, o, none⟩ → w1.heap.size ≤ b) := by
    intro b o e
    rcases hown.2 with ⟨hv, _⟩ | ⟨g', cap, cur, hv, hg, _⟩
    · rw [e] at hv; cases hv
    · rw [e] at hv; cases hv; exact hg
  have hL2 := Nat.lt_of_lt_of_le hL1 hb2.size
  have hsz2 := hb2.size
  obtain ⟨a5, c5, prev, hs5, hBg, hown5, _⟩ := HSel.out
  have hlt5 : ∀ q, (Value.slice a5 ns.length c5).ownBlock = some q → Bs ≤ q ∧ q < w1.heap.size := fun q hq => hown5.lt q hq
  have HAdd := Lib.hid (addNodesG_any bl t.length Bs ns ms HO.out.lt HM.out.lt HM.out.nodup HNL.out HML.out a5 c5 a2 c4 g doc prev w2 (by omega) (hs5.below hb2 hs5.lt) (own_kept hown5 (fun b _ hb => hb2.block b hb)) HRs.out
    (fun b o e e2 => by have := (hlt5 b e2.symm).2; have := HLo.out b o e; omega) HT2.out.nodes)
  have HLt5 := Lib.hid hlt5
  have HNe : Hid (∀ i, i < t.length → some (bl i) ≠ (Value.slice a5 ns.length c5).ownBlock) := by
    intro i hi e
    obtain ⟨cs, h1, _⟩ := HT.out.nodes.blk i hi
    exact own_ne hown5 h1 (by decide) e.symm
  clear hown hb2 hs5 hown5 hlt5
  go_wp2_with fail
  refine HAdd.out.mono ?_
  rintro e w3 ⟨g2, rfl, hsel3, hg3⟩
  obtain ⟨a6, c6, g0, hrs⟩ := hsel3.places
  have HRs3 := Lib.hid hrs
  have hN3 : NodesAt bl t.length w3 := by
    refine HT2.out.nodes.grown hg3 (fun i hi e => ?_)
    exact HNe.out i hi e
  have hC3 : ∀ j, j < t.length → w3.cell? ⟨L, j, none⟩ = some (.pointer (some ⟨bl j, 0, none⟩)) := by
    intro j hj
    rw [World.cell?_of_block (hg3.block L hL2 (fun e => by have := (HLt5.out L e.symm).1; omega))]
    exact HT2.out.cell j hj
  have HN3 := Lib.hid hN3
  have HC3 := Lib.hid hC3
  have hL3 := Nat.lt_of_lt_of_le hL2 hg3.size
  have HB : Hid (Below w.heap.size w w3) := (bnext HB1.out HB2.out).grown hg3 (bnext HB1.out HB2.out).size (fun q hq => by have := (HLt5.out q hq).1; omega)
  clear hsel3 hrs hN3 hC3 hg3
  go_wp2_with fail
  refine (placesOf_any bl t.length L hle (addN ns ms) (fun k hk => (addN_mem.1 hk).elim (HO.out.lt k) (HM.out.lt k)) (by have := addN_len ns ms; have := HNL.out; have := HML.out; omega) a6 c6 w3 hL3 HN3.out (fun j hj => HC3.out j hj) HRs3.out).mono ?_
  rintro e w4 ⟨v, rfl, hown4, hb4⟩
  have HO4 := Lib.hid (hown4.base HB.out.size)
  have HB4 := Lib.hid (bnext HB.out hb4)
  clear hown4 hb4
  go_wp2_with fail
  go_ret2
  exact ⟨v, rfl, HO4.out, HB4.out⟩
end Go.Proofs.Ytfebdbfkpmjpeaa
