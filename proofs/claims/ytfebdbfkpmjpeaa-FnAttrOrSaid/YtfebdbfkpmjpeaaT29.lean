/- AttrOr of a selection. -/
import Derived.Test.YtfebdbfkpmjpeaaT28
namespace Go.Proofs.Ytfebdbfkpmjpeaa
open Go.RowKit
set_option linter.unusedVariables false

def orA (o : Option At2) (d : ByteArray) : ByteArray := match o with | some x => x.val | none => d

set_option maxRecDepth 100000 in
set_option maxHeartbeats 1000000 in
theorem attrOr_any (t : List Nd) (B0 B L : Nat) (bl : Nat → Nat) (st : Nat → Dn) (ns : List Nat) (hns : ∀ i ∈ ns, i < t.length) (g : Nat) (doc : Option Addr) (k d : ByteArray) (w : World) (hs : SelOf bl ns B g doc w) (hT : Tree t w B0 L bl st) (hats : ∀ i (h : i < t.length), (atsOf t[i]).length ≤ 2147483647) :
    Calls Try.prog 105 #[.pointer (some ⟨g, 0, none⟩), .string k, .string d] w fun e w' => e = .returned (.string (orA (headA t ns k) d)) ∧ Below w.heap.size w w' := by
  have HP := Lib.hid (selAttr_any t B0 B L bl st ns hns g doc k w hs hT hats)
  clear hs hT hats hns
  obtain ⟨r, hr⟩ : ∃ r, r = headA t ns k := ⟨_, rfl⟩
  rw [← hr] at HP ⊢
  clear hr
  go_enter Try.func105, Try.ntmps105
  go_wp2_with fail
  refine HP.out.mono ?_
  rintro e w1 ⟨rfl, hb1⟩
  have HB := Lib.hid hb1
  clear hb1
  cases r with
  | none =>
    go_wp2_with fail
    go_ret
    exact ⟨rfl, HB.out⟩
  | some x =>
    go_wp2_with fail
    go_ret
    exact ⟨rfl, HB.out⟩

set_option maxRecDepth 100000 in
set_option maxHeartbeats 1000000 in
theorem attrOrOf_any (a : Option Addr) (c : Nat) (t : List Nd) (hR : RightP t) (ad : Option Addr) (c2 : Nat) (l : List Int) (ns : List Nat) (ho : OrdP t.length l ns) (hl : l.length ≤ 2147483647) (k d : ByteArray) (w : World) (h : NSl w w.heap.size a t) (hi : ISl w w.heap.size ad l) (hats : ∀ i (h : i < t.length), (atsOf t[i]).length ≤ 2147483647) :
    Calls Try.prog 43 #[.slice a t.length c, .slice ad l.length c2, .string k, .string d] w fun e w' => e = .returned (.tuple #[.string (orA (headA t ns k) d), .bool true]) ∧ Below w.heap.size w w' := by
  have HC := Lib.hid (chosen_any a c t hR ad c2 l ns ho hl w h hi)
  have HO := Lib.hid ho
  have HA := Lib.hid hats
  clear hR ho h hi hats
  go_enter Try.func43, Try.ntmps43
  go_wp2_with fail
  refine HC.out.mono ?_
  rintro e w1 ⟨L, bl, st, g, doc, rfl, hL, hT, hs, hb1⟩
  have HP := Lib.hid (attrOr_any t _ _ L bl st ns HO.out.lt g doc k d w1 hs hT HA.out)
  have HB1 := Lib.hid hb1
  clear hs hb1 hT
  go_wp2_with fail
  refine HP.out.mono ?_
  rintro e w2 ⟨rfl, hb2⟩
  have HB2 := Lib.hid (bnext HB1.out hb2)
  clear hb2
  go_wp2_with fail
  go_ret2
  exact ⟨rfl, HB2.out⟩
end Go.Proofs.Ytfebdbfkpmjpeaa
