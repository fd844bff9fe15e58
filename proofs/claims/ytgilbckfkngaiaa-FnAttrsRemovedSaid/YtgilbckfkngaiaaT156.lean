/- The attributes behind RemoveAttr and SetAttr, and the law. -/
import Derived.Test.YtgilbckfkngaiaaT150
import Derived.Test.YtgilbckfkngaiaaT153
import Derived.Test.YtgilbckfkngaiaaT155
namespace Go.Proofs.Ytgilbckfkngaiaa
open Go.RowKit
set_option linter.unusedVariables false

set_option maxRecDepth 100000 in
set_option maxHeartbeats 1000000 in
theorem attrsRemoved_any (a : Option Addr) (c : Nat) (l : List At2) (hl : l.length ≤ 1000) (k : ByteArray) (w : World) (hx : ASl w w.heap.size a l) :
    Calls Try.prog 17 #[.slice a l.length c, .string k] w (AtsPost (rmA l k) w) := by
  have HX := Lib.hid hx
  have hle : (rmA l k).length ≤ 1000 := Nat.le_trans rmA_le hl
  clear hx
  go_enter Try.func17, Try.ntmps17
  go_wp2_with fail
  refine (element_any a c l w HX.out hl).mono ?_
  rintro e w1 ⟨g, gs, rfl, hg, hE, hS, hb1⟩
  have HR := Lib.hid (remAttr_any l hl k g gs w1 hE hS)
  have HB1 := Lib.hid hb1
  clear hE hS hb1
  go_wp2_with fail
  refine HR.out.mono ?_
  rintro e w2 ⟨rfl, hE2, hb2⟩
  have HA := Lib.hid (attrs_any (rmA l k) hle g w2 hE2)
  have HB2 := Lib.hid (HB1.out.trans (hb2.mono hg))
  clear hE2 hb2
  go_wp2_with fail
  refine HA.out.mono ?_
  rintro e w3 ⟨a3, c3, rfl, hown, hb3⟩
  have HO := Lib.hid hown
  have HB3 := Lib.hid (bnext HB2.out hb3)
  clear hown hb3
  go_wp2_with fail
  go_ret
  exact ⟨a3, c3, rfl, own_base HO.out HB2.out.size, HB3.out⟩

set_option maxRecDepth 100000 in
set_option maxHeartbeats 1000000 in
theorem attrsSet_any (a : Option Addr) (c : Nat) (l : List At2) (hl : l.length ≤ 900) (k v : ByteArray) (w : World) (hx : ASl w w.heap.size a l) :
    Calls Try.prog 19 #[.slice a l.length c, .string k, .string v] w (AtsPost (setA l k v) w) := by
  have HX := Lib.hid hx
  have hle : (setA l k v).length ≤ 1000 := Nat.le_trans setA_le (by omega)
  clear hx
  go_enter Try.func19, Try.ntmps19
  go_wp2_with fail
  refine (element_any a c l w HX.out (by omega)).mono ?_
  rintro e w1 ⟨g, gs, rfl, hg, hE, hS, hb1⟩
  have HR := Lib.hid (setAttr_any l hl k v g gs w1 hE hS)
  have HB1 := Lib.hid hb1
  clear hE hS hb1
  go_wp2_with fail
  refine HR.out.mono ?_
  rintro e w2 ⟨rfl, hE2, hb2⟩
  have HA := Lib.hid (attrs_any (setA l k v) hle g w2 hE2)
  have HB2 := Lib.hid (HB1.out.trans (hb2.mono hg))
  clear hE2 hb2
  go_wp2_with fail
  refine HA.out.mono ?_
  rintro e w3 ⟨a3, c3, rfl, hown, hb3⟩
  have HO := Lib.hid hown
  have HB3 := Lib.hid (bnext HB2.out hb3)
  clear hown hb3
  go_wp2_with fail
  go_ret
  exact ⟨a3, c3, rfl, own_base HO.out HB2.out.size, HB3.out⟩
end Go.Proofs.Ytgilbckfkngaiaa
