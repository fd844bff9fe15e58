/- FnNotOf: the walk. -/
import Derived.Test.YtfebdbfkpmjpeaaT34
import Derived.Test.YtfebdbfkpmjpeaaT25
namespace Go.Proofs.Ytfebdbfkpmjpeaa
open Go.RowKit
set_option linter.unusedVariables false

theorem ISl.rowI {w : World} {a : Option Addr} {l : List Int} {n : Nat} {ns : List Nat} (h : ISl w w.heap.size a l) (ho : OrdP n l ns) : RSl w w.heap.size a (ivs (toI ns)) := by
  rw [← ho.toI]; exact h.row

set_option maxRecDepth 100000 in
set_option maxHeartbeats 2000000 in
theorem FnNotOf_walk (ad : Option Addr) (len c : Nat) (t : List Nd) (a2 : Option Addr) (len2 c2 : Nat) (l : List Int) (a3 : Option Addr) (len3 c3 : Nat) (m : List Int) (w : World) (h : NSl w w.heap.size ad t ∧ len = t.length) (hi : ISl w w.heap.size a2 l ∧ len2 = l.length) (hj : ISl w w.heap.size a3 m ∧ len3 = m.length) :
    Calls Try.prog 12 #[.slice ad len c, .slice a2 len2 c2, .slice a3 len3 c3] w fun e w' => e = .returned (.bool true) ∧ Below w.heap.size w w' := by
  obtain ⟨h, rfl⟩ := h
  obtain ⟨hi, rfl⟩ := hi
  obtain ⟨hj, rfl⟩ := hj
  have HH := Lib.hid h
  have hll := hi.len
  have hml := hj.len
  have HI := Lib.hid hi
  have HJ := Lib.hid hj
  unfold maxLen at hll hml
  clear h hi hj
  go_enter Try.func12, Try.ntmps12
  go_wp2_with fail
  refine (zzFits1_any _ _ t _ HH.out).mono ?_
  rintro e w1 ⟨rfl, hb1⟩
  have HB1 := Lib.hid hb1
  clear hb1
  cases hf : fits1 t
  · go_wp2_with fail
    go_ret
    exact ⟨rfl, HB1.out⟩
  · by_cases k1 : 2147483647 < l.length
    · go_wp2_with fail
      go_ret
      exact ⟨rfl, HB1.out⟩
    by_cases k2 : 2147483647 < m.length
    · go_wp2_with fail
      go_ret
      exact ⟨rfl, HB1.out⟩
    go_wp2_with fail
    refine (some_any _ _ t hf _ _ l (by omega) _ _ m (by omega) _ (HH.out.up HB1.out) (HI.out.up HB1.out) (HJ.out.up HB1.out)).mono ?_
    rintro e w2 ⟨b, rfl, hS, hb2⟩
    have HB2 := Lib.hid (bnext HB1.out hb2)
    clear hb2
    cases b
    · clear hS
      go_wp2_with fail
      go_ret
      exact ⟨rfl, HB2.out⟩
    obtain ⟨⟨ns, hS1⟩, ms, hS2⟩ := hS rfl
    have HS1 := Lib.hid hS1
    have HS2 := Lib.hid hS2
    have hle := hS1.right.le
    have HNL := Lib.hid (show ns.length ≤ 200 by have := hS1.ord.len; omega)
    have HML := Lib.hid (show ms.length ≤ 200 by have := hS2.ord.len; omega)
    have HLN := Lib.hid hS1.ord.length
    have HLM := Lib.hid hS2.ord.length
    have HNot := Lib.hid (notOf_any ad c t hS1.right a2 c2 l ns hS1.ord (by omega) a3 c3 m ms hS2.ord (by omega) w2 (HH.out.up HB2.out) (HI.out.up HB2.out) (HJ.out.up HB2.out))
    clear hS hS1 hS2 hle
    go_wp2_with fail
    refine HNot.out.mono ?_
    rintro e w3 ⟨v, rfl, hown, hb3⟩
    obtain ⟨av, cv, rfl, hrow⟩ := hown.row
    have HRow := Lib.hid hrow
    have HB3 := Lib.hid (bnext HB2.out hb3)
    clear hown hrow hb3
    rw [toI_length]
    go_wp2_with fail
    rw [HLN.out, HLM.out]
    refine (those_any a2 c2 ns (by have := HNL.out; omega) a3 c3 ms (by have := HML.out; omega) true w3 ((HI.out.up HB3.out).rowI HS1.out.ord) ((HJ.out.up HB3.out).rowI HS2.out.ord)).mono ?_
    rintro e w4 ⟨v2, rfl, hown, hb4⟩
    obtain ⟨av2, cv2, rfl, hrow2⟩ := hown.row
    have HRow2 := Lib.hid hrow2
    have HRow1 := Lib.hid (HRow.out.up hb4)
    have HB4 := Lib.hid (bnext HB3.out hb4)
    have hlen : (thoseN ns ms true).length ≤ 200 := by have := thoseN_len ns ms true; have := HNL.out; omega
    clear hown hrow2 hb4
    rw [toI_length]
    go_wp2_with fail
    have HSame := sameList_any av cv (toI (thoseN ns ms true)) av2 cv2 (toI (thoseN ns ms true)) (by rw [toI_length]; omega) (by rw [toI_length]; omega) w4 HRow1.out HRow2.out
    rw [toI_length] at HSame
    refine HSame.mono ?_
    rintro e w5 ⟨q, rfl, rfl⟩
    clear HSame
    go_wp2_with fail
    go_ret
    exact ⟨ret_b (by simp), below_drewN HB4.out q⟩
end Go.Proofs.Ytfebdbfkpmjpeaa
