/- FnParentsOf, FnPrevOf: the walks. (Turned by gen120.py out of T53.) -/
import Derived.Test.YtgilbckfkngaiaaT53
import Derived.Test.YtgilbckfkngaiaaT116
import Derived.Test.YtgilbckfkngaiaaT119
namespace Go.Proofs.Ytgilbckfkngaiaa
open Go.RowKit
set_option linter.unusedVariables false

set_option maxRecDepth 100000 in
set_option maxHeartbeats 2000000 in
theorem FnParentsOf_walk (ad : Option Addr) (len c : Nat) (t : List Nd) (a2 : Option Addr) (len2 c2 : Nat) (l : List Int) (w : World) (h : NSl w w.heap.size ad t ∧ len = t.length) (hi : ISl w w.heap.size a2 l ∧ len2 = l.length ∧ len2 ≤ c2) :
    Calls Try.prog 8 #[.slice ad len c, .slice a2 len2 c2] w fun e w' => e = .returned (.bool true) ∧ Below w.heap.size w w' := by
  obtain ⟨h, rfl⟩ := h
  obtain ⟨hi, rfl, hc2⟩ := hi
  have HH := Lib.hid h
  have hll := hi.len
  have HI := Lib.hid hi
  unfold maxLen at hll
  clear h hi
  go_enter Try.func8, Try.ntmps8
  go_wp2_with fail
  refine (zzFits1_any _ _ t _ HH.out).mono ?_
  rintro e w1 ⟨rfl, hb1⟩
  have HB1 := Lib.hid hb1
  clear hb1
  cases hf : fits1 t
  · go_wp2_with fail
    go_ret
    exact ⟨rfl, HB1.out⟩
  · by_cases k1 : 2147483647 < l.length
    · go_wp2_with fail
      go_ret
      exact ⟨rfl, HB1.out⟩
    go_wp2_with fail
    refine (rising_any _ _ t hf _ _ l (by omega) hc2 _ (HH.out.up HB1.out) (HI.out.up HB1.out)).mono ?_
    rintro e w2 ⟨b, rfl, hS, hb2⟩
    have HB2 := Lib.hid (bnext HB1.out hb2)
    have HS0 := Lib.hid hS
    clear hb2 hS
    cases b
    · go_wp2_with fail
      go_ret
      exact ⟨rfl, HB2.out⟩
    obtain ⟨ns, hS1⟩ := HS0.out (by trivial)
    have HS1 := Lib.hid hS1
    have hle := hS1.right.le
    have hln := hS1.ord.length
    have hln2 := hS1.ord.len
    have hn200 : ns.length ≤ 200 := by omega
    have HLN := Lib.hid hln
    have HFacts := Lib.hid (mapN_toI ns (fun i => elsOf t (anc t i)) (fun i hi => (par_facts HS1.out.right i (HS1.out.ord.lt i hi)).2.1))
    have HMl := Lib.hid (par_all HS1.out.right HS1.out.ord.lt).1
    have HCh : Hid (∀ W, Below w.heap.size w W → Calls Try.prog 49 #[.slice ad t.length c, .slice a2 l.length c2] W (ListPost (toI (mapN ns fun i => elsOf t (anc t i))) W)) :=
      fun W hW => door_par ad c t HS1.out.right a2 c2 l ns HS1.out.ord (by omega) W (HH.out.up hW) (HI.out.up hW)
    have HRel : Hid (∀ W0, Below w.heap.size w W0 → Calls Try.prog 47 #[.slice ad t.length c, .slice a2 l.length c2, .agg #[.int .i64 23, .string ⟨#[]⟩, .slice none 0 0, .int .i64 0, .int .i64 0]] W0 (ListPost (onceL (flatI (fun i => elsOf t (anc t i)) ns)) W0)) := by
      intro W0 hW0
      have hrel := related_any 23 ⟨rfl, rfl, rfl, rfl, rfl, rfl, rfl, rfl⟩ (fun i => elsOf t (anc t i)) ad t.length c HS1.out.right.pos a2 c2 ns HS1.out.ord.lt (by omega) (fun i hi => (par_facts HS1.out.right i (HS1.out.ord.lt i hi)).2.2) none 0 0 W0 ((HI.out.up hW0).rowI HS1.out.ord)
        (fun W i hW hi => relOf23 ad c t HS1.out.right i W (HH.out.up (bnext hW0 hW)) hi none 0 0)
      rw [← HLN.out] at hrel
      exact hrel
    obtain ⟨M, hM⟩ : ∃ M, M = mapN ns fun i => elsOf t (anc t i) := ⟨_, rfl⟩
    obtain ⟨R, hR⟩ : ∃ R, R = onceL (flatI (fun i => elsOf t (anc t i)) ns) := ⟨_, rfl⟩
    rw [← hM] at HFacts HCh HMl
    rw [← hR] at HFacts HRel
    have hMl : M.length ≤ 200 := by have := HMl.out; omega
    have hRl : R.length ≤ 200 := by have := HFacts.out.2.1; rw [toI_length] at this; omega
    clear hS1 hle hln hln2 HS0 hM hR HMl
    go_wp2_with fail
    refine (by7_any 23 _).mono ?_
    rintro e w3 ⟨rfl, hb3⟩
    have HB3 := Lib.hid (bnext HB2.out hb3)
    have HRl := Lib.hid (HRel.out w3 HB3.out)
    clear hb3
    go_wp2_with fail
    refine HRl.out.mono ?_
    rintro e w4 ⟨v, rfl, hown, hb4⟩
    obtain ⟨av, cv, rfl, hrow⟩ := hown.row
    have HRow := Lib.hid hrow
    have HB4 := Lib.hid (bnext HB3.out hb4)
    have HC := Lib.hid (HCh.out w4 HB4.out)
    clear hown hrow hb4
    go_wp2_with fail
    refine HC.out.mono ?_
    rintro e w5 ⟨v2, rfl, hown, hb5⟩
    obtain ⟨av2, cv2, rfl, hrow2⟩ := hown.row
    have HRow2 := Lib.hid hrow2
    have HRow1 := Lib.hid (HRow.out.up hb5)
    have HB5 := Lib.hid (bnext HB4.out hb5)
    obtain ⟨f1, f2, f3⟩ := HFacts.out
    have HSame := Lib.hid (sameOnce_any av2 cv2 (toI M) av cv R (by rw [toI_length]; omega) (by omega) f1 f2 f3 w5 HRow2.out HRow1.out)
    clear hown hrow2 hb5 f1 f2 f3
    go_wp2_with fail
    refine HSame.out.mono ?_
    rintro e w6 ⟨rfl, hb6⟩
    have HB6 := Lib.hid (bnext HB5.out hb6)
    clear hb6
    go_wp2_with fail
    go_ret
    exact ⟨rfl, HB6.out⟩

set_option maxRecDepth 100000 in
set_option maxHeartbeats 2000000 in
theorem FnPrevOf_walk (ad : Option Addr) (len c : Nat) (t : List Nd) (a2 : Option Addr) (len2 c2 : Nat) (l : List Int) (w : World) (h : NSl w w.heap.size ad t ∧ len = t.length) (hi : ISl w w.heap.size a2 l ∧ len2 = l.length ∧ len2 ≤ c2) :
    Calls Try.prog 11 #[.slice ad len c, .slice a2 len2 c2] w fun e w' => e = .returned (.bool true) ∧ Below w.heap.size w w' := by
  obtain ⟨h, rfl⟩ := h
  obtain ⟨hi, rfl, hc2⟩ := hi
  have HH := Lib.hid h
  have hll := hi.len
  have HI := Lib.hid hi
  unfold maxLen at hll
  clear h hi
  go_enter Try.func11, Try.ntmps11
  go_wp2_with fail
  refine (zzFits1_any _ _ t _ HH.out).mono ?_
  rintro e w1 ⟨rfl, hb1⟩
  have HB1 := Lib.hid hb1
  clear hb1
  cases hf : fits1 t
  · go_wp2_with fail
    go_ret
    exact ⟨rfl, HB1.out⟩
  · by_cases k1 : 2147483647 < l.length
    · go_wp2_with fail
      go_ret
      exact ⟨rfl, HB1.out⟩
    go_wp2_with fail
    refine (rising_any _ _ t hf _ _ l (by omega) hc2 _ (HH.out.up HB1.out) (HI.out.up HB1.out)).mono ?_
    rintro e w2 ⟨b, rfl, hS, hb2⟩
    have HB2 := Lib.hid (bnext HB1.out hb2)
    have HS0 := Lib.hid hS
    clear hb2 hS
    cases b
    · go_wp2_with fail
      go_ret
      exact ⟨rfl, HB2.out⟩
    obtain ⟨ns, hS1⟩ := HS0.out (by trivial)
    have HS1 := Lib.hid hS1
    have hle := hS1.right.le
    have hln := hS1.ord.length
    have hln2 := hS1.ord.len
    have hn200 : ns.length ≤ 200 := by omega
    have HLN := Lib.hid hln
    have HFacts := Lib.hid (mapN_toI ns (fun i => (elsOf t (aheadL t i)).take 1) (fun i hi => (prev1_facts HS1.out.right i (HS1.out.ord.lt i hi)).2.1))
    have HMl := Lib.hid (prev1_all HS1.out.right HS1.out.ord.lt).1
    have HCh : Hid (∀ W, Below w.heap.size w W → Calls Try.prog 52 #[.slice ad t.length c, .slice a2 l.length c2] W (ListPost (toI (mapN ns fun i => (elsOf t (aheadL t i)).take 1)) W)) :=
      fun W hW => door_p1 ad c t HS1.out.right a2 c2 l ns HS1.out.ord (by omega) W (HH.out.up hW) (HI.out.up hW)
    have HRel : Hid (∀ W0, Below w.heap.size w W0 → Calls Try.prog 47 #[.slice ad t.length c, .slice a2 l.length c2, .agg #[.int .i64 28, .string ⟨#[]⟩, .slice none 0 0, .int .i64 0, .int .i64 0]] W0 (ListPost (onceL (flatI (fun i => (elsOf t (aheadL t i)).take 1) ns)) W0)) := by
      intro W0 hW0
      have hrel := related_any 28 ⟨rfl, rfl, rfl, rfl, rfl, rfl, rfl, rfl⟩ (fun i => (elsOf t (aheadL t i)).take 1) ad t.length c HS1.out.right.pos a2 c2 ns HS1.out.ord.lt (by omega) (fun i hi => (prev1_facts HS1.out.right i (HS1.out.ord.lt i hi)).2.2) none 0 0 W0 ((HI.out.up hW0).rowI HS1.out.ord)
        (fun W i hW hi => relOf28 ad c t HS1.out.right i W (HH.out.up (bnext hW0 hW)) hi none 0 0)
      rw [← HLN.out] at hrel
      exact hrel
    obtain ⟨M, hM⟩ : ∃ M, M = mapN ns fun i => (elsOf t (aheadL t i)).take 1 := ⟨_, rfl⟩
    obtain ⟨R, hR⟩ : ∃ R, R = onceL (flatI (fun i => (elsOf t (aheadL t i)).take 1) ns) := ⟨_, rfl⟩
    rw [← hM] at HFacts HCh HMl
    rw [← hR] at HFacts HRel
    have hMl : M.length ≤ 200 := by have := HMl.out; omega
    have hRl : R.length ≤ 200 := by have := HFacts.out.2.1; rw [toI_length] at this; omega
    clear hS1 hle hln hln2 HS0 hM hR HMl
    go_wp2_with fail
    refine (by7_any 28 _).mono ?_
    rintro e w3 ⟨rfl, hb3⟩
    have HB3 := Lib.hid (bnext HB2.out hb3)
    have HRl := Lib.hid (HRel.out w3 HB3.out)
    clear hb3
    go_wp2_with fail
    refine HRl.out.mono ?_
    rintro e w4 ⟨v, rfl, hown, hb4⟩
    obtain ⟨av, cv, rfl, hrow⟩ := hown.row
    have HRow := Lib.hid hrow
    have HB4 := Lib.hid (bnext HB3.out hb4)
    have HC := Lib.hid (HCh.out w4 HB4.out)
    clear hown hrow hb4
    go_wp2_with fail
    refine HC.out.mono ?_
    rintro e w5 ⟨v2, rfl, hown, hb5⟩
    obtain ⟨av2, cv2, rfl, hrow2⟩ := hown.row
    have HRow2 := Lib.hid hrow2
    have HRow1 := Lib.hid (HRow.out.up hb5)
    have HB5 := Lib.hid (bnext HB4.out hb5)
    obtain ⟨f1, f2, f3⟩ := HFacts.out
    have HSame := Lib.hid (sameOnce_any av2 cv2 (toI M) av cv R (by rw [toI_length]; omega) (by omega) f1 f2 f3 w5 HRow2.out HRow1.out)
    clear hown hrow2 hb5 f1 f2 f3
    go_wp2_with fail
    refine HSame.out.mono ?_
    rintro e w6 ⟨rfl, hb6⟩
    have HB6 := Lib.hid (bnext HB5.out hb6)
    clear hb6
    go_wp2_with fail
    go_ret
    exact ⟨rfl, HB6.out⟩
end Go.Proofs.Ytgilbckfkngaiaa
