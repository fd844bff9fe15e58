/- FnParentsUntilOf: the step up to other nodes; the walk. (Turned by gen121.py out of T43, T44, T53.) -/
import Derived.Test.YtgilbckfkngaiaaT53
import Derived.Test.YtgilbckfkngaiaaT116
import Derived.Test.YtgilbckfkngaiaaT119
namespace Go.Proofs.Ytgilbckfkngaiaa
open Go.RowKit
set_option linter.unusedVariables false

set_option maxRecDepth 100000 in
set_option maxHeartbeats 2000000 in
theorem relOf24 (a : Option Addr) (c : Nat) (t : List Nd) (hR : RightP t) (i : Nat) (w : World) (h : NSl w w.heap.size a t) (hi : i < t.length) (a3 : Option Addr) (c3 : Nat) (m : List Int) (ms : List Nat) (hm : OrdP t.length m ms) (hml : m.length ≤ 2147483647) (hk : ∀ m ∈ ms, isEl t m = true) (h3 : RSl w w.heap.size a3 (ivs (toI ms))) :
    Calls Try.prog 90 #[.slice a t.length c, .int .i64 i, .agg #[.int .i64 24, .string ⟨#[]⟩, .slice a3 m.length c3, .int .i64 0, .int .i64 0]] w (ListPost (toI (elsOf t (till ms (anc t i)))) w) := by
  have hlen := hm.length
  have hln := hm.len
  have hle := hR.le
  rw [hlen, till_els hk]
  obtain ⟨W, hW⟩ : ∃ W, W = w.alloc (.cells #[.int .i64 24, .string ⟨#[]⟩, .slice a3 ms.length c3, .int .i64 0, .int .i64 0] 62) := ⟨_, rfl⟩
  have hb0 : Below w.heap.size w W := by rw [hW]; exact (Below.refl _ _).alloc (Nat.le_refl _) _
  have gb : W.cell? ⟨w.heap.size, 2, none⟩ = some (.slice a3 ms.length c3) := by rw [hW, World.cell?_alloc_mark]; rfl
  have gc : W.cell? ⟨w.heap.size, 0, none⟩ = some (.int .i64 24) := by rw [hW, World.cell?_alloc_mark]; rfl
  have hlt : w.heap.size < W.heap.size := by rw [hW]; simp
  have HW := Lib.hid hW
  have HB0 := Lib.hid hb0
  have hsz := hb0.size
  have HE := Lib.hid (aboveOf_any a c t hR i W.drew (h.up (hb0.drew)) hi)
  have HL := Lib.hid (anc_len hi hle)
  have HU : Hid (∀ (v : Value) (w' : World), Below W.heap.size W w' → OwnI W.heap.size (toI (elsOf t (anc t i))) v w' → Calls Try.prog 127 #[v, .slice a3 ms.length c3] w' (OwnedPost W.heap.size (toI (till ms (elsOf t (anc t i)))) w')) :=
    fun v w' hw' ho => upTo_any W.heap.size v _ (anc_len hi hle) a3 c3 ms (by omega) w' ho (h3.up (hb0.trans (hw'.mono hsz)))
  obtain ⟨F, hF⟩ : ∃ F, F = elsOf t (anc t i) := ⟨_, rfl⟩
  rw [← hF] at HE HL HU ⊢
  clear h h3 hR hW hb0 hm hk hF hlen hln
  go_enter Try.func90, Try.ntmps90
  go_wp2_with fail
  rw [← HW.out]
  go_region_law (first
    | (go_simp; go_at_call 126; refine HE.out.mono ?_
       rintro e w1 ⟨v, rfl, hown, hb1⟩
       have hb2 : Below W.heap.size W w1 := bnext ((Below.refl W.heap.size W).drew) hb1
       have gb1 := (hb2.cell (p := ⟨w.heap.size, 2, none⟩) hlt).trans gb
       have HC := Lib.hid (HU.out v w1 hb2 hown)
       have HB1 := Lib.hid hb2
       clear hown hb1 hb2)
    | (go_simp; go_at_call 127; refine HC.out.mono ?_
       rintro e w2 ⟨v2, rfl, hown2, rfl⟩
       have HO2 := Lib.hid (hown2.base hsz)
       clear hown2))
  all_goals
    go_wp2_with fail
    go_ret2
    exact ⟨v2, rfl, HO2.out, HB0.out.trans (HB1.out.mono hsz)⟩

set_option maxRecDepth 100000 in
set_option maxHeartbeats 1000000 in
theorem sel_until {t : List Nd} (hR : RightP t) {w : World} {B0 B L : Nat} {bl : Nat → Nat} {st : Nat → Dn} (hT : Tree t w B0 L bl st) (ns : List Nat) (hns : ∀ k ∈ ns, k < t.length) (hlen : ns.length ≤ 400) (ms : List Nat) (hms : ∀ m ∈ ms, m < t.length) (hml : ms.length ≤ 200) (a2 : Option Addr) (c2 : Nat) (h2 : RSl w w.heap.size a2 (ptrs bl ms)) (g : Nat) (doc : Option Addr) (hs : SelOf bl ns B g doc w) :
    Calls Try.prog 93 #[.pointer (some ⟨g, 0, none⟩), .slice a2 ms.length c2] w (AddPost bl (mapN ns (fun i => elsOf t (till ms (anc t i)))) doc w) := by
  obtain ⟨a, c, prev, hs1, _, hown, _⟩ := hs
  have hrs : RSl w w.heap.size a (ptrs bl ns) := by
    obtain ⟨a1, c1, hv, _, hrs⟩ := RSl.own hown
    cases hv
    exact hrs
  obtain ⟨c0, _, _⟩ := hs1.cells
  have HK := Lib.hid (getPar_any hR hT ns hns hlen a c hrs ms hms hml a2 c2 h2)
  have HS := Lib.hid hs1
  obtain ⟨M, hM⟩ : ∃ M, M = mapN ns (fun i => elsOf t (till ms (anc t i))) := ⟨_, rfl⟩
  rw [← hM] at HK ⊢
  clear hs1 hown hrs hT hns hM hR h2 hms
  go_enter Try.func93, Try.ntmps93
  go_wp2_with fail
  refine HK.out.mono ?_
  rintro e w1 ⟨v, rfl, ⟨a1, c1, rfl, hown⟩, hb⟩
  have HO := Lib.hid hown
  have HB := Lib.hid hb
  clear hown hb
  go_wp2_with fail
  refine (push_any g a ns.length c doc prev a1 _ c1 w1 (HS.out.below HB.out HS.out.lt)).mono ?_
  rintro e w2 ⟨rfl, hs2, hb2⟩
  have HS2 := Lib.hid hs2
  have HB2 := Lib.hid hb2
  clear hs2 hb2
  go_wp2_with fail
  go_ret
  exact ⟨_, rfl, ⟨a1, c1, _, HS2.out, HB.out.size, own_kept HO.out (fun b _ hb => HB2.out.block b hb), _, rfl⟩, bnext HB.out HB2.out⟩

set_option maxRecDepth 100000 in
set_option maxHeartbeats 2000000 in
theorem parUntilOf_any (a : Option Addr) (c : Nat) (t : List Nd) (hR : RightP t) (ad : Option Addr) (c2 : Nat) (l : List Int) (ns : List Nat) (ho : OrdP t.length l ns) (hl : l.length ≤ 2147483647) (ad3 : Option Addr) (c3 : Nat) (m : List Int) (ms : List Nat) (hom : OrdP t.length m ms) (hm : m.length ≤ 2147483647) (w : World) (h : NSl w w.heap.size a t) (hi : ISl w w.heap.size ad l) (hj : ISl w w.heap.size ad3 m) :
    Calls Try.prog 51 #[.slice a t.length c, .slice ad l.length c2, .slice ad3 m.length c3] w (ListPost (toI (mapN ns (fun i => elsOf t (till ms (anc t i))))) w) := by
  have HC := Lib.hid (chosen_any a c t hR ad c2 l ns ho hl w h hi)
  have HR := Lib.hid hR
  have HO := Lib.hid ho
  have HM := Lib.hid hom
  have HJ := Lib.hid hj
  have hnl := ho.len
  have hml := hom.len
  have hle := hR.le
  have HMf := Lib.hid (mapN_facts hR.le (fun i hi => pars_facts hR ms i hi) ns ho.lt)
  have HNL := Lib.hid (show ns.length ≤ 400 by omega)
  have HML := Lib.hid (show ms.length ≤ 200 by omega)
  obtain ⟨M, hMM⟩ : ∃ M, M = mapN ns (fun i => elsOf t (till ms (anc t i))) := ⟨_, rfl⟩
  have HMM := Lib.hid hMM
  rw [← hMM] at HMf ⊢
  clear hR ho hom h hi hj hnl hml hl hMM
  go_enter Try.func51, Try.ntmps51
  go_wp2_with fail
  refine HC.out.mono ?_
  rintro e w1 ⟨L, bl, st, g, doc, rfl, hL, hT, hsel, hb1⟩
  have HT := Lib.hid hT
  have HSel := Lib.hid hsel
  have HB1 := Lib.hid hb1
  clear hT hsel hb1
  go_wp2_with fail
  refine (these_any t hle _ L bl st ad3 c3 m ms HM.out hm w1 hL HT.out (HJ.out.up HB1.out)).mono ?_
  rintro e w2 ⟨a2, c4, rfl, hown, hb2⟩
  have HB2 := Lib.hid (bnext HB1.out hb2)
  have HT2 := Lib.hid (HT.out.kept hb2)
  have HRs : Hid (RSl w2 w2.heap.size a2 (ptrs bl ms)) := by
    obtain ⟨a1, c1, hv, _, hrs⟩ := RSl.own hown
    cases hv
    exact hrs
  have HCh := Lib.hid (sel_until HR.out HT2.out ns HO.out.lt HNL.out ms HM.out.lt HML.out a2 c4 HRs.out g doc (HSel.out.kept hb2))
  rw [← HMM.out] at HCh
  have hL2 := Nat.lt_of_lt_of_le hL hb2.size
  clear hown hb2
  go_wp2_with fail
  refine HCh.out.mono ?_
  rintro e w3 ⟨g2, rfl, hsel3, hb3⟩
  obtain ⟨a6, c6, g0, hrs⟩ := hsel3.places
  have HRs3 := Lib.hid hrs
  have HB3 := Lib.hid (bnext HB2.out hb3)
  have HT3 := Lib.hid (HT2.out.kept hb3)
  have hL3 := Nat.lt_of_lt_of_le hL2 hb3.size
  clear hsel3 hrs hb3
  go_wp2_with fail
  refine (placesOf_any bl t.length L hle M HMf.out.2 (by have := HMf.out.1; omega) a6 c6 w3 hL3 HT3.out.nodes (fun j hj => HT3.out.cell j hj) HRs3.out).mono ?_
  rintro e w4 ⟨v, rfl, hown4, hb4⟩
  have HO4 := Lib.hid (hown4.base HB3.out.size)
  have HB4 := Lib.hid (bnext HB3.out hb4)
  clear hown4 hb4
  go_wp2_with fail
  go_ret2
  exact ⟨v, rfl, HO4.out, HB4.out⟩

set_option maxRecDepth 100000 in
set_option maxHeartbeats 2000000 in
theorem FnParentsUntilOf_walk (ad : Option Addr) (len c : Nat) (t : List Nd) (a2 : Option Addr) (len2 c2 : Nat) (l : List Int) (a3 : Option Addr) (len3 c3 : Nat) (m : List Int) (w : World) (h : NSl w w.heap.size ad t ∧ len = t.length) (hi : ISl w w.heap.size a2 l ∧ len2 = l.length ∧ len2 ≤ c2) (hj : ISl w w.heap.size a3 m ∧ len3 = m.length ∧ len3 ≤ c3) :
    Calls Try.prog 9 #[.slice ad len c, .slice a2 len2 c2, .slice a3 len3 c3] w fun e w' => e = .returned (.bool true) ∧ Below w.heap.size w w' := by
  obtain ⟨h, rfl⟩ := h
  obtain ⟨hi, rfl, hc2⟩ := hi
  obtain ⟨hj, rfl, hc3⟩ := hj
  have HH := Lib.hid h
  have hll := hi.len
  have hml := hj.len
  have HI := Lib.hid hi
  have HJ := Lib.hid hj
  unfold maxLen at hll hml
  clear h hi hj
  go_enter Try.func9, Try.ntmps9
  go_wp2_with fail
  refine (zzFits1_any _ _ t _ HH.out).mono ?_
  rintro e w1 ⟨rfl, hb1⟩
  have HB1 := Lib.hid hb1
  clear hb1
  cases hf : fits1 t
  · go_wp2_with fail
    go_ret
    exact ⟨rfl, HB1.out⟩
  · by_cases k1 : 2147483647 < l.length
    · go_wp2_with fail
      go_ret
      exact ⟨rfl, HB1.out⟩
    by_cases k2 : 2147483647 < m.length
    · go_wp2_with fail
      go_ret
      exact ⟨rfl, HB1.out⟩
    go_wp2_with fail
    refine (rising_any _ _ t hf _ _ l (by omega) hc2 _ (HH.out.up HB1.out) (HI.out.up HB1.out)).mono ?_
    rintro e w2 ⟨b, rfl, hS, hb2⟩
    have HB2 := Lib.hid (bnext HB1.out hb2)
    have HS0 := Lib.hid hS
    clear hb2 hS
    cases b
    · go_wp2_with fail
      go_ret
      exact ⟨rfl, HB2.out⟩
    go_wp2_with fail
    refine (rising_any _ _ t hf _ _ m (by omega) hc3 _ (HH.out.up HB2.out) (HJ.out.up HB2.out)).mono ?_
    rintro e w3 ⟨b, rfl, hS, hb3⟩
    have HB3 := Lib.hid (bnext HB2.out hb3)
    have HS00 := Lib.hid hS
    clear hb3 hS
    cases b
    · go_wp2_with fail
      go_ret
      exact ⟨rfl, HB3.out⟩
    obtain ⟨ns, hS1⟩ := HS0.out (by trivial)
    obtain ⟨ms, hS2⟩ := HS00.out (by trivial)
    have HS1 := Lib.hid hS1
    have HS2 := Lib.hid hS2
    have hle := hS1.right.le
    have hln := hS1.ord.length
    have hlm := hS2.ord.length
    have hln2 := hS1.ord.len
    have hlm2 := hS2.ord.len
    have hl200 : l.length ≤ 200 := by omega
    have hm200 : m.length ≤ 200 := by omega
    have HLN := Lib.hid hln
    have HLM := Lib.hid hlm
    have HKind : Hid (∀ m ∈ ms, isEl t m = true) := fun m hm => by unfold isEl; rw [decide_eq_true_eq]; exact hS2.kind m hm
    have hn200 : ns.length ≤ 200 := by omega
    have HFacts := Lib.hid (mapN_toI ns (fun i => elsOf t (till ms (anc t i))) (fun i hi => (pars_facts HS1.out.right ms i (HS1.out.ord.lt i hi)).2.1))
    have HMl := Lib.hid (mapN_facts HS1.out.right.le (fun i hi => pars_facts HS1.out.right ms i hi) ns HS1.out.ord.lt).1
    have HCh : Hid (∀ W, Below w.heap.size w W → Calls Try.prog 51 #[.slice ad t.length c, .slice a2 l.length c2, .slice a3 m.length c3] W (ListPost (toI (mapN ns fun i => elsOf t (till ms (anc t i)))) W)) :=
      fun W hW => parUntilOf_any ad c t HS1.out.right a2 c2 l ns HS1.out.ord (by omega) a3 c3 m ms HS2.out.ord (by omega) W (HH.out.up hW) (HI.out.up hW) (HJ.out.up hW)
    have HRel : Hid (∀ W0, Below w.heap.size w W0 → Calls Try.prog 47 #[.slice ad t.length c, .slice a2 l.length c2, .agg #[.int .i64 24, .string ⟨#[]⟩, .slice a3 m.length c3, .int .i64 0, .int .i64 0]] W0 (ListPost (onceL (flatI (fun i => elsOf t (till ms (anc t i))) ns)) W0)) := by
      intro W0 hW0
      have hrel := related_any 24 ⟨rfl, rfl, rfl, rfl, rfl, rfl, rfl, rfl⟩ (fun i => elsOf t (till ms (anc t i))) ad t.length c HS1.out.right.pos a2 c2 ns HS1.out.ord.lt (by omega) (fun i hi => (pars_facts HS1.out.right ms i (HS1.out.ord.lt i hi)).2.2) a3 m.length c3 W0 ((HI.out.up hW0).rowI HS1.out.ord)
        (fun W i hW hi => relOf24 ad c t HS1.out.right i W (HH.out.up (bnext hW0 hW)) hi a3 c3 m ms HS2.out.ord (by omega) HKind.out ((HJ.out.up (bnext hW0 hW)).rowI HS2.out.ord))
      rw [← HLN.out] at hrel
      exact hrel
    obtain ⟨M, hM⟩ : ∃ M, M = mapN ns fun i => elsOf t (till ms (anc t i)) := ⟨_, rfl⟩
    obtain ⟨R, hR⟩ : ∃ R, R = onceL (flatI (fun i => elsOf t (till ms (anc t i))) ns) := ⟨_, rfl⟩
    rw [← hM] at HFacts HCh HMl
    rw [← hR] at HFacts HRel
    have hMl : M.length ≤ 200 := by have := HMl.out; omega
    have hRl : R.length ≤ 200 := by have := HFacts.out.2.1; rw [toI_length] at this; omega
    clear hS1 hS2 hle hln hlm hln2 hlm2 HS0 HS00 hM hR HMl
    have HRl := Lib.hid (HRel.out w3 HB3.out)
    go_wp2_with fail
    refine HRl.out.mono ?_
    rintro e w4 ⟨v, rfl, hown, hb4⟩
    obtain ⟨av, cv, rfl, hrow⟩ := hown.row
    have HRow := Lib.hid hrow
    have HB4 := Lib.hid (bnext HB3.out hb4)
    have HC := Lib.hid (HCh.out w4 HB4.out)
    clear hown hrow hb4
    go_wp2_with fail
    refine HC.out.mono ?_
    rintro e w5 ⟨v2, rfl, hown, hb5⟩
    obtain ⟨av2, cv2, rfl, hrow2⟩ := hown.row
    have HRow2 := Lib.hid hrow2
    have HRow1 := Lib.hid (HRow.out.up hb5)
    have HB5 := Lib.hid (bnext HB4.out hb5)
    obtain ⟨f1, f2, f3⟩ := HFacts.out
    have HSame := Lib.hid (sameOnce_any av2 cv2 (toI M) av cv R (by rw [toI_length]; omega) (by omega) f1 f2 f3 w5 HRow2.out HRow1.out)
    clear hown hrow2 hb5 f1 f2 f3
    go_wp2_with fail
    refine HSame.out.mono ?_
    rintro e w6 ⟨rfl, hb6⟩
    have HB6 := Lib.hid (bnext HB5.out hb6)
    clear hb6
    go_wp2_with fail
    go_ret
    exact ⟨rfl, HB6.out⟩
end Go.Proofs.Ytgilbckfkngaiaa
