/- FnParentChild: siblings, parent, ancestors of one node; the walk (several texts in one). -/
import Derived.Test.YtgilbckfkngaiaaT53
import Derived.Test.YtgilbckfkngaiaaT116
import Derived.Test.YtgilbckfkngaiaaT119
import Derived.Test.YtgilbckfkngaiaaT18
namespace Go.Proofs.Ytgilbckfkngaiaa
open Go.RowKit
set_option linter.unusedVariables false

set_option maxRecDepth 100000 in
set_option maxHeartbeats 2000000 in
theorem relOf24 (a : Option Addr) (c : Nat) (t : List Nd) (hR : RightP t) (i : Nat) (w : World) (h : NSl w w.heap.size a t) (hi : i < t.length) (a3 : Option Addr) (c3 : Nat) (m : List Int) (ms : List Nat) (hm : OrdP t.length m ms) (hml : m.length ≤ 2147483647) (hk : ∀ m ∈ ms, isEl t m = true) (h3 : RSl w w.heap.size a3 (ivs (toI ms))) :
    Calls Try.prog 90 #[.slice a t.length c, .int .i64 i, .agg #[.int .i64 24, .string ⟨#[]⟩, .slice a3 m.length c3, .int .i64 0, .int .i64 0]] w (ListPost (toI (elsOf t (till ms (anc t i)))) w) := by
  have hlen := hm.length
  have hln := hm.len
  have hle := hR.le
  rw [hlen, till_els hk]
  obtain ⟨W, hW⟩ : ∃ W, W = w.alloc (.cells #[.int .i64 24, .string ⟨#[]⟩, .slice a3 ms.length c3, .int .i64 0, .int .i64 0] 62) := ⟨_, rfl⟩
  have hb0 : Below w.heap.size w W := by rw [hW]; exact (Below.refl _ _).alloc (Nat.le_refl _) _
  have gb : W.cell? ⟨w.heap.size, 2, none⟩ = some (.slice a3 ms.length c3) := by rw [hW, World.cell?_alloc_mark]; rfl
  have gc : W.cell? ⟨w.heap.size, 0, none⟩ = some (.int .i64 24) := by rw [hW, World.cell?_alloc_mark]; rfl
  have hlt : w.heap.size < W.heap.size := by rw [hW]; simp
  have HW := Lib.hid hW
  have HB0 := Lib.hid hb0
  have hsz := hb0.size
  have HE := Lib.hid (aboveOf_any a c t hR i W.drew (h.up (hb0.drew)) hi)
  have HL := Lib.hid (anc_len hi hle)
  have HU : Hid (∀ (v : Value) (w' : World), Below W.heap.size W w' → OwnI W.heap.size (toI (elsOf t (anc t i))) v w' → Calls Try.prog 127 #[v, .slice a3 ms.length c3] w' (OwnedPost W.heap.size (toI (till ms (elsOf t (anc t i)))) w')) :=
    fun v w' hw' ho => upTo_any W.heap.size v _ (anc_len hi hle) a3 c3 ms (by omega) w' ho (h3.up (hb0.trans (hw'.mono hsz)))
  obtain ⟨F, hF⟩ : ∃ F, F = elsOf t (anc t i) := ⟨_, rfl⟩
  rw [← hF] at HE HL HU ⊢
  clear h h3 hR hW hb0 hm hk hF hlen hln
  go_enter Try.func90, Try.ntmps90
  go_wp2_with fail
  rw [← HW.out]
  go_region_law (first
    | (go_simp; go_at_call 126; refine HE.out.mono ?_
       rintro e w1 ⟨v, rfl, hown, hb1⟩
       have hb2 : Below W.heap.size W w1 := bnext ((Below.refl W.heap.size W).drew) hb1
       have gb1 := (hb2.cell (p := ⟨w.heap.size, 2, none⟩) hlt).trans gb
       have HC := Lib.hid (HU.out v w1 hb2 hown)
       have HB1 := Lib.hid hb2
       clear hown hb1 hb2)
    | (go_simp; go_at_call 127; refine HC.out.mono ?_
       rintro e w2 ⟨v2, rfl, hown2, rfl⟩
       have HO2 := Lib.hid (hown2.base hsz)
       clear hown2))
  all_goals
    go_wp2_with fail
    go_ret2
    exact ⟨v2, rfl, HO2.out, HB0.out.trans (HB1.out.mono hsz)⟩

set_option maxRecDepth 100000 in
set_option maxHeartbeats 1000000 in
theorem sel_until {t : List Nd} (hR : RightP t) {w : World} {B0 B L : Nat} {bl : Nat → Nat} {st : Nat → Dn} (hT : Tree t w B0 L bl st) (ns : List Nat) (hns : ∀ k ∈ ns, k < t.length) (hlen : ns.length ≤ 400) (ms : List Nat) (hms : ∀ m ∈ ms, m < t.length) (hml : ms.length ≤ 200) (a2 : Option Addr) (c2 : Nat) (h2 : RSl w w.heap.size a2 (ptrs bl ms)) (g : Nat) (doc : Option Addr) (hs : SelOf bl ns B g doc w) :
    Calls Try.prog 93 #[.pointer (some ⟨g, 0, none⟩), .slice a2 ms.length c2] w (AddPost bl (mapN ns (fun i => elsOf t (till ms (anc t i)))) doc w) := by
  obtain ⟨a, c, prev, hs1, _, hown, _⟩ := hs
  have hrs : RSl w w.heap.size a (ptrs bl ns) := by
    obtain ⟨a1, c1, hv, _, hrs⟩ := RSl.own hown
    cases hv
    exact hrs
  obtain ⟨c0, _, _⟩ := hs1.cells
  have HK := Lib.hid (getPar_any hR hT ns hns hlen a c hrs ms hms hml a2 c2 h2)
  have HS := Lib.hid hs1
  obtain ⟨M, hM⟩ : ∃ M, M = mapN ns (fun i => elsOf t (till ms (anc t i))) := ⟨_, rfl⟩
  rw [← hM] at HK ⊢
  clear hs1 hown hrs hT hns hM hR h2 hms
  go_enter Try.func93, Try.ntmps93
  go_wp2_with fail
  refine HK.out.mono ?_
  rintro e w1 ⟨v, rfl, ⟨a1, c1, rfl, hown⟩, hb⟩
  have HO := Lib.hid hown
  have HB := Lib.hid hb
  clear hown hb
  go_wp2_with fail
  refine (push_any g a ns.length c doc prev a1 _ c1 w1 (HS.out.below HB.out HS.out.lt)).mono ?_
  rintro e w2 ⟨rfl, hs2, hb2⟩
  have HS2 := Lib.hid hs2
  have HB2 := Lib.hid hb2
  clear hs2 hb2
  go_wp2_with fail
  go_ret
  exact ⟨_, rfl, ⟨a1, c1, _, HS2.out, HB.out.size, own_kept HO.out (fun b _ hb => HB2.out.block b hb), _, rfl⟩, bnext HB.out HB2.out⟩

set_option maxRecDepth 100000 in
set_option maxHeartbeats 2000000 in
theorem parUntilOf_any (a : Option Addr) (c : Nat) (t : List Nd) (hR : RightP t) (ad : Option Addr) (c2 : Nat) (l : List Int) (ns : List Nat) (ho : OrdP t.length l ns) (hl : l.length ≤ 2147483647) (ad3 : Option Addr) (c3 : Nat) (m : List Int) (ms : List Nat) (hom : OrdP t.length m ms) (hm : m.length ≤ 2147483647) (w : World) (h : NSl w w.heap.size a t) (hi : ISl w w.heap.size ad l) (hj : ISl w w.heap.size ad3 m) :
    Calls Try.prog 51 #[.slice a t.length c, .slice ad l.length c2, .slice ad3 m.length c3] w (ListPost (toI (mapN ns (fun i => elsOf t (till ms (anc t i))))) w) := by
  have HC := Lib.hid (chosen_any a c t hR ad c2 l ns ho hl w h hi)
  have HR := Lib.hid hR
  have HO := Lib.hid ho
  have HM := Lib.hid hom
  have HJ := Lib.hid hj
  have hnl := ho.len
  have hml := hom.len
  have hle := hR.le
  have HMf := Lib.hid (mapN_facts hR.le (fun i hi => pars_facts hR ms i hi) ns ho.lt)
  have HNL := Lib.hid (show ns.length ≤ 400 by omega)
  have HML := Lib.hid (show ms.length ≤ 200 by omega)
  obtain ⟨M, hMM⟩ : ∃ M, M = mapN ns (fun i => elsOf t (till ms (anc t i))) := ⟨_, rfl⟩
  have HMM := Lib.hid hMM
  rw [← hMM] at HMf ⊢
  clear hR ho hom h hi hj hnl hml hl hMM
  go_enter Try.func51, Try.ntmps51
  go_wp2_with fail
  refine HC.out.mono ?_
  rintro e w1 ⟨L, bl, st, g, doc, rfl, hL, hT, hsel, hb1⟩
  have HT := Lib.hid hT
  have HSel := Lib.hid hsel
  have HB1 := Lib.hid hb1
  clear hT hsel hb1
  go_wp2_with fail
  refine (these_any t hle _ L bl st ad3 c3 m ms HM.out hm w1 hL HT.out (HJ.out.up HB1.out)).mono ?_
  rintro e w2 ⟨a2, c4, rfl, hown, hb2⟩
  have HB2 := Lib.hid (bnext HB1.out hb2)
  have HT2 := Lib.hid (HT.out.kept hb2)
  have HRs : Hid (RSl w2 w2.heap.size a2 (ptrs bl ms)) := by
    obtain ⟨a1, c1, hv, _, hrs⟩ := RSl.own hown
    cases hv
    exact hrs
  have HCh := Lib.hid (sel_until HR.out HT2.out ns HO.out.lt HNL.out ms HM.out.lt HML.out a2 c4 HRs.out g doc (HSel.out.kept hb2))
  rw [← HMM.out] at HCh
  have hL2 := Nat.lt_of_lt_of_le hL hb2.size
  clear hown hb2
  go_wp2_with fail
  refine HCh.out.mono ?_
  rintro e w3 ⟨g2, rfl, hsel3, hb3⟩
  obtain ⟨a6, c6, g0, hrs⟩ := hsel3.places
  have HRs3 := Lib.hid hrs
  have HB3 := Lib.hid (bnext HB2.out hb3)
  have HT3 := Lib.hid (HT2.out.kept hb3)
  have hL3 := Nat.lt_of_lt_of_le hL2 hb3.size
  clear hsel3 hrs hb3
  go_wp2_with fail
  refine (placesOf_any bl t.length L hle M HMf.out.2 (by have := HMf.out.1; omega) a6 c6 w3 hL3 HT3.out.nodes (fun j hj => HT3.out.cell j hj) HRs3.out).mono ?_
  rintro e w4 ⟨v, rfl, hown4, hb4⟩
  have HO4 := Lib.hid (hown4.base HB3.out.size)
  have HB4 := Lib.hid (bnext HB3.out hb4)
  clear hown4 hb4
  go_wp2_with fail
  go_ret2
  exact ⟨v, rfl, HO4.out, HB4.out⟩

set_option maxRecDepth 100000 in
set_option maxHeartbeats 2000000 in
theorem FnParentsUntilOf_walk (ad : Option Addr) (len c : Nat) (t : List Nd) (a2 : Option Addr) (len2 c2 : Nat) (l : List Int) (a3 : Option Addr) (len3 c3 : Nat) (m : List Int) (w : World) (h : NSl w w.heap.size ad t ∧ len = t.length) (hi : ISl w w.heap.size a2 l ∧ len2 = l.length ∧ len2 ≤ c2) (hj : ISl w w.heap.size a3 m ∧ len3 = m.length ∧ len3 ≤ c3) :
    Calls Try.prog 9 #[.slice ad len c, .slice a2 len2 c2, .slice a3 len3 c3] w fun e w' => e = .returned (.bool true) ∧ Below w.heap.size w w' := by
  obtain ⟨h, rfl⟩ := h
  obtain ⟨hi, rfl, hc2⟩ := hi
  obtain ⟨hj, rfl, hc3⟩ := hj
  have HH := Lib.hid h
  have hll := hi.len
  have hml := hj.len
  have HI := Lib.hid hi
  have HJ := Lib.hid hj
  unfold maxLen at hll hml
  clear h hi hj
  go_enter Try.func9, Try.ntmps9
  go_wp2_with fail
  refine (zzFits1_any _ _ t _ HH.out).mono ?_
  rintro e w1 ⟨rfl, hb1⟩
  have HB1 := Lib.hid hb1
  clear hb1
  cases hf : fits1 t
  · go_wp2_with fail
    go_ret
    exact ⟨rfl, HB1.out⟩
  · by_cases k1 : 2147483647 < l.length
    · go_wp2_with fail
      go_ret
      exact ⟨rfl, HB1.out⟩
    by_cases k2 : 2147483647 < m.length
    · go_wp2_with fail
      go_ret
      exact ⟨rfl, HB1.out⟩
    go_wp2_with fail
    refine (rising_any _ _ t hf _ _ l (by omega) hc2 _ (HH.out.up HB1.out) (HI.out.up HB1.out)).mono ?_
    rintro e w2 ⟨b, rfl, hS, hb2⟩
    have HB2 := Lib.hid (bnext HB1.out hb2)
    have HS0 := Lib.hid hS
    clear hb2 hS
    cases b
    · go_wp2_with fail
      go_ret
      exact ⟨rfl, HB2.out⟩
    go_wp2_with fail
    refine (rising_any _ _ t hf _ _ m (by omega) hc3 _ (HH.out.up HB2.out) (HJ.out.up HB2.out)).mono ?_
    rintro e w3 ⟨b, rfl, hS, hb3⟩
    have HB3 := Lib.hid (bnext HB2.out hb3)
    have HS00 := Lib.hid hS
    clear hb3 hS
    cases b
    · go_wp2_with fail
      go_ret
      exact ⟨rfl, HB3.out⟩
    obtain ⟨ns, hS1⟩ := HS0.out (by trivial)
    obtain ⟨ms, hS2⟩ := HS00.out (by trivial)
    have HS1 := Lib.hid hS1
    have HS2 := Lib.hid hS2
    have hle := hS1.right.le
    have hln := hS1.ord.length
    have hlm := hS2.ord.length
    have hln2 := hS1.ord.len
    have hlm2 := hS2.ord.len
    have hl200 : l.length ≤ 200 := by omega
    have hm200 : m.length ≤ 200 := by omega
    have HLN := Lib.hid hln
    have HLM := Lib.hid hlm
    have HKind : Hid (∀ m ∈ ms, isEl t m = true) := fun m hm => by unfold isEl; rw [decide_eq_true_eq]; exact hS2.kind m hm
    have hn200 : ns.length ≤ 200 := by omega
    have HFacts := Lib.hid (mapN_toI ns (fun i => elsOf t (till ms (anc t i))) (fun i hi => (pars_facts HS1.out.right ms i (HS1.out.ord.lt i hi)).2.1))
    have HMl := Lib.hid (mapN_facts HS1.out.right.le (fun i hi => pars_facts HS1.out.right ms i hi) ns HS1.out.ord.lt).1
    have HCh : Hid (∀ W, Below w.heap.size w W → Calls Try.prog 51 #[.slice ad t.length c, .slice a2 l.length c2, .slice a3 m.length c3] W (ListPost (toI (mapN ns fun i => elsOf t (till ms (anc t i)))) W)) :=
      fun W hW => parUntilOf_any ad c t HS1.out.right a2 c2 l ns HS1.out.ord (by omega) a3 c3 m ms HS2.out.ord (by omega) W (HH.out.up hW) (HI.out.up hW) (HJ.out.up hW)
    have HRel : Hid (∀ W0, Below w.heap.size w W0 → Calls Try.prog 47 #[.slice ad t.length c, .slice a2 l.length c2, .agg #[.int .i64 24, .string ⟨#[]⟩, .slice a3 m.length c3, .int .i64 0, .int .i64 0]] W0 (ListPost (onceL (flatI (fun i => elsOf t (till ms (anc t i))) ns)) W0)) := by
      intro W0 hW0
      have hrel := related_any 24 ⟨rfl, rfl, rfl, rfl, rfl, rfl, rfl, rfl⟩ (fun i => elsOf t (till ms (anc t i))) ad t.length c HS1.out.right.pos a2 c2 ns HS1.out.ord.lt (by omega) (fun i hi => (pars_facts HS1.out.right ms i (HS1.out.ord.lt i hi)).2.2) a3 m.length c3 W0 ((HI.out.up hW0).rowI HS1.out.ord)
        (fun W i hW hi => relOf24 ad c t HS1.out.right i W (HH.out.up (bnext hW0 hW)) hi a3 c3 m ms HS2.out.ord (by omega) HKind.out ((HJ.out.up (bnext hW0 hW)).rowI HS2.out.ord))
      rw [← HLN.out] at hrel
      exact hrel
    obtain ⟨M, hM⟩ : ∃ M, M = mapN ns fun i => elsOf t (till ms (anc t i)) := ⟨_, rfl⟩
    obtain ⟨R, hR⟩ : ∃ R, R = onceL (flatI (fun i => elsOf t (till ms (anc t i))) ns) := ⟨_, rfl⟩
    rw [← hM] at HFacts HCh HMl
    rw [← hR] at HFacts HRel
    have hMl : M.length ≤ 200 := by have := HMl.out; omega
    have hRl : R.length ≤ 200 := by have := HFacts.out.2.1; rw [toI_length] at this; omega
    clear hS1 hS2 hle hln hlm hln2 hlm2 HS0 HS00 hM hR HMl
    have HRl := Lib.hid (HRel.out w3 HB3.out)
    go_wp2_with fail
    refine HRl.out.mono ?_
    rintro e w4 ⟨v, rfl, hown, hb4⟩
    obtain ⟨av, cv, rfl, hrow⟩ := hown.row
    have HRow := Lib.hid hrow
    have HB4 := Lib.hid (bnext HB3.out hb4)
    have HC := Lib.hid (HCh.out w4 HB4.out)
    clear hown hrow hb4
    go_wp2_with fail
    refine HC.out.mono ?_
    rintro e w5 ⟨v2, rfl, hown, hb5⟩
    obtain ⟨av2, cv2, rfl, hrow2⟩ := hown.row
    have HRow2 := Lib.hid hrow2
    have HRow1 := Lib.hid (HRow.out.up hb5)
    have HB5 := Lib.hid (bnext HB4.out hb5)
    obtain ⟨f1, f2, f3⟩ := HFacts.out
    have HSame := Lib.hid (sameOnce_any av2 cv2 (toI M) av cv R (by rw [toI_length]; omega) (by omega) f1 f2 f3 w5 HRow2.out HRow1.out)
    clear hown hrow2 hb5 f1 f2 f3
    go_wp2_with fail
    refine HSame.out.mono ?_
    rintro e w6 ⟨rfl, hb6⟩
    have HB6 := Lib.hid (bnext HB5.out hb6)
    clear hb6
    go_wp2_with fail
    go_ret
    exact ⟨rfl, HB6.out⟩
end Go.Proofs.Ytgilbckfkngaiaa

namespace Go.Proofs.Ytgilbckfkngaiaa
open Go.RowKit
set_option linter.unusedVariables false

/-- A list of one number, that has just been laid. -/
theorem isl_one (w : World) (x : Int) (hx : -9223372036854775808 ≤ x ∧ x ≤ 9223372036854775807) (t : TypeId) : ISl (w.alloc (.cells #[.int .i64 x] t)) (w.alloc (.cells #[.int .i64 x] t)).heap.size (some ⟨w.heap.size, 0, none⟩) [x] := by
  refine ⟨.inr ⟨w.heap.size, 0, rfl, by simp, fun i hi => ?_⟩, by simp [maxLen], ?_⟩
  · have : i = 0 := by simp [ivs] at hi; omega
    subst this
    rw [World.cell?_alloc_at _ _ _ _ (by simp)]; rfl
  · intro y hy
    simp at hy
    subst hy; exact hx
theorem isl_one' (w : World) (n : Nat) (hn : n = w.heap.size) (x : Int) (hx : -9223372036854775808 ≤ x ∧ x ≤ 9223372036854775807) (t : TypeId) : ISl (w.alloc (.cells #[.int .i64 x] t)) (w.alloc (.cells #[.int .i64 x] t)).heap.size (some ⟨n, 0, none⟩) [x] := by
  subst hn; exact isl_one w x hx t
theorem one_sel {t : List Nd} {x : Int} {ns : List Nat} (h : SelP t [x] ns) : ∃ i : Nat, ns = [i] ∧ x = i ∧ i < t.length ∧ isEl t i = true := by
  have e := h.ord.eq
  match ns, e with
  | [i], e =>
    simp at e
    refine ⟨i, rfl, e, h.ord.lt i (by simp), ?_⟩
    unfold isEl
    rw [decide_eq_true_eq]; exact h.kind i (by simp)
theorem ord_one {t : List Nd} {i : Nat} (hi : i < t.length) : OrdP t.length [(i : Int)] [i] := ⟨rfl, by simpa using hi, by simp⟩
theorem mapN_one (i : Nat) (fs : Nat → List Nat) : mapN [i] fs = fs i := by
  show addN [] (fs i) = _
  simp [addN]

section
variable (w : World)
/-- An append, behind a guard that says yes or behind none; the list that it makes has a name of its own. -/
theorem wpList_append_ints_z {ops : Array Oper} {rest : List Oper} {o : Oper} {a : Act} {Q : Exit → Act → World → Prop} (hgd : Region.wanted o (yielded ops a.tmps) = true) (s x : Operand)
    (ho : o.op = .call { callee := .builtin .append, args := #[s, x], argTypes := #[37, 37] })
    (base : Nat) (v : Value) (xs : List Int) (hs : a.eval s = v) (hown : w.ownsRow base 3 1 v xs.length (ivs xs))
    (A : Option Addr) (c : Nat) (ys : List Int) (hx : a.eval x = .slice A ys.length c) (hr : RSl w w.heap.size A (ivs ys)) (hlen : xs.length + ys.length ≤ 1000000) (hbase : base ≤ w.heap.size) (zs : List Int) (hz : zs = xs ++ ys)
    (h : ∀ a' c' w', w'.ownsRow base 3 1 (.slice a' zs.length c') zs.length (ivs zs) → w.grownBy w' v.ownBlock → wpList Try.prog ops Q rest (a.put o.dst (.slice a' zs.length c')) w') :
    wpList Try.prog ops Q (o :: rest) a w := by
  subst hz
  exact BigFrame.wpList_want hgd fun _ hK => wp_append_ints w s x ho base v xs hs hown A c ys hx hr hlen hbase fun a' c' w' h2 h3 h4 => hK _ _ (h a' c' w' h2 h3)
end
theorem own_empty0 (w : World) (t : TypeId) : (w.alloc (.cells #[] t)).ownsRow w.heap.size t 1 (.slice (some ⟨w.heap.size, 0, none⟩) 0 0) 0 [] := by
  refine ⟨by simp, .inr ⟨w.heap.size, 0, #[], rfl, Nat.le_refl _, ?_, by omega, by simp [maxLen], rfl, rfl⟩⟩
  exact heap_alloc_new w _

set_option maxRecDepth 100000 in
set_option maxHeartbeats 4000000 in
theorem FnParentsUntilParts_walk (ad : Option Addr) (len c : Nat) (t : List Nd) (x y : Int) (w : World) (h : NSl w w.heap.size ad t ∧ len = t.length) (hx : (Lit.int .i64 x).wf = true) (hy : (Lit.int .i64 y).wf = true) :
    Calls Try.prog 10 #[.slice ad len c, .int .i64 x, .int .i64 y] w fun e w' => e = .returned (.bool true) ∧ Below w.heap.size w w' := by
  obtain ⟨h, rfl⟩ := h
  have HH := Lib.hid h
  have HX := Lib.hid (wf_bounds hx)
  have HY := Lib.hid (wf_bounds hy)
  clear h hx hy
  go_enter Try.func10, Try.ntmps10
  go_wp2_with fail
  refine (zzFits1_any _ _ t _ HH.out).mono ?_
  rintro e w1 ⟨rfl, hb1⟩
  have HB1 := Lib.hid hb1
  clear hb1
  cases hf : fits1 t
  · go_wp2_with fail
    go_ret
    exact ⟨rfl, HB1.out⟩
  · have HF := Lib.hid hf
    clear hf
    go_wp2_with fail
    have HBa := Lib.hid (HB1.out.alloc HB1.out.size (.cells #[.int .i64 x] 3))
    refine (rising_any _ _ t HF.out _ _ [x] (by simp) (by simp) _ (HH.out.up HBa.out) (isl_one _ _ HX.out _)).mono ?_
    rintro e w2 ⟨b, rfl, hS, hb2⟩
    have HB2 := Lib.hid (bnext HBa.out hb2)
    have HS0 := Lib.hid hS
    clear hb2 hS
    cases b
    · go_wp2_with fail
      go_ret
      exact ⟨rfl, HB2.out⟩
    go_wp2_with fail
    have HBb := Lib.hid (HB2.out.alloc HB2.out.size (.cells #[.int .i64 y] 3))
    refine (rising_any _ _ t HF.out _ _ [y] (by simp) (by simp) _ (HH.out.up HBb.out) (isl_one _ _ HY.out _)).mono ?_
    rintro e w3 ⟨b, rfl, hS, hb3⟩
    have HB3 := Lib.hid (bnext HBb.out hb3)
    have HS00 := Lib.hid hS
    clear hb3 hS
    cases b
    · go_wp2_with fail
      go_ret
      exact ⟨rfl, HB3.out⟩
    obtain ⟨ns, hS1⟩ := HS0.out (by trivial)
    obtain ⟨ms, hS2⟩ := HS00.out (by trivial)
    have HR := Lib.hid hS1.right
    obtain ⟨i, rfl, rfl, hi, hei⟩ := one_sel hS1
    obtain ⟨u, rfl, rfl, hu, heu⟩ := one_sel hS2
    have hle := HR.out.le
    have HEu := Lib.hid heu
    clear hS1 hS2 HS0 HS00 hei heu
    by_cases c1 : i ≤ u
    · have d1 : decide (i ≤ u) = true := decide_eq_true c1
      clear c1
      go_wp2_with fail
      go_ret
      exact ⟨rfl, HB3.out⟩
    have d1 : decide (i ≤ u) = false := decide_eq_false c1
    obtain ⟨b, o, rfl, hbB, hc⟩ := (HH.out.up HB3.out).at_ (by omega)
    have g1 := (hc u hu).2.2.2.2.1
    rw [size_at hu (HR.out.lam u (Nat.zero_le _) hu).1] at g1
    have HU := Lib.hid (HR.out.lam u (Nat.zero_le _) hu)
    have hsz := HU.out.2.2.1
    clear hc
    obtain ⟨s, hs⟩ : ∃ s, s = sz t u := ⟨_, rfl⟩
    rw [← hs] at g1 hsz
    have HS := Lib.hid hs
    clear hs
    by_cases c2 : u + s ≤ i
    · have d2 : decide (u + s ≤ i) = true := decide_eq_true c2
      have d3 : decide ((u : Int) + (s : Int) ≤ (i : Int)) = true := decide_eq_true (by omega)
      clear c1 c2
      go_wp2_with fail
      go_ret
      exact ⟨rfl, HB3.out⟩
    have d2 : decide (u + s ≤ i) = false := decide_eq_false c2
    have d3 : decide ((u : Int) + (s : Int) ≤ (i : Int)) = false := decide_eq_false (by omega)
    have HAnc : Hid (u ∈ anc t i) := (anc_und HR.out u hu i i (Nat.le_refl _) hi).2 (by unfold und; rw [decide_eq_true_eq, ← HS.out]; omega)
    clear c1 c2
    have hone : ∀ (z : Nat), z < t.length → ((z : Int) ≤ 9223372036854775807 ∧ -9223372036854775808 ≤ (z : Int)) := fun z hz => by omega
    have HB4 := Lib.hid (HB3.out.alloc HB3.out.size (.cells #[.int .i64 (i : Int)] 3))
    have HC1 := Lib.hid (door_par _ c t HR.out _ 1 [(i : Int)] [i] (ord_one hi) (by simp) _ (HH.out.up HB4.out) (isl_one w3 (i : Int) HX.out 3))
    rw [mapN_one] at HC1
    have HF1 := Lib.hid (par_facts HR.out i hi)
    have HF2 := Lib.hid (pars_facts HR.out [u] i hi)
    have HF3 := Lib.hid (par_facts HR.out u hu)
    have HParts : Hid (elsOf t (anc t i) = elsOf t (till [u] (anc t i)) ++ u :: elsOf t (anc t u)) := by
      have := anc_parts u i i (Nat.le_refl _) HAnc.out
      rw [Hid]
      conv => lhs; rw [this]
      unfold elsOf
      rw [List.filter_append, List.filter_cons, if_pos HEu.out]
    obtain ⟨A, hA⟩ : ∃ A, A = elsOf t (anc t i) := ⟨_, rfl⟩
    obtain ⟨A1, hA1⟩ : ∃ A1, A1 = elsOf t (till [u] (anc t i)) := ⟨_, rfl⟩
    obtain ⟨A2, hA2⟩ : ∃ A2, A2 = elsOf t (anc t u) := ⟨_, rfl⟩
    have HA1 := Lib.hid hA1
    have HA2 := Lib.hid hA2
    rw [← hA] at HC1 HF1 HParts
    rw [← hA1] at HF2 HParts
    rw [← hA2] at HF3 HParts
    clear hA hA1 hA2 hone
    go_wp2_with fail
    clear g1
    refine HC1.out.mono ?_
    rintro e w5 ⟨v1, rfl, hown1, hb5⟩
    have HB5 := Lib.hid (bnext HB4.out hb5)
    obtain ⟨av1, cv1, rfl, hr1⟩ := hown1.row
    rw [toI_length]
    have HR1 := Lib.hid hr1
    clear hown1 hr1 hb5
    have HB6 := Lib.hid (HB5.out.alloc HB5.out.size (.cells #[.int .i64 (i : Int)] 3))
    have HB7 := Lib.hid (HB6.out.alloc HB6.out.size (.cells #[.int .i64 (u : Int)] 3))
    have hI1 : ISl (w5.alloc (.cells #[.int .i64 (i : Int)] 3)) (w5.alloc (.cells #[.int .i64 (i : Int)] 3)).heap.size (some ⟨w5.heap.size, 0, none⟩) [(i : Int)] := isl_one w5 (i : Int) HX.out 3
    have hI2 : ISl ((w5.alloc (.cells #[.int .i64 (i : Int)] 3)).alloc (.cells #[.int .i64 (u : Int)] 3)) ((w5.alloc (.cells #[.int .i64 (i : Int)] 3)).alloc (.cells #[.int .i64 (u : Int)] 3)).heap.size (some ⟨w5.heap.size, 0, none⟩) [(i : Int)] := hI1.up ((Below.refl _ _).alloc (Nat.le_refl _) _)
    have hI3 : ISl ((w5.alloc (.cells #[.int .i64 (i : Int)] 3)).alloc (.cells #[.int .i64 (u : Int)] 3)) ((w5.alloc (.cells #[.int .i64 (i : Int)] 3)).alloc (.cells #[.int .i64 (u : Int)] 3)).heap.size (some ⟨w5.heap.size + 1, 0, none⟩) [(u : Int)] := isl_one' _ _ (by simp) (u : Int) HY.out 3
    have hc2 := parUntilOf_any (some ⟨b, o, none⟩) c t HR.out (some ⟨w5.heap.size, 0, none⟩) 1 [(i : Int)] [i] (ord_one hi) (by simp) (some ⟨w5.heap.size + 1, 0, none⟩) 1 [(u : Int)] [u] (ord_one hu) (by simp) ((w5.alloc (.cells #[.int .i64 (i : Int)] 3)).alloc (.cells #[.int .i64 (u : Int)] 3)) (HH.out.up HB7.out) hI2 hI3
    have HC2 := Lib.hid hc2
    clear hI1 hI2 hI3 hc2
    rw [mapN_one, ← HA1.out] at HC2
    go_wp2_with fail
    refine HC2.out.mono ?_
    rintro e w8 ⟨v2, rfl, hown2, hb8⟩
    have HB8 := Lib.hid (bnext HB7.out hb8)
    obtain ⟨av2, cv2, rfl, hr2⟩ := hown2.row
    rw [toI_length]
    have HR2 := Lib.hid hr2
    clear hown2 hr2
    have HB9 := Lib.hid (HB8.out.alloc HB8.out.size (.cells #[.int .i64 (u : Int)] 3))
    have HC3 := Lib.hid (door_par _ c t HR.out _ 1 [(u : Int)] [u] (ord_one hu) (by simp) _ (HH.out.up HB9.out) (isl_one w8 (u : Int) HY.out 3))
    rw [mapN_one, ← HA2.out] at HC3
    go_wp2_with fail
    refine HC3.out.mono ?_
    rintro e w10 ⟨v3, rfl, hown3, hb10⟩
    have HB10 := Lib.hid (bnext HB9.out hb10)
    obtain ⟨av3, cv3, rfl, hr3⟩ := hown3.row
    rw [toI_length]
    have HR3 := Lib.hid hr3
    have HR1 := Lib.hid (HR1.out.up (bnext ((Below.refl _ _).alloc (Nat.le_refl _) (.cells #[.int .i64 (i : Int)] 3)) (bnext ((Below.refl _ _).alloc (Nat.le_refl _) (.cells #[.int .i64 (u : Int)] 3)) (bnext hb8 (bnext ((Below.refl _ _).alloc (Nat.le_refl _) (.cells #[.int .i64 (u : Int)] 3)) hb10)))))
    have HR2 := Lib.hid (HR2.out.up (bnext ((Below.refl _ _).alloc (Nat.le_refl _) (.cells #[.int .i64 (u : Int)] 3)) hb10))
    clear hown3 hr3 hb8 hb10
    have HB11 := Lib.hid (HB10.out.alloc HB10.out.size (.cells #[] 3))
    have HE := Lib.hid (own_empty0 w10 3)
    have hA1 := HF2.out.2.2
    have hA2 := HF3.out.2.2
    have hR2' : RSl (w10.alloc (.cells #[] 3)) (w10.alloc (.cells #[] 3)).heap.size av2 (ivs (toI A1)) := HR2.out.up ((Below.refl _ _).alloc (Nat.le_refl _) _)
    have HR2' := Lib.hid hR2'
    clear hR2'
    rw [← toI_length A1, ← toI_length A2, ← toI_length A]
    obtain ⟨Z1, hZ1⟩ : ∃ Z1, Z1 = toI A1 ++ [(u : Int)] := ⟨_, rfl⟩
    obtain ⟨Z2, hZ2⟩ : ∃ Z2, Z2 = Z1 ++ toI A2 := ⟨_, rfl⟩
    have HZ1 := Lib.hid hZ1
    have HZ2 := Lib.hid hZ2
    have hz1 : Z1.length ≤ 201 := by rw [hZ1, List.length_append, toI_length]; simp; omega
    have hz2 : Z2.length ≤ 401 := by rw [hZ2, List.length_append, toI_length]; omega
    clear hZ1 hZ2
    go_wp2_with (refine wpList_append_ints_z _ rfl (.tmp 76) (.tmp 77) rfl w10.heap.size (.slice (some ⟨w10.heap.size, 0, none⟩) 0 0) [] rfl HE.out av2 cv2 (toI A1) rfl HR2'.out (by rw [toI_length]; simp; omega) (by simp) (toI A1) rfl ?_)
    intro p1 q1 w11 hown hg
    have hb11 : Below w10.heap.size w10 w11 := ((Below.refl _ _).alloc (Nat.le_refl _) _).grown hg (by simp) (fun q hq => by have := (HE.out.lt q hq).1; exact this)
    have HO1 := Lib.hid hown
    have HBx := Lib.hid hb11
    have hs11 := hb11.size
    clear hown hg hb11
    go_wp2_with (refine wpList_append_ints_z _ rfl (.tmp 78) (.tmp 80) rfl w10.heap.size (.slice p1 (toI A1).length q1) (toI A1) rfl (HO1.out.alloc _) (some ⟨w11.heap.size, 0, none⟩) 1 [(u : Int)] rfl (isl_one w11 (u : Int) HY.out 3).row (by rw [toI_length]; simp; omega) (by simp; omega) Z1 HZ1.out ?_)
    intro p2 q2 w12 hown hg
    have hb12 : Below w10.heap.size w10 w12 := (HBx.out.alloc hs11 _).grown hg (by simp; omega) (fun q hq => by have := (HO1.out.lt q hq).1; exact this)
    have HO2 := Lib.hid hown
    have HBy := Lib.hid hb12
    have hs12 := hb12.size
    have hR3' := Lib.hid (HR3.out.up hb12)
    clear hown hg hb12
    go_wp2_with (refine wpList_append_ints_z _ rfl (.tmp 81) (.tmp 82) rfl w10.heap.size (.slice p2 Z1.length q2) Z1 rfl HO2.out av3 cv3 (toI A2) rfl hR3'.out (by rw [toI_length]; omega) hs12 Z2 HZ2.out ?_)
    intro p3 q3 w13 hown hg
    have hb13 : Below w10.heap.size w10 w13 := HBy.out.grown hg hs12 (fun q hq => by have := (HO2.out.lt q hq).1; exact this)
    have hrow : RSl w13 w13.heap.size p3 (ivs Z2) := by
      obtain ⟨a3, c3, hv, _, hrs⟩ := RSl.own hown
      cases hv
      exact hrs
    have hAe : toI A = Z2 := by rw [HParts.out, HZ2.out, HZ1.out]; simp [toI]
    have HSame := Lib.hid (sameOnce_any av1 cv1 (toI A) p3 q3 Z2 (by rw [toI_length]; have := HF1.out.2.2; omega) (by omega) (by
      unfold toI List.Nodup
      rw [List.pairwise_map]
      exact HF1.out.2.1.imp (fun h e => h (by omega))) (by rw [hAe]) (by rw [hAe]; exact fun x hx => hx) w13 (HR1.out.up hb13) hrow)
    have HB13 := Lib.hid (bnext HB10.out hb13)
    clear hown hg hb13 hrow hAe
    go_wp2_with fail
    refine HSame.out.mono ?_
    rintro e w14 ⟨rfl, hb14⟩
    have HB14 := Lib.hid (bnext HB13.out hb14)
    clear hb14
    go_wp2_with fail
    go_ret
    exact ⟨rfl, HB14.out⟩
end Go.Proofs.Ytgilbckfkngaiaa

namespace Go.Proofs.Ytgilbckfkngaiaa
open Go.RowKit
set_option linter.unusedVariables false

theorem kid_parJ {t : List Nd} (hR : RightP t) {p i : Nat} (hp : p < t.length) (h : i ∈ kidsL t p) : parJ t i i = some p := by
  obtain ⟨k, hk, rfl⟩ := List.getElem_of_mem h
  have hlam := hR.lam p (Nat.zero_le _) hp
  have h1 := hlam.2.1
  have hL : Lam t (p + 1) (p + sz t p) := by
    intro i q1 q2
    have q3 := hR.lam i (Nat.zero_le _) (by omega)
    exact ⟨q3.1, q3.2.1, hlam.2.2.2 i (by omega) q2, q3.2.2.2⟩
  obtain ⟨s1, s2, s3⟩ := kidsFrom_spec t p (sz t p) (p + 1) (by omega) (by omega) (by omega) (fun m q1 q2 => by omega) hL
  exact isPar_parJ (s3 k hk).1

/-- The elements behind a node: the first one, and those behind that. -/
theorem behind_step {t : List Nd} (hR : RightP t) {i : Nat} (hi : i < t.length) : ∀ x, x ∈ elsOf t (behindL t i) ↔ x ∈ (elsOf t (behindL t i)).take 1 ∨ ∃ j ∈ (elsOf t (behindL t i)).take 1, x ∈ elsOf t (behindL t j) := by
  cases hp : parJ t i i with
  | none =>
    have hb : behindL t i = [] := by unfold behindL; rw [hp]
    rw [hb]; simp [elsOf]
  | some p =>
    obtain ⟨hpi, m, hm, he, hb, _⟩ := kid_place hR hi hp
    cases hE : elsOf t (behindL t i) with
    | nil => simp
    | cons j rest =>
      have hE2 := hE
      unfold elsOf at hE2
      rw [List.filter_eq_cons_iff] at hE2
      obtain ⟨l1, l2, hl, hn, hj, hr⟩ := hE2
      have hjb : j ∈ behindL t i := by rw [hl]; simp
      have hjk : j ∈ kidsL t p := by rw [hb] at hjb; exact List.mem_of_mem_drop hjb
      have hpl : p < t.length := by omega
      have hjt : j < t.length := (kids_facts hR p hpl).2.2 j hjk
      obtain ⟨_, m2, hm2, he2, hb2, _⟩ := kid_place hR hjt (kid_parJ hR hpl hjk)
      have hnd := (kids_facts hR p hpl).2.1
      have hlen : l1.length < ((kidsL t p).drop (m + 1)).length := by rw [← hb, hl]; simp
      rw [List.length_drop] at hlen
      have hat : (kidsL t p)[m + 1 + l1.length] = j := by
        have e1 : ((kidsL t p).drop (m + 1))[l1.length]'(by rw [List.length_drop]; omega) = j := by
          have : (l1 ++ j :: l2)[l1.length]'(by simp) = j := by simp
          rw [← this]
          congr 1
          rw [← hl, hb]
        rw [List.getElem_drop] at e1
        exact e1
      have hmm : m2 = m + 1 + l1.length := (List.getElem_inj hnd).1 (he2.trans hat.symm)
      have hrest : behindL t j = l2 := by
        rw [hb2, hmm]
        have : (kidsL t p).drop (m + 1) = l1 ++ j :: l2 := by rw [← hb]; exact hl
        have e3 : (kidsL t p).drop (m + 1 + l1.length + 1) = ((kidsL t p).drop (m + 1)).drop (l1.length + 1) := by rw [List.drop_drop]; congr 1
        rw [e3, this, show l1.length + 1 = (l1 ++ [j]).length by simp, show l1 ++ j :: l2 = (l1 ++ [j]) ++ l2 by simp, List.drop_left]
      intro x
      have hre : rest = elsOf t l2 := hr.symm
      constructor
      · intro h
        rcases List.mem_cons.1 h with rfl | h
        · exact .inl (by simp)
        · exact .inr ⟨j, by simp, by rw [hrest, ← hre]; exact h⟩
      · rintro (h | ⟨y, hy, h⟩)
        · exact List.mem_of_mem_take h
        · simp at hy
          subst hy
          rw [hrest, ← hre] at h
          exact List.mem_cons_of_mem _ h

theorem mapN_ord {t : List Nd} {N : List Nat} (h1 : N.Nodup) (h2 : ∀ m ∈ N, m < t.length) : OrdP t.length (toI N) N := ⟨rfl, h2, h1⟩

theorem toI_nodup {l : List Nat} (h : l.Nodup) : (toI l).Nodup := by
  unfold toI List.Nodup
  rw [List.pairwise_map]
  exact h.imp (fun h e => h (by omega))

/-- All that follows, and what follows at once with all that follows that. -/
theorem chain_facts {t : List Nd} (hR : RightP t) (ns : List Nat) (hns : ∀ k ∈ ns, k < t.length) (A N M : List Nat) (hA : A = mapN ns (fun i => elsOf t (behindL t i))) (hN : N = mapN ns (fun i => (elsOf t (behindL t i)).take 1)) (hM : M = mapN N (fun i => elsOf t (behindL t i))) :
    (toI A).Nodup ∧ (toI A).length = (onceL (toI N ++ toI M)).length ∧ ∀ x ∈ toI A, x ∈ onceL (toI N ++ toI M) := by
  have hn : (toI A).Nodup := by rw [hA]; exact toI_nodup (mapN_nodup ns _ (fun i hi => (nextAll_facts hR i (hns i hi)).2.1))
  have hm : ∀ x, x ∈ toI A ↔ x ∈ onceL (toI N ++ toI M) := by
    intro x
    rw [onceL_mem, List.mem_append]
    unfold toI
    simp only [List.mem_map, hA, hM]
    simp only [mapN_mem]
    constructor
    · rintro ⟨y, ⟨i, hi, hy⟩, rfl⟩
      rcases (behind_step hR (hns i hi) y).1 hy with h | ⟨j, hj, h⟩
      · exact .inl ⟨y, by rw [hN, mapN_mem]; exact ⟨i, hi, h⟩, rfl⟩
      · exact .inr ⟨y, ⟨j, by rw [hN, mapN_mem]; exact ⟨i, hi, hj⟩, h⟩, rfl⟩
    · rintro (⟨y, hy, rfl⟩ | ⟨y, ⟨j, hj, hy⟩, rfl⟩)
      · rw [hN, mapN_mem] at hy
        obtain ⟨i, hi, h⟩ := hy
        exact ⟨y, ⟨i, hi, (behind_step hR (hns i hi) y).2 (.inl h)⟩, rfl⟩
      · rw [hN, mapN_mem] at hj
        obtain ⟨i, hi, h⟩ := hj
        exact ⟨y, ⟨i, hi, (behind_step hR (hns i hi) y).2 (.inr ⟨j, h, hy⟩)⟩, rfl⟩
  exact ⟨hn, once_len hn (onceL_nodup _) hm, fun x hx => (hm x).1 hx⟩

set_option maxRecDepth 100000 in
set_option maxHeartbeats 4000000 in
theorem FnNextChain_walk (ad : Option Addr) (len c : Nat) (t : List Nd) (a2 : Option Addr) (len2 c2 : Nat) (l : List Int) (w : World) (h : NSl w w.heap.size ad t ∧ len = t.length) (hi : ISl w w.heap.size a2 l ∧ len2 = l.length ∧ len2 ≤ c2) :
    Calls Try.prog 12 #[.slice ad len c, .slice a2 len2 c2] w fun e w' => e = .returned (.bool true) ∧ Below w.heap.size w w' := by
  obtain ⟨h, rfl⟩ := h
  obtain ⟨hi, rfl, hc2⟩ := hi
  have HH := Lib.hid h
  have hll := hi.len
  have HI := Lib.hid hi
  unfold maxLen at hll
  clear h hi
  go_enter Try.func12, Try.ntmps12
  go_wp2_with fail
  refine (zzFits1_any _ _ t _ HH.out).mono ?_
  rintro e w1 ⟨rfl, hb1⟩
  have HB1 := Lib.hid hb1
  clear hb1
  cases hf : fits1 t
  · go_wp2_with fail
    go_ret
    exact ⟨rfl, HB1.out⟩
  · by_cases k1 : 2147483647 < l.length
    · go_wp2_with fail
      go_ret
      exact ⟨rfl, HB1.out⟩
    go_wp2_with fail
    refine (rising_any _ _ t hf _ _ l (by omega) hc2 _ (HH.out.up HB1.out) (HI.out.up HB1.out)).mono ?_
    rintro e w2 ⟨b, rfl, hS, hb2⟩
    have HB2 := Lib.hid (bnext HB1.out hb2)
    have HS0 := Lib.hid hS
    clear hb2 hS
    cases b
    · go_wp2_with fail
      go_ret
      exact ⟨rfl, HB2.out⟩
    obtain ⟨ns, hS1⟩ := HS0.out (by trivial)
    have HS1 := Lib.hid hS1
    have HR := Lib.hid hS1.right
    have hle := hS1.right.le
    have hln := hS1.ord.length
    have hln2 := hS1.ord.len
    have hl200 : l.length ≤ 200 := by omega
    have HAl := Lib.hid (nextAll_all HR.out HS1.out.ord.lt)
    have HNl := Lib.hid (next1_all HR.out HS1.out.ord.lt)
    have HNd := Lib.hid (mapN_nodup ns (fun i => (elsOf t (behindL t i)).take 1) (fun i hi => (next1_facts HR.out i (HS1.out.ord.lt i hi)).2.1))
    obtain ⟨A, hA⟩ : ∃ A, A = mapN ns (fun i => elsOf t (behindL t i)) := ⟨_, rfl⟩
    obtain ⟨N, hN⟩ : ∃ N, N = mapN ns (fun i => (elsOf t (behindL t i)).take 1) := ⟨_, rfl⟩
    obtain ⟨M, hM⟩ : ∃ M, M = mapN N (fun i => elsOf t (behindL t i)) := ⟨_, rfl⟩
    have HFacts := Lib.hid (chain_facts HR.out ns HS1.out.ord.lt A N M hA hN hM)
    rw [← hA] at HAl
    rw [← hN] at HNl HNd
    have HMl := Lib.hid (nextAll_all HR.out (ns := N) HNl.out.2)
    rw [← hM] at HMl
    have HAll : Hid (∀ W, Below w.heap.size w W → Calls Try.prog 53 #[.slice ad t.length c, .slice a2 l.length c2] W (ListPost (toI A) W)) := by
      intro W hW
      have := door_nx ad c t HR.out a2 c2 l ns HS1.out.ord (by omega) W (HH.out.up hW) (HI.out.up hW)
      rw [← hA] at this
      exact this
    have HNext : Hid (∀ W, Below w.heap.size w W → Calls Try.prog 54 #[.slice ad t.length c, .slice a2 l.length c2] W (ListPost (toI N) W)) := by
      intro W hW
      have := door_n1 ad c t HR.out a2 c2 l ns HS1.out.ord (by omega) W (HH.out.up hW) (HI.out.up hW)
      rw [← hN] at this
      exact this
    have HMore : Hid (∀ W a3 c3, Below w.heap.size w W → RSl W W.heap.size a3 (ivs (toI N)) → Calls Try.prog 53 #[.slice ad t.length c, .slice a3 (toI N).length c3] W (ListPost (toI M) W)) := by
      intro W a3 c3 hW hr
      have := door_nx ad c t HR.out a3 c3 (toI N) N (mapN_ord HNd.out HNl.out.2) (by rw [toI_length]; have := HNl.out.1; omega) W (HH.out.up hW) ⟨hr, by rw [toI_length]; unfold maxLen; have := HNl.out.1; omega, fun x hx => by
        unfold toI at hx
        obtain ⟨y, hy, rfl⟩ := List.mem_map.1 hx
        have := HNl.out.2 y hy
        omega⟩
      rw [← hM] at this
      exact this
    have hAl := HAl.out.1
    have hNl := HNl.out.1
    have hMl := HMl.out.1
    clear hS1 hln hln2 HS0 hA hN hM
    go_wp2_with fail
    refine (HAll.out w2 HB2.out).mono ?_
    rintro e w3 ⟨v1, rfl, hown, hb3⟩
    obtain ⟨av1, cv1, rfl, hr1⟩ := hown.row
    have HB3 := Lib.hid (bnext HB2.out hb3)
    have HR1 := Lib.hid hr1
    clear hown hr1 hb3
    go_wp2_with fail
    refine (HNext.out w3 HB3.out).mono ?_
    rintro e w4 ⟨v2, rfl, hown, hb4⟩
    obtain ⟨av2, cv2, rfl, hr2⟩ := hown.row
    have HB4 := Lib.hid (bnext HB3.out hb4)
    have HR2 := Lib.hid hr2
    have HR1 := Lib.hid (HR1.out.up hb4)
    have HC := Lib.hid (HMore.out w4 av2 cv2 HB4.out HR2.out)
    clear hown hr2 hb4
    go_wp2_with fail
    refine HC.out.mono ?_
    rintro e w5 ⟨v3, rfl, hown, hb5⟩
    obtain ⟨av3, cv3, rfl, hr3⟩ := hown.row
    have HB5 := Lib.hid (bnext HB4.out hb5)
    have HR2 := Lib.hid (HR2.out.up hb5)
    have HR1 := Lib.hid (HR1.out.up hb5)
    have HRel := Lib.hid (relAdd_any ad t.length c av2 cv2 (toI N) (by rw [toI_length]; have := HMl.out; omega) av3 cv3 (toI M) (by rw [toI_length]; have := HMl.out; omega) w5 HR2.out hr3)
    clear hown hr3 hb5
    go_wp2_with fail
    refine HRel.out.mono ?_
    rintro e w6 ⟨v4, rfl, hown, hb6⟩
    obtain ⟨av4, cv4, rfl, hr4⟩ := hown.row
    have HB6 := Lib.hid (bnext HB5.out hb6)
    have HR1 := Lib.hid (HR1.out.up hb6)
    have hzl : (onceL (toI N ++ toI M)).length ≤ 1000 := by
      rw [← HFacts.out.2.1, toI_length]; omega
    have HSame := Lib.hid (sameOnce_any av1 cv1 (toI A) av4 cv4 (onceL (toI N ++ toI M)) (by rw [toI_length]; omega) (by omega) HFacts.out.1 HFacts.out.2.1 HFacts.out.2.2 w6 HR1.out hr4)
    obtain ⟨Z, hZ⟩ : ∃ Z, Z = onceL (toI N ++ toI M) := ⟨_, rfl⟩
    rw [← hZ] at HSame ⊢
    clear hown hr4 hb6 hZ hzl
    go_wp2_with fail
    refine HSame.out.mono ?_
    rintro e w7 ⟨rfl, hb7⟩
    have HB7 := Lib.hid (bnext HB6.out hb7)
    clear hb7
    go_wp2_with fail
    go_ret
    exact ⟨rfl, HB7.out⟩
end Go.Proofs.Ytgilbckfkngaiaa

namespace Go.Proofs.Ytgilbckfkngaiaa
open Go.RowKit
set_option linter.unusedVariables false

/-- What is read where the k-th one is looked for: the one that is left out stands ahead of the m-th. -/
def rdK (bl : Nat → Nat) (K : List Nat) (i m k : Nat) : Value := if k = m then .pointer (some ⟨bl i, 0, none⟩) else ptrK bl K k

structure It_s (t : List Nd) (bl : Nat → Nat) (p i m : Nat) (K : List Nat) (b1 b2 b3 : Nat) (w : World) : Prop where
  st_ : w.cell? ⟨b1, 0, none⟩ = some (.int .i64 0)
  par : w.cell? ⟨b2, 0, none⟩ = some (.pointer (some ⟨bl p, 0, none⟩))
  skip : w.cell? ⟨b3, 0, none⟩ = some (.pointer (some ⟨bl i, 0, none⟩))
  fst : w.cell? ⟨bl p, 1, none⟩ = some (rdK bl K i m 0)
  nxt : ∀ k (h : k < K.length), w.cell? ⟨bl K[k], 4, none⟩ = some (rdK bl K i m (k + 1))
  inx : w.cell? ⟨bl i, 4, none⟩ = some (ptrK bl K m)
  typ : ∀ k (h : k < K.length), ∃ y, w.cell? ⟨bl K[k], 5, none⟩ = some (.int .u32 y) ∧ (y == 3) = isEl t K[k]
  inj : ∀ i j (h1 : i < K.length) (h2 : j < K.length), bl K[i] = bl K[j] → i = j
  ne : ∀ k (h : k < K.length), bl K[k] ≠ bl i
  blk : ∀ k (h : k < K.length), ∃ cs, w.heap[bl K[k]]? = some (.cells cs 121 (0, 0)) ∧ cs.size = 10
  bli : ∃ cs, w.heap[bl i]? = some (.cells cs 121 (0, 0)) ∧ cs.size = 10

theorem It_s.below {t : List Nd} {bl : Nat → Nat} {p i m : Nat} {K : List Nat} {b1 b2 b3 : Nat} {w w' : World} (h : It_s t bl p i m K b1 b2 b3 w) (hb : Below w.heap.size w w') (h1 : b1 < w.heap.size) (h2 : b2 < w.heap.size) (h3 : b3 < w.heap.size) (hp : bl p < w.heap.size) (hi : bl i < w.heap.size) (hK : ∀ k (h : k < K.length), bl K[k] < w.heap.size) : It_s t bl p i m K b1 b2 b3 w' := by
  refine ⟨(hb.cell (p := ⟨b1, 0, none⟩) h1).trans h.st_, (hb.cell (p := ⟨b2, 0, none⟩) h2).trans h.par, (hb.cell (p := ⟨b3, 0, none⟩) h3).trans h.skip, (hb.cell (p := ⟨bl p, 1, none⟩) hp).trans h.fst, fun k hk => (hb.cell (p := ⟨bl K[k], 4, none⟩) (hK k hk)).trans (h.nxt k hk), (hb.cell (p := ⟨bl i, 4, none⟩) hi).trans h.inx, fun k hk => ?_, h.inj, h.ne, fun k hk => ?_, ?_⟩
  · obtain ⟨y, q1, q2⟩ := h.typ k hk
    exact ⟨y, (hb.cell (p := ⟨bl K[k], 5, none⟩) (hK k hk)).trans q1, q2⟩
  · obtain ⟨cs, q1, q2⟩ := h.blk k hk
    exact ⟨cs, (hb.block _ (hK k hk)).trans q1, q2⟩
  · obtain ⟨cs, q1, q2⟩ := h.bli
    exact ⟨cs, (hb.block _ hi).trans q1, q2⟩

theorem ptr_other' {a b : Nat} (w : World) (hne : a ≠ b) (h1 : ∃ cs, w.heap[a]? = some (.cells cs 121 (0, 0)) ∧ cs.size = 10) (h2 : ∃ cs, w.heap[b]? = some (.cells cs 121 (0, 0)) ∧ cs.size = 10) :
    (binOp .eql 75 (.pointer (some ⟨a, 0, none⟩)) (.pointer (some ⟨b, 0, none⟩))).run Try.prog w = .ok (.bool false) w := by
  obtain ⟨j, hj, hjs⟩ := Option.map_eq_some_iff.1 Try.infoN
  obtain ⟨c1, e1, s1⟩ := h1
  obtain ⟨c2, e2, s2⟩ := h2
  exact run_eql_ptr_other w Try.underlying75 hj (by omega) (fun h => hne (congrArg Addr.block h)) e1 e2
theorem ptr_same' (a : Nat) (w : World) : (binOp .eql 75 (.pointer (some ⟨a, 0, none⟩)) (.pointer (some ⟨a, 0, none⟩))).run Try.prog w = .ok (.bool true) w := by
  obtain ⟨j, hj, _⟩ := Option.map_eq_some_iff.1 Try.infoN
  exact run_eql_ptr_same w ⟨a, 0, none⟩ Try.underlying75 hj

set_option maxRecDepth 100000 in
set_option maxHeartbeats 8000000 in
theorem iter_s (t : List Nd) (bl : Nat → Nat) (p i m : Nat) (K : List Nat) (hm : m ≤ K.length) (b1 b2 b3 : Nat) (w : World) (h : It_s t bl p i m K b1 b2 b3 w) (k0 : Nat) (hk0 : k0 ≤ K.length) :
    Calls Try.prog 184 #[CurK bl K k0, .pointer (some ⟨b1, 0, none⟩), .pointer (some ⟨b2, 0, none⟩), .pointer (some ⟨b3, 0, none⟩)] w fun e w' => e = .returned (ptrK bl K (nextE (isEl t) K k0)) ∧ w = w' := by
  have c1 := h.st_
  have c2 := h.par
  have c3 := h.skip
  have c4 := h.fst
  have c5 := h.inx
  have HI := Lib.hid h.inj
  have HN := Lib.hid h.nxt
  have HT := Lib.hid h.typ
  have HNe := Lib.hid h.ne
  have HBk := Lib.hid h.blk
  have HBi := Lib.hid h.bli
  clear h
  obtain ⟨I, hI⟩ : ∃ I, I = bl i := ⟨_, rfl⟩
  have HII := Lib.hid hI
  have hsame := ptr_same' I w
  have hrd : ∀ k, rdK bl K i m k = if k = m then .pointer (some ⟨I, 0, none⟩) else ptrK bl K k := by intro k; rw [hI]; rfl
  have HRd := Lib.hid hrd
  rw [← hI] at c3 c5
  obtain ⟨R, hR⟩ : ∃ R, R = ptrK bl K (nextE (isEl t) K k0) := ⟨_, rfl⟩
  have HR := Lib.hid hR
  rw [← hR]
  obtain ⟨C0, hC0⟩ : ∃ C0, C0 = CurK bl K k0 := ⟨_, rfl⟩
  have HC0 := Lib.hid hC0
  rw [← hC0]
  clear hR hC0 hI hrd
  go_enter Try.func184, Try.ntmps184
  go_wp2_with fail
  go_loopw [0] (fun x wr => ∃ k : Nat, k0 ≤ k ∧ k ≤ K.length ∧ x = CurK bl K k ∧ Hid (∀ j (h : j < K.length), k0 ≤ j → j < k → isEl t K[j] = false) ∧ w = wr) (fun x _ => leftOf bl K x)
  case atStart => exact ⟨k0, by omega, hk0, HC0.out, (fun j _ h1 h2 => by omega), rfl⟩
  case round =>
    obtain ⟨k, hk1, hk2, rfl, hno, rfl⟩ := hrel
    clear HC0
    have HM : Hid (leftOf bl K (CurK bl K k) = if k = 0 then K.length + 1 else K.length + 1 - k) := by
      unfold CurK Hid
      by_cases e : k = 0
      · rw [if_pos e, if_pos e, leftOf_nil]
      · rw [if_neg e, if_neg e, ptrK_at (by omega), leftOf_at (by omega) HI.out]; omega
    have HCk : Hid (k ≠ 0 → ∃ h : k - 1 < K.length, CurK bl K k = .pointer (some ⟨bl K[k - 1], 0, none⟩) ∧ w.cell? ⟨bl K[k - 1], 4, none⟩ = some (rdK bl K i m k)) := by
      intro e
      have hkm : k - 1 < K.length := by omega
      refine ⟨hkm, ?_, ?_⟩
      · unfold CurK; rw [if_neg e, ptrK_at hkm]
      · have gn := HN.out (k - 1) hkm
        rw [Nat.sub_add_cancel (by omega)] at gn
        exact gn
    by_cases hlt : k < K.length
    · obtain ⟨y, gy, hy⟩ := HT.out k hlt
      have HPk := Lib.hid (ptrK_at (bl := bl) hlt)
      have HYe : Hid ((y == 3) = isEl t K[k]) := hy
      have hoth := ptr_other' w (HII.out ▸ HNe.out k hlt) (HBk.out k hlt) (HII.out ▸ HBi.out)
      have HEnd : Hid ((y == 3) = true → ptrK bl K k = R) := by
        intro h3
        rw [HR.out, nextE_at hk1 hlt hno.out (by rw [← hy]; exact h3)]
      have HNext : Hid ((y == 3) = false → ∀ j (h : j < K.length), k0 ≤ j → j < k + 1 → isEl t K[j] = false) := by
        intro h3 j hj q1 q2
        by_cases e : j = k
        · subst e; rw [← hy]; exact h3
        · exact hno.out j hj q1 (by omega)
      have HM2 : Hid (leftOf bl K (.pointer (some ⟨bl K[k], 0, none⟩)) = K.length - k) := leftOf_at hlt HI.out
      have HCur : Hid (CurK bl K (k + 1) = .pointer (some ⟨bl K[k], 0, none⟩)) := by
        unfold CurK Hid
        rw [if_neg (by omega), Nat.add_sub_cancel, ptrK_at hlt]
      by_cases e0 : k = 0
      · by_cases hkm : 0 = m
        · subst e0
          have HC : Hid (CurK bl K 0 = .pointer none) := rfl
          rw [HRd.out] at c4
          rw [if_pos hkm] at c4
          rw [← hkm, HPk.out] at c5
          rw [HC.out] at HM ⊢
          rw [HPk.out] at HEnd
          obtain ⟨q, hq⟩ : ∃ q, q = bl K[0] := ⟨_, rfl⟩
          rw [← hq] at gy c5 HEnd HM2 HCur hoth
          clear hq hy hkm
          cases h3 : (y == 3)
          · have HNx := Lib.hid (HNext.out h3)
            have h3' : (y == 3) = false := h3
            clear HNext HEnd
            go_wp2_with fail
            go_roundw
            case rel => exact ⟨1, by omega, by omega, HCur.out.symm, HNx.out, by trivial⟩
            case measure => rw [HM2.out, HM.out]; simp
          · have HE := Lib.hid (HEnd.out h3)
            have h3' : (y == 3) = true := h3
            clear HNext HEnd
            go_wp2_with fail
            go_ret
            exact ⟨by rw [← HE.out]; rfl, rfl⟩
        · subst e0
          have HC : Hid (CurK bl K 0 = .pointer none) := rfl
          rw [HRd.out] at c4
          rw [if_neg hkm] at c4
          rw [HPk.out] at c4
          rw [HC.out] at HM ⊢
          rw [HPk.out] at HEnd
          obtain ⟨q, hq⟩ : ∃ q, q = bl K[0] := ⟨_, rfl⟩
          rw [← hq] at gy c4 HEnd HM2 HCur hoth
          clear hq hy hkm c5
          cases h3 : (y == 3)
          · have HNx := Lib.hid (HNext.out h3)
            have h3' : (y == 3) = false := h3
            clear HNext HEnd
            go_wp2_with fail
            go_roundw
            case rel => exact ⟨1, by omega, by omega, HCur.out.symm, HNx.out, by trivial⟩
            case measure => rw [HM2.out, HM.out]; simp
          · have HE := Lib.hid (HEnd.out h3)
            have h3' : (y == 3) = true := h3
            clear HNext HEnd
            go_wp2_with fail
            go_ret
            exact ⟨by rw [← HE.out]; rfl, rfl⟩
      · by_cases hkm : k = m
        · obtain ⟨hkm1, hC, gn⟩ := HCk.out e0
          rw [HRd.out, if_pos hkm] at gn
          rw [← hkm, HPk.out] at c5
          have HC := Lib.hid hC
          rw [HC.out] at HM ⊢
          rw [HPk.out] at HEnd
          obtain ⟨r, hr⟩ : ∃ r, r = bl K[k - 1] := ⟨_, rfl⟩
          obtain ⟨q, hq⟩ : ∃ q, q = bl K[k] := ⟨_, rfl⟩
          rw [← hr] at gn HM HC ⊢
          rw [← hq] at gy c5 HEnd HM2 HCur hoth
          have HE0 := Lib.hid e0
          clear hq hy hr e0 c4 hC hkm
          cases h3 : (y == 3)
          · have HNx := Lib.hid (HNext.out h3)
            have h3' : (y == 3) = false := h3
            clear HNext HEnd
            go_wp2_with fail
            go_roundw
            case rel => exact ⟨k + 1, by omega, by omega, HCur.out.symm, HNx.out, by trivial⟩
            case measure => rw [HM2.out, HM.out, if_neg HE0.out]; omega
          · have HE := Lib.hid (HEnd.out h3)
            have h3' : (y == 3) = true := h3
            clear HNext HEnd
            go_wp2_with fail
            go_ret
            exact ⟨by rw [← HE.out]; rfl, rfl⟩
        · obtain ⟨hkm1, hC, gn⟩ := HCk.out e0
          rw [HRd.out, if_neg hkm] at gn
          rw [HPk.out] at gn
          have HC := Lib.hid hC
          rw [HC.out] at HM ⊢
          rw [HPk.out] at HEnd
          obtain ⟨r, hr⟩ : ∃ r, r = bl K[k - 1] := ⟨_, rfl⟩
          obtain ⟨q, hq⟩ : ∃ q, q = bl K[k] := ⟨_, rfl⟩
          rw [← hr] at gn HM HC ⊢
          rw [← hq] at gy gn HEnd HM2 HCur hoth
          have HE0 := Lib.hid e0
          clear hq hy hr e0 c4 hC hkm c5
          cases h3 : (y == 3)
          · have HNx := Lib.hid (HNext.out h3)
            have h3' : (y == 3) = false := h3
            clear HNext HEnd
            go_wp2_with fail
            go_roundw
            case rel => exact ⟨k + 1, by omega, by omega, HCur.out.symm, HNx.out, by trivial⟩
            case measure => rw [HM2.out, HM.out, if_neg HE0.out]; omega
          · have HE := Lib.hid (HEnd.out h3)
            have h3' : (y == 3) = true := h3
            clear HNext HEnd
            go_wp2_with fail
            go_ret
            exact ⟨by rw [← HE.out]; rfl, rfl⟩
    · have hkl : k = K.length := by omega
      have hnp : (binOp .eql 75 (.pointer none) (.pointer (some ⟨I, 0, none⟩))).run Try.prog w = .ok (.bool false) w := by kernel_rfl
      have HE : Hid (R = .pointer none) := by
        rw [Hid, HR.out, nextE_end hk0 (fun j h q => hno.out j h q (by omega)), ptrK_end (Nat.le_refl _)]
      by_cases e0 : k = 0
      · by_cases hkm : k = m
        · have HC : Hid (CurK bl K k = .pointer none) := by rw [e0]; rfl
          rw [HRd.out] at c4
          rw [if_pos (by omega)] at c4
          rw [ptrK_end (by omega)] at c5
          rw [HC.out]
          clear hkl e0 HM hkm
          go_wp2_with fail
          go_ret
          exact ⟨by rw [HE.out]; rfl, rfl⟩
        · have HC : Hid (CurK bl K k = .pointer none) := by rw [e0]; rfl
          rw [HRd.out] at c4
          rw [if_neg (by omega)] at c4
          rw [ptrK_end (by omega)] at c4
          rw [HC.out]
          clear hkl e0 HM hkm
          go_wp2_with fail
          go_ret
          exact ⟨by rw [HE.out]; rfl, rfl⟩
      · by_cases hkm : k = m
        · obtain ⟨hkm1, hC, gn⟩ := HCk.out e0
          rw [HRd.out, if_pos hkm] at gn
          rw [ptrK_end (by omega)] at c5
          have HC := Lib.hid hC
          rw [HC.out]
          obtain ⟨r, hr⟩ : ∃ r, r = bl K[k - 1] := ⟨_, rfl⟩
          rw [← hr] at gn ⊢
          clear hkl e0 hr HM c4 hC hkm
          go_wp2_with fail
          go_ret
          exact ⟨by rw [HE.out]; rfl, rfl⟩
        · obtain ⟨hkm1, hC, gn⟩ := HCk.out e0
          rw [HRd.out, if_neg hkm] at gn
          rw [ptrK_end (by omega)] at gn
          have HC := Lib.hid hC
          rw [HC.out]
          obtain ⟨r, hr⟩ : ∃ r, r = bl K[k - 1] := ⟨_, rfl⟩
          rw [← hr] at gn ⊢
          clear hkl e0 hr HM c4 hC hkm
          go_wp2_with fail
          go_ret
          exact ⟨by rw [HE.out]; rfl, rfl⟩

set_option maxRecDepth 100000 in
set_option maxHeartbeats 4000000 in
theorem gather_s (t : List Nd) (bl : Nat → Nat) (p i m : Nat) (K : List Nat) (hm : m ≤ K.length) (hlen : K.length ≤ 200) (w : World) (hp : bl p < w.heap.size) (hi : bl i < w.heap.size) (hKl : ∀ k (h : k < K.length), bl K[k] < w.heap.size)
    (hfst : w.cell? ⟨bl p, 1, none⟩ = some (rdK bl K i m 0)) (hnxt : ∀ k (h : k < K.length), w.cell? ⟨bl K[k], 4, none⟩ = some (rdK bl K i m (k + 1))) (hinx : w.cell? ⟨bl i, 4, none⟩ = some (ptrK bl K m)) (hne : ∀ k (h : k < K.length), bl K[k] ≠ bl i) (hblk : ∀ k (h : k < K.length), ∃ cs, w.heap[bl K[k]]? = some (.cells cs 121 (0, 0)) ∧ cs.size = 10) (hbli : ∃ cs, w.heap[bl i]? = some (.cells cs 121 (0, 0)) ∧ cs.size = 10)
    (htyp : ∀ k (h : k < K.length), ∃ y, w.cell? ⟨bl K[k], 5, none⟩ = some (.int .u32 y) ∧ (y == 3) = isEl t K[k]) (hinj : ∀ i j (h1 : i < K.length) (h2 : j < K.length), bl K[i] = bl K[j] → i = j) :
    Calls Try.prog 158 #[.pointer (some ⟨bl p, 0, none⟩), .int .i64 0, .pointer (some ⟨bl i, 0, none⟩), .nilFunc] w (OwnNPost bl (elsOf t K) w) := by
  have hmf : ∀ (fn : Fn) (first cap : Array Value) (w : World), (Instr.makeFunc fn first cap).run Try.prog w = .ok (.func fn first cap) w := fun _ _ _ _ => rfl
  obtain ⟨i0, hinf, hz0, hz1, hz2⟩ := info_parts Try.infoP
  have hmk := fun (n : Nat) (hn : n ≤ 200) => run_make_rowN (P := Try.prog) 86 75 i0 (.pointer none) Try.underlying86 hinf hz0 .i64 .i64 0 n (by omega) (by rw [hz2]; omega) (by omega)
  obtain ⟨W, hW⟩ : ∃ W, W = ((w.alloc (.cells #[.pointer (some ⟨bl p, 0, none⟩)] 75)).alloc (.cells #[.int .i64 0] 151)).alloc (.cells #[.pointer (some ⟨bl i, 0, none⟩)] 75) := ⟨_, rfl⟩
  have hb0 : Below w.heap.size w W := by rw [hW]; exact (((Below.refl _ _).alloc (Nat.le_refl _) _).alloc (by simp) _).alloc (by simp; omega) _
  have hsz : W.heap.size = w.heap.size + 3 := by rw [hW]; simp
  have hIt : It_s t bl p i m K (w.heap.size + 1) w.heap.size (w.heap.size + 2) W := by
    refine ⟨?_, ?_, ?_, (hb0.cell (p := ⟨bl p, 1, none⟩) hp).trans hfst, fun k h => (hb0.cell (p := ⟨bl K[k], 4, none⟩) (hKl k h)).trans (hnxt k h), (hb0.cell (p := ⟨bl i, 4, none⟩) hi).trans hinx, fun k h => ?_, hinj, hne, fun k h => ?_, ?_⟩
    · rw [hW, World.cell?_alloc_lt _ _ _ (by simp), World.cell?_alloc_at _ _ _ _ (by simp)]; rfl
    · rw [hW, World.cell?_alloc_lt _ _ _ (by simp; omega), World.cell?_alloc_lt _ _ _ (by simp), World.cell?_alloc_mark]; rfl
    · rw [hW, World.cell?_alloc_at _ _ _ _ (by simp)]; rfl
    · obtain ⟨y, q1, q2⟩ := htyp k h
      exact ⟨y, (hb0.cell (p := ⟨bl K[k], 5, none⟩) (hKl k h)).trans q1, q2⟩
    · obtain ⟨cs, q1, q2⟩ := hblk k h
      exact ⟨cs, (hb0.block _ (hKl k h)).trans q1, q2⟩
    · obtain ⟨cs, q1, q2⟩ := hbli
      exact ⟨cs, (hb0.block _ hi).trans q1, q2⟩
  have HIt := Lib.hid hIt
  have HB0 := Lib.hid hb0
  have HMk := Lib.hid hmk
  have HInj := Lib.hid hinj
  have HKl := Lib.hid hKl
  have hbox := hIt.st_
  have HW := Lib.hid hW
  have hszW : w.heap.size ≤ W.heap.size := by omega
  have HSz := Lib.hid hsz
  have HIter : Hid (∀ W', Below W.heap.size W W' → ∀ k, k ≤ K.length → Calls Try.prog 184 #[CurK bl K k, .pointer (some ⟨w.heap.size + 1, 0, none⟩), .pointer (some ⟨w.heap.size, 0, none⟩), .pointer (some ⟨w.heap.size + 2, 0, none⟩)] W' fun e w' => e = .returned (ptrK bl K (nextE (isEl t) K k)) ∧ W' = w') :=
    fun W' hW' k hk => iter_s t bl p i m K hm _ _ _ W' (hIt.below hW' (by omega) (by omega) (by omega) (by omega) (by omega) (fun k h => by have := hKl k h; omega)) k hk
  have hge3 : w.heap.size + 3 ≤ W.heap.size := by omega
  clear hmk hW hb0 hIt hinj hKl hfst hnxt htyp hsz hinx hne hblk hbli
  go_enter Try.func158, Try.ntmps158
  go_wp2_with fail
  rw [← HW.out]
  refine (HIter.out W (Below.refl _ _) 0 (Nat.zero_le _)).mono ?_
  rintro e w1 ⟨rfl, rfl⟩
  go_wp2_with fail
  go_loopw [10, 11] (fun v x wr => CountRel t bl K W v x wr) (fun _ x _ => measE bl K x)
  case atStart => exact ⟨nextE (isEl t) K 0, ⟨nextE_le _ (Nat.zero_le _), fun h => nextE_el h⟩, by rw [elsOf_first]; rfl, rfl, rfl⟩
  case round =>
    obtain ⟨k, ⟨hk, hel⟩, rfl, rfl, rfl⟩ := hrel
    have hnl := elsOf_len t K k
    have HMe := Lib.hid (measE_at HInj.out hk)
    by_cases hlt : k < K.length
    · have HEl := Lib.hid (hel hlt)
      have HC := HIter.out W (Below.refl _ _) (k + 1) (by omega)
      have e1 : CurK bl K (k + 1) = .pointer (some ⟨bl K[k], 0, none⟩) := by
        unfold CurK
        rw [if_neg (by omega), Nat.add_sub_cancel, ptrK_at hlt]
      rw [e1] at HC
      have HC := Lib.hid HC
      rw [ptrK_at hlt]
      rw [ptrK_at hlt] at HMe
      obtain ⟨m, hm⟩ : ∃ m, m = (elsOf t (K.take k)).length := ⟨_, rfl⟩
      have HNx : Hid ((elsOf t (K.take (nextE (isEl t) K (k + 1)))).length = m + 1) := by
        rw [Hid, elsOf_next hlt HEl.out, List.length_append, hm]; rfl
      have HMn := Lib.hid (measE_at HInj.out (nextE_le (isEl t) (K := K) (k := k + 1) (by omega)))
      have hge := nextE_ge (isEl t) K (k + 1)
      have hle := nextE_le (isEl t) (K := K) (k := k + 1) (by omega)
      rw [← hm] at hnl ⊢
      obtain ⟨q, hq⟩ : ∃ q, q = K[k] := ⟨_, rfl⟩
      rw [← hq] at HC HMe ⊢
      clear hq hm e1 hel
      go_wp2_with fail
      refine HC.out.mono ?_
      rintro e w1 ⟨rfl, rfl⟩
      go_wp2_with fail
      go_roundw
      case rel => exact ⟨_, ⟨hle, fun h => nextE_el h⟩, by rw [HNx.out]; go_num, rfl, by trivial⟩
      case measure => rw [HMn.out, HMe.out]; omega
    · have hkl : k = K.length := by omega
      rw [ptrK_end (bl := bl) (K := K) (k := k) (by omega)]
      have HAll : Hid (elsOf t (K.take k) = elsOf t K) := by rw [Hid, hkl, List.take_length]
      rw [HAll.out] at hnl ⊢
      obtain ⟨n, hn⟩ : ∃ n, n = (elsOf t K).length := ⟨_, rfl⟩
      rw [← hn] at hnl ⊢
      have hmkn : ∀ w : World, (Instr.makeSlice 86 (.int .i64 0) (.int .i64 (n : Int))).run Try.prog w = .ok (.slice (some ⟨w.heap.size, 0, none⟩) 0 n) (w.alloc (.cells (madeCells #[.pointer none] n) 75)) := fun w => by
        have h := HMk.out n (by omega) w
        rw [hz1, Nat.mul_one] at h
        exact h
      have HN := Lib.hid hn
      clear hn hkl hel hlt HMe
      go_wp2_with fail
      have hb1 : Below W.heap.size W (W.alloc (.cells (madeCells #[.pointer none] n) 75)) := (Below.refl _ _).alloc (Nat.le_refl _) _
      refine (HIter.out _ hb1 0 (Nat.zero_le _)).mono ?_
      rintro e w1 ⟨rfl, rfl⟩
      have hrow0 : (W.alloc (.cells (madeCells #[.pointer none] n) 75)).ownsRow W.heap.size 75 1 (.slice (some ⟨W.heap.size, 0, none⟩) 0 n) 0 [] := by
        refine ⟨rfl, .inr ⟨W.heap.size, n, _, rfl, Nat.le_refl _, heap_alloc_new W _, Nat.zero_le _, by unfold maxLen; omega, ?_, rfl⟩⟩
        show (madeCells #[.pointer none] n).size = _
        rw [size_madeCells]; omega
      have HRow0 := Lib.hid hrow0
      have HB1 := Lib.hid hb1
      clear hrow0 hb1 hmkn
      go_wp2_with fail
      go_loopw [8, 12] (fun v x wr => GatherRel t bl K W.heap.size W v x wr) (fun _ x _ => measE bl K x)
      case atStart => exact ⟨nextE (isEl t) K 0, some ⟨W.heap.size, 0, none⟩, n, ⟨nextE_le _ (Nat.zero_le _), fun h => nextE_el h⟩, by rw [elsOf_first]; rfl, rfl, by rw [elsOf_first]; exact HRow0.out, HB1.out⟩
      case round =>
        obtain ⟨k2, a1, c1, ⟨hk2, hel⟩, rfl, rfl, hown, hb⟩ := hrel
        have hnl2 := elsOf_len t K k2
        have HMe := Lib.hid (measE_at HInj.out hk2)
        have gbox := (hb.cell (p := ⟨w.heap.size + 1, 0, none⟩) (show w.heap.size + 1 < W.heap.size by omega)).trans hbox
        by_cases hlt : k2 < K.length
        · have HEl := Lib.hid (hel hlt)
          have e1 : CurK bl K (k2 + 1) = .pointer (some ⟨bl K[k2], 0, none⟩) := by
            unfold CurK
            rw [if_neg (by omega), Nat.add_sub_cancel, ptrK_at hlt]
          have HC : Hid (∀ W', Below W.heap.size W W' → Calls Try.prog 184 #[.pointer (some ⟨bl K[k2], 0, none⟩), .pointer (some ⟨w.heap.size + 1, 0, none⟩), .pointer (some ⟨w.heap.size, 0, none⟩), .pointer (some ⟨w.heap.size + 2, 0, none⟩)] W' fun e w' => e = .returned (ptrK bl K (nextE (isEl t) K (k2 + 1))) ∧ W' = w') := by
            intro W' hW'
            have := HIter.out W' hW' (k2 + 1) (by omega)
            rw [e1] at this
            exact this
          rw [ptrK_at hlt]
          rw [ptrK_at hlt] at HMe
          have HNx : Hid (elsOf t (K.take (nextE (isEl t) K (k2 + 1))) = elsOf t (K.take k2) ++ [K[k2]]) := elsOf_next hlt HEl.out
          have HMn := Lib.hid (measE_at HInj.out (nextE_le (isEl t) (K := K) (k := k2 + 1) (by omega)))
          have hge := nextE_ge (isEl t) K (k2 + 1)
          have hle := nextE_le (isEl t) (K := K) (k := k2 + 1) (by omega)
          obtain ⟨L, hL⟩ : ∃ L, L = elsOf t (K.take k2) := ⟨_, rfl⟩
          rw [← hL] at hnl2 HNx hown ⊢
          obtain ⟨q, hq⟩ : ∃ q, q = K[k2] := ⟨_, rfl⟩
          rw [← hq] at HC HMe HNx ⊢
          have HWn := Lib.hid hown
          have hszr := hb.size
          clear hq hL e1 hel hown
          go_wp2_with (at_builtin; refine wpList_append_own _ rfl _ _ 86 rfl W.heap.size 75 i0 (.pointer none) 1 8 Try.underlying86 hinf hz0 hz1 hz2 rfl (by decide) _ _ _ rfl (HWn.out.alloc _) ⟨wr.heap.size, 0, none⟩ 1 1 [.pointer (some ⟨bl q, 0, none⟩)] rfl rfl (cell_one_new _ _ _) (by intro u hu; simp at hu; subst hu; rfl) (by unfold maxLen; omega) (by omega) (by simp; omega) ?_)
          intro v' w1 hown' hgrow _
          obtain ⟨a3, c3, hv2⟩ := own_slice hown'
          rw [hv2] at hown' ⊢
          have hb1 : Below W.heap.size W w1 := (hb.alloc hb.size _).grown hgrow (by simp; omega) (fun q hq => (HWn.out.lt q hq).1)
          have HO1 : Hid (w1.ownsRow W.heap.size 75 1 (.slice a3 (L.length + 1) c3) (L.length + 1) (ptrs bl (L ++ [q]))) := by
            rw [Hid, ptrs_snoc]; exact hown'
          have gbox1 := (hb1.cell (p := ⟨w.heap.size + 1, 0, none⟩) (show w.heap.size + 1 < W.heap.size by omega)).trans hbox
          have HC1 := Lib.hid (HC.out w1 hb1)
          have HB2 := Lib.hid hb1
          clear hown' hgrow hv2 gbox hb1
          go_wp2_with fail
          refine HC1.out.mono ?_
          rintro e w2 ⟨rfl, rfl⟩
          go_wp2_with fail
          go_roundw
          case rel => exact ⟨_, a3, c3, ⟨hle, fun h => nextE_el h⟩, by rw [HNx.out, List.length_append]; rfl, rfl, by rw [HNx.out, List.length_append]; exact HO1.out, HB2.out⟩
          case measure => rw [HMn.out, HMe.out]; omega
        · have hkl : k2 = K.length := by omega
          rw [ptrK_end (bl := bl) (K := K) (k := k2) (by omega)]
          have HAll2 : Hid (elsOf t (K.take k2) = elsOf t K) := by rw [Hid, hkl, List.take_length]
          rw [HAll2.out] at hown ⊢
          have HOw := Lib.hid hown
          clear hkl hel hlt HMe hown
          go_wp2_with fail
          go_ret
          exact ⟨_, rfl, ⟨a1, c1, rfl, own_base HOw.out hszW⟩, HB0.out.trans (hb.mono hszW)⟩
end Go.Proofs.Ytgilbckfkngaiaa

namespace Go.Proofs.Ytgilbckfkngaiaa
open Go.RowKit
set_option linter.unusedVariables false

theorem ord_one' {t : List Nd} {i : Nat} (hi : i < t.length) : OrdP t.length [(i : Int)] [i] := ⟨rfl, by simpa using hi, by simp⟩

def PN1Rel (bl : Nat → Nat) (p bm B : Nat) (w : World) (v x : Value) (wr : World) : Prop :=
  ∃ (k : Nat) (a : Option Addr) (c : Nat), k ≤ 1 ∧ x = .int .i64 (k : Nat) ∧ v = .slice a k c ∧ wr.ownsRow B 75 1 (.slice a k c) k (ptrs bl ([p].take k)) ∧ PSet bl ([p].take k) bm wr ∧ Below B w wr

set_option maxRecDepth 100000 in
set_option maxHeartbeats 4000000 in
theorem getPN_one {t : List Nd} (hR : RightP t) {w : World} {B L : Nat} {bl : Nat → Nat} {st : Nat → Dn} (hT : Tree t w B L bl st) (i p : Nat) (hi : i < t.length) (hp : parJ t i i = some p) (hel : isEl t p = true) (a : Option Addr) (c : Nat) (h : RSl w w.heap.size a (ptrs bl [i])) :
    Calls Try.prog 132 #[.slice a 1 c] w (OwnNPost bl [p] w) := by
  have hmk : ∀ (m : Int) (w : World), (Instr.makeMap 184 (some (.int .i64 m))).run Try.prog w = .ok (.map (some w.heap.size)) (w.alloc (.map #[] 0)) := fun m w => run_makeMap_hint _ _ _ _ _ Try.underlying184 w
  obtain ⟨i0, hinf, hz0, hz1, hz2⟩ := info_parts Try.infoP
  have hpl : p < t.length := by have := parJ_lt hp; omega
  have HT := Lib.hid hT
  have HR := Lib.hid hR
  have HH := Lib.hid h
  have hb0 : Below w.heap.size w (w.alloc (.map #[] 0)) := (Below.refl _ _).alloc (Nat.le_refl _) _
  have HB0 := Lib.hid hb0
  have HP0 := Lib.hid (PSet.new bl w)
  have HPar := Lib.hid hp
  have HEl := Lib.hid hel
  clear hT hR h hb0 hp hel
  go_enter Try.func132, Try.ntmps132
  go_wp2_with fail
  go_loopw [3, 13] (fun v x wr => PN1Rel bl p w.heap.size w.heap.size w v x wr) (fun _ x _ => 1 - (intOf x).toNat)
  case atStart => exact ⟨0, none, 0, by omega, rfl, rfl, World.ownsRow_nil _ _ _ _, HP0.out, HB0.out⟩
  case round =>
    clear hmk
    obtain ⟨k, a1, c1, hk, rfl, rfl, hown, hps, hb⟩ := hrel
    by_cases hlt : k < 1
    · obtain rfl : k = 0 := by omega
      obtain ⟨b, o, rfl, hbB, hc⟩ := (HH.out.up hb).at_ (by simp [ptrs])
      have g1 := hc 0 (by simp [ptrs])
      have e1 : (ptrs bl [i])[0]'(by simp [ptrs]) = .pointer (some ⟨bl i, 0, none⟩) := rfl
      rw [e1, Nat.add_zero] at g1
      have HT1 := Lib.hid (HT.out.kept hb)
      have g2 := HT1.out.up_ i hi
      rw [HPar.out, show ptrTo bl (some p) = .pointer (some ⟨bl p, 0, none⟩) from rfl] at g2
      obtain ⟨y, g3, hy⟩ := HT1.out.typ_ HR.out p hpl
      have hy1 : (y == 3) = true := hy.trans HEl.out
      have hy2 : (y != 3) = false := by rw [bne, hy1]; rfl
      have hN := HT1.out.nodes
      have hps0 : PSet bl [] w.heap.size wr := hps
      have hlk := hps0.look hN (by simp) hpl
      rw [show decide (p ∈ ([] : List Nat)) = false from rfl] at hlk
      obtain ⟨w1, hst, hps1, hg1⟩ := hps0.store hN (by simp) hpl (by simp)
      have HPs1 := Lib.hid hps1
      have hne := own_neMap hown hps0
      have hs1 := hg1.size
      have HOwn : Hid (w1.ownsRow w.heap.size 75 1 (.slice a1 0 c1) 0 []) := by
        refine World.ownsRow.kept hown hg1 ?_
        by_cases e : (Value.slice a1 0 c1).ownBlock = none
        · exact .inl e
        · exact .inr hne
      have hbs := hb.size
      have HB1 := Lib.hid (hb.grown hg1 hb.size (fun q hq => by cases hq; omega))
      clear hc hy e1 hps hps0 hps1 hown hne hN hg1
      go_wp2_with (at_builtin; refine wpList_append_own _ rfl _ _ 86 rfl w.heap.size 75 i0 (.pointer none) 1 8 Try.underlying86 hinf hz0 hz1 hz2 rfl (by decide) _ _ _ rfl (HOwn.out.alloc _) ⟨w1.heap.size, 0, none⟩ 1 1 [.pointer (some ⟨bl p, 0, none⟩)] rfl rfl (cell_one_new _ _ _) (by intro u hu; simp at hu; subst hu; rfl) (by unfold maxLen; omega) (by omega) (by simp; omega) ?_)
      intro v' w2 hown' hgrow _
      obtain ⟨a3, c3, hv2⟩ := own_slice hown'
      rw [hv2] at hown' ⊢
      have hb2 : Below w.heap.size w w2 := (HB1.out.alloc HB1.out.size _).grown hgrow (by simp; omega) (fun q hq => (HOwn.out.lt q hq).1)
      have hps2 : PSet bl [p] w.heap.size w2 := by
        refine HPs1.out.block ?_
        rw [hgrow.block _ (by simp; omega) (fun e => by
          have := own_neMap HOwn.out HPs1.out
          exact this e.symm)]
        exact ((Below.refl w1.heap.size w1).alloc (Nat.le_refl _) _).block _ HPs1.out.lt
      have HO1 := Lib.hid hown'
      have HP2 := Lib.hid hps2
      have HB2 := Lib.hid hb2
      clear hown' hgrow hv2 hb2 hps2 hlk hst
      go_wp2_with fail
      go_roundw
      case rel => exact ⟨1, a3, c3, by omega, by go_num, rfl, HO1.out, HP2.out, HB2.out⟩
      case measure => simp [intOf]
    · obtain rfl : k = 1 := by omega
      go_wp2_with fail
      go_ret
      exact ⟨_, rfl, ⟨a1, c1, rfl, hown⟩, hb⟩

theorem slice_rsl {w : World} {B : Nat} {ns : List Nat} {bl : Nat → Nat} {a : Option Addr} {n c : Nat} (h : w.ownsRow B 75 1 (.slice a n c) n (ptrs bl ns)) : RSl w w.heap.size a (ptrs bl ns) := by
  obtain ⟨a1, c1, hv, _, hrs⟩ := RSl.own h
  cases hv
  exact hrs

set_option maxRecDepth 100000 in
set_option maxHeartbeats 1000000 in
theorem sel_parent1 {t : List Nd} (hR : RightP t) {w : World} {B0 B L : Nat} {bl : Nat → Nat} {st : Nat → Dn} (hT : Tree t w B0 L bl st) (i p : Nat) (hi : i < t.length) (hp : parJ t i i = some p) (hel : isEl t p = true) (g : Nat) (doc : Option Addr) (hs : SelOf bl [i] B g doc w) :
    Calls Try.prog 97 #[.pointer (some ⟨g, 0, none⟩)] w (AddPost bl [p] doc w) := by
  obtain ⟨a, c, prev, hs1, _, hown, _⟩ := hs
  obtain ⟨c0, _, _⟩ := hs1.cells
  have HK := Lib.hid (getPN_one hR hT i p hi hp hel a c (slice_rsl hown))
  have HS := Lib.hid hs1
  rw [show [i].length = 1 from rfl] at c0
  clear hs1 hown hT hR hp hel
  go_enter Try.func97, Try.ntmps97
  go_wp2_with fail
  refine HK.out.mono ?_
  rintro e w1 ⟨v, rfl, ⟨a1, c1, rfl, hown⟩, hb⟩
  have HO := Lib.hid hown
  have HB := Lib.hid hb
  clear hown hb
  go_wp2_with fail
  refine (push_any g a [i].length c doc prev a1 _ c1 w1 (HS.out.below HB.out HS.out.lt)).mono ?_
  rintro e w2 ⟨rfl, hs2, hb2⟩
  have HS2 := Lib.hid hs2
  have HB2 := Lib.hid hb2
  clear hs2 hb2
  go_wp2_with fail
  go_ret
  exact ⟨_, rfl, ⟨a1, c1, _, HS2.out, HB.out.size, own_kept HO.out (fun b _ hb => HB2.out.block b hb), _, rfl⟩, bnext HB.out HB2.out⟩

set_option maxRecDepth 100000 in
set_option maxHeartbeats 2000000 in
theorem door_parent1 (a : Option Addr) (c : Nat) (t : List Nd) (hR : RightP t) (ad : Option Addr) (c2 : Nat) (i p : Nat) (hi : i < t.length) (hp : parJ t i i = some p) (hel : isEl t p = true) (w : World) (h : NSl w w.heap.size a t) (hI : ISl w w.heap.size ad [(i : Int)]) :
    Calls Try.prog 56 #[.slice a t.length c, .slice ad 1 c2] w (ListPost (toI [p]) w) := by
  have HC := Lib.hid (chosen_any a c t hR ad c2 [(i : Int)] [i] (ord_one' hi) (by simp) w h hI)
  have HR := Lib.hid hR
  have hle := hR.le
  have hpl : p < t.length := by have := parJ_lt hp; omega
  have HP := Lib.hid hp
  have HE := Lib.hid hel
  clear hR h hI hp hel
  go_enter Try.func56, Try.ntmps56
  go_wp2_with fail
  refine HC.out.mono ?_
  rintro e w1 ⟨L, bl, st, g, doc, rfl, hL, hT, hsel, hb1⟩
  have HCh := Lib.hid (sel_parent1 HR.out hT i p hi HP.out HE.out g doc hsel)
  have HT := Lib.hid hT
  have HB1 := Lib.hid hb1
  clear hT hsel hb1
  go_wp2_with fail
  refine HCh.out.mono ?_
  rintro e w2 ⟨g2, rfl, hsel2, hb2⟩
  obtain ⟨a5, c5, g0, hrs⟩ := hsel2.places
  have HRs := Lib.hid hrs
  have HB2 := Lib.hid (bnext HB1.out hb2)
  have HT2 := Lib.hid (HT.out.kept hb2)
  have hL2 := Nat.lt_of_lt_of_le hL hb2.size
  rw [show [p].length = 1 from rfl] at g0
  clear hsel2 hrs hb2
  go_wp2_with fail
  refine (placesOf_any bl t.length L hle [p] (by simpa using hpl) (by simp) a5 c5 w2 hL2 HT2.out.nodes (fun j hj => HT2.out.cell j hj) HRs.out).mono ?_
  rintro e w3 ⟨v, rfl, hown4, hb4⟩
  have HO4 := Lib.hid (hown4.base HB2.out.size)
  have HB4 := Lib.hid (bnext HB2.out hb4)
  clear hown4 hb4
  go_wp2_with fail
  go_ret2
  exact ⟨v, rfl, HO4.out, HB4.out⟩

/-- The kids of the node above, but this one. -/
theorem others_eq : ∀ {K : List Nat} (hnd : K.Nodup) {m : Nat} (hm : m < K.length), (K.filter fun k => !decide (k = K[m])) = K.take m ++ K.drop (m + 1) := by
  intro K
  induction K with
  | nil => intro _ m hm; simp at hm
  | cons x K ih =>
    intro hnd m hm
    rw [List.nodup_cons] at hnd
    cases m with
    | zero =>
      simp only [List.getElem_cons_zero, List.take_zero, List.nil_append, List.drop_succ_cons, List.drop_zero, Nat.zero_add]
      rw [List.filter_cons, if_neg (by simp), List.filter_eq_self]
      intro y hy
      simp only [Bool.not_eq_true', decide_eq_false_iff_not]
      intro e; subst e; exact hnd.1 hy
    | succ m =>
      have hm' : m < K.length := by simpa using hm
      simp only [List.getElem_cons_succ, List.take_succ_cons, List.drop_succ_cons, List.cons_append]
      rw [List.filter_cons, if_pos (by
        simp only [Bool.not_eq_true', decide_eq_false_iff_not]
        intro e; exact hnd.1 (by rw [e]; exact List.getElem_mem hm')), ih hnd.2 hm']

theorem othersL_at {t : List Nd} (hR : RightP t) {i p : Nat} (hi : i < t.length) (hp : parJ t i i = some p) :
    p < t.length ∧ ∃ m, ∃ h : m < (kidsL t p).length, (kidsL t p)[m] = i ∧ m ≤ (othersL t i).length ∧ (othersL t i).length + 1 = (kidsL t p).length ∧ ∀ k, (othersL t i)[k]? = (kidsL t p)[if k < m then k else k + 1]? := by
  obtain ⟨hpi, m, hm, he, _, _⟩ := kid_place hR hi hp
  have hpl : p < t.length := by omega
  have hnd := (kids_facts hR p hpl).2.1
  have ho : othersL t i = (kidsL t p).take m ++ (kidsL t p).drop (m + 1) := by
    unfold othersL
    rw [hp]
    have := others_eq hnd hm
    rw [he] at this
    exact this
  have hl : (othersL t i).length + 1 = (kidsL t p).length := by rw [ho, List.length_append, List.length_take, List.length_drop]; omega
  refine ⟨hpl, m, hm, he, by omega, hl, fun k => ?_⟩
  rw [ho]
  have ht : ((kidsL t p).take m).length = m := by rw [List.length_take]; omega
  by_cases c : k < m
  · rw [if_pos c, List.getElem?_append_left (by omega), List.getElem?_take_of_lt c]
  · rw [if_neg c, List.getElem?_append_right (by omega), ht, List.getElem?_drop]
    congr 1; omega

theorem chain_sib {t : List Nd} (hR : RightP t) {w : World} {B L : Nat} {bl : Nat → Nat} {st : Nat → Dn} (hT : Tree t w B L bl st) (i p : Nat) (hi : i < t.length) (hp : parJ t i i = some p) :
    ∃ m, m ≤ (othersL t i).length ∧ w.cell? ⟨bl p, 1, none⟩ = some (rdK bl (othersL t i) i m 0) ∧ (∀ k (h : k < (othersL t i).length), w.cell? ⟨bl (othersL t i)[k], 4, none⟩ = some (rdK bl (othersL t i) i m (k + 1))) ∧ w.cell? ⟨bl i, 4, none⟩ = some (ptrK bl (othersL t i) m) := by
  obtain ⟨hpl, m, hm, he, hml, hl, hat⟩ := othersL_at hR hi hp
  have hK := kids_at hR hT.kin hpl
  have hrd : ∀ k, k ≤ m → rdK bl (othersL t i) i m k = .pointer ((kidsL t p)[k]?.map fun j => ⟨bl j, 0, none⟩) := by
    intro k hk
    unfold rdK
    by_cases e : k = m
    · subst e; rw [if_pos rfl, List.getElem?_eq_getElem hm, he]; rfl
    · rw [if_neg e]; unfold ptrK; rw [hat, if_pos (by omega)]
  have hrd2 : ∀ k, m < k → rdK bl (othersL t i) i m k = .pointer ((kidsL t p)[k + 1]?.map fun j => ⟨bl j, 0, none⟩) := by
    intro k hk
    unfold rdK
    rw [if_neg (by omega)]; unfold ptrK; rw [hat, if_neg (by omega)]
  refine ⟨m, hml, ?_, fun k h => ?_, ?_⟩
  · have := (hT.dom.cells hpl).2.2.1
    rw [hK.fst] at this
    rw [this, hrd 0 (by omega)]; rfl
  · have hg := hat k
    rw [List.getElem?_eq_getElem h] at hg
    by_cases c : k < m
    · rw [if_pos c, List.getElem?_eq_getElem (by omega)] at hg
      have hg := Option.some.inj hg
      have := (hT.dom.cells (hK.lt k (by omega))).2.2.2.2.2.1
      rw [hK.nxt k (by omega)] at this
      rw [hg, this, hrd (k + 1) (by omega)]; rfl
    · rw [if_neg c, List.getElem?_eq_getElem (by omega)] at hg
      have hg := Option.some.inj hg
      have := (hT.dom.cells (hK.lt (k + 1) (by omega))).2.2.2.2.2.1
      rw [hK.nxt (k + 1) (by omega)] at this
      rw [hg, this, hrd2 (k + 1) (by omega)]; rfl
  · have := (hT.dom.cells hi).2.2.2.2.2.1
    rw [← he, hK.nxt m hm] at this
    rw [← he, this]
    unfold ptrK
    rw [he, hat, if_neg (by omega)]; rfl

theorem gatherT_s {t : List Nd} (hR : RightP t) {w : World} {B L : Nat} {bl : Nat → Nat} {st : Nat → Dn} (hT : Tree t w B L bl st) (i p : Nat) (hi : i < t.length) (hp : parJ t i i = some p) :
    Calls Try.prog 158 #[.pointer (some ⟨bl p, 0, none⟩), .int .i64 0, .pointer (some ⟨bl i, 0, none⟩), .nilFunc] w (OwnNPost bl (elsOf t (othersL t i)) w) := by
  obtain ⟨n1, n2, n3, m1, m2, m3, l1, l2, l3⟩ := beside_mem hR hi
  obtain ⟨m, hm, c1, c2, c3⟩ := chain_sib hR hT i p hi hp
  have hpl := (othersL_at hR hi hp).1
  have hni : ∀ k (h : k < (othersL t i).length), (othersL t i)[k] ≠ i := by
    intro k h e
    have : i ∈ othersL t i := by
      have q := List.getElem_mem h
      rw [e] at q; exact q
    unfold othersL at this
    rw [hp] at this
    have := (List.mem_filter.1 this).2
    simp at this
  refine gather_s t bl p i m (othersL t i) hm l3 w (hT.dom.lt hpl) (hT.dom.lt hi) (fun k h => hT.dom.lt (m3 _ (List.getElem_mem h))) c1 c2 c3 (fun k h e => hni k h (hT.dom.inj _ _ (m3 _ (List.getElem_mem h)) hi e)) (fun k h => hT.nodes.blk _ (m3 _ (List.getElem_mem h))) (hT.nodes.blk _ hi) (fun k h => hT.typ_ hR _ (m3 _ (List.getElem_mem h))) (fun a b ha hb e => ?_)
  exact (List.getElem_inj n3).1 (hT.dom.inj _ _ (m3 _ (List.getElem_mem ha)) (m3 _ (List.getElem_mem hb)) e)
end Go.Proofs.Ytgilbckfkngaiaa

namespace Go.Proofs.Ytgilbckfkngaiaa
open Go.RowKit
set_option linter.unusedVariables false

set_option maxRecDepth 100000 in
set_option maxHeartbeats 2000000 in
theorem getSib_s {t : List Nd} (hR : RightP t) {w : World} {B L : Nat} {bl : Nat → Nat} {st : Nat → Dn} (hT : Tree t w B L bl st) (i p : Nat) (hi : i < t.length) (hp : parJ t i i = some p) (a : Option Addr) (c : Nat) (h : RSl w w.heap.size a (ptrs bl [i])) :
    Calls Try.prog 131 #[.slice a 1 c, .int .i64 0, .nilIface, .slice none 0 0] w (OwnNPost bl (elsOf t (othersL t i)) w) := by
  have hmf : ∀ (fn : Fn) (first cap : Array Value) (w : World), (Instr.makeFunc fn first cap).run Try.prog w = .ok (.func fn first cap) w := fun _ _ _ _ => rfl
  obtain ⟨W, hW⟩ : ∃ W, W = (((w.alloc (.cells #[.int .i64 0] 151)).alloc (.cells #[.nilIface] 179)).alloc (.cells #[.slice none 0 0] 86)).alloc (.cells #[.nilFunc] 132) := ⟨_, rfl⟩
  have hb0 : Below w.heap.size w W := by rw [hW]; exact ((((Below.refl _ _).alloc (Nat.le_refl _) _).alloc (by simp) _).alloc (by simp; omega) _).alloc (by simp; omega) _
  have hbox : W.cell? ⟨w.heap.size, 0, none⟩ = some (.int .i64 0) := by
    rw [hW, World.cell?_alloc_lt _ _ _ (by simp; omega), World.cell?_alloc_lt _ _ _ (by simp; omega), World.cell?_alloc_lt _ _ _ (by simp), World.cell?_alloc_mark]; rfl
  have hbox2 : W.cell? ⟨w.heap.size + 1 + 1 + 1, 0, none⟩ = some .nilFunc := by
    rw [hW, World.cell?_alloc_at _ _ _ _ (by simp)]; rfl
  have hT1 := hT.kept hb0
  have gp := hT1.up_ i hi
  rw [hp, show ptrTo bl (some p) = .pointer (some ⟨bl p, 0, none⟩) from rfl] at gp
  have HG := Lib.hid (gatherT_s hR (hT1.kept ((Below.refl W.heap.size W).drew)) i p hi hp)
  have HB0 := Lib.hid hb0
  have HW := Lib.hid hW
  have hszW := hb0.size
  obtain ⟨b, o, rfl, hbB, hc⟩ := (h.up hb0).at_ (by simp [ptrs])
  have g1 := hc 0 (by simp [ptrs])
  have e1 : (ptrs bl [i])[0]'(by simp [ptrs]) = .pointer (some ⟨bl i, 0, none⟩) := rfl
  rw [e1, Nat.add_zero] at g1
  obtain ⟨F, hF⟩ : ∃ F, F = elsOf t (othersL t i) := ⟨_, rfl⟩
  rw [← hF] at HG ⊢
  have inner : Calls Try.prog 157 #[.int .i64 0, .pointer (some ⟨bl i, 0, none⟩), .pointer (some ⟨w.heap.size, 0, none⟩), .pointer (some ⟨w.heap.size + 1 + 1 + 1, 0, none⟩)] W (OwnNPost bl F W) := by
    clear hb0 hT1 hT hR h hp hW hF hc
    go_enter Try.func157, Try.ntmps157
    go_wp2_with fail
    go_region_law (first
      | (go_simp; go_at_call 158; refine HG.out.mono ?_
         rintro e w1 ⟨v, rfl, hown, hb1⟩
         have HO := Lib.hid hown
         have HB1 : Hid (Below W.heap.size W w1) := bnext ((Below.refl W.heap.size W).drew) hb1
         clear hown hb1))
    all_goals
      go_wp2_with fail
      go_ret
      exact ⟨_, rfl, HO.out, HB1.out⟩
  have HIn := Lib.hid inner
  have mid : Calls Try.prog 153 #[.slice (some ⟨b, o, none⟩) 1 c, .func (.func 157) #[] #[.pointer (some ⟨w.heap.size, 0, none⟩), .pointer (some ⟨w.heap.size + 1 + 1 + 1, 0, none⟩)]] W (OwnNPost bl F W) := by
    clear hb0 hT1 hT hR h hp hW hF hc inner hbox hbox2 gp HG
    go_enter Try.func153, Try.ntmps153
    go_wp2_with fail
    refine HIn.out.mono ?_
    rintro e w1 ⟨v, rfl, hown, hb1⟩
    have HO := Lib.hid hown
    have HB1 := Lib.hid hb1
    clear hown hb1
    obtain ⟨a1, c1, rfl, hown⟩ := HO.out
    clear hown
    go_wp2_with fail
    go_ret
    exact ⟨_, rfl, HO.out, HB1.out⟩
  have HMid := Lib.hid mid
  clear hb0 hbox hbox2 hT1 hT h hR hW hp hF inner mid HIn HG gp g1 hc
  go_enter Try.func131, Try.ntmps131
  go_wp2_with fail
  rw [← HW.out]
  refine HMid.out.mono ?_
  rintro e w1 ⟨v, rfl, ⟨a1, c1, rfl, hown⟩, hb1⟩
  have HO := Lib.hid (own_base hown hszW)
  have HB1 := Lib.hid (bnext HB0.out hb1)
  clear hown hb1
  go_wp2_with fail
  go_ret
  exact ⟨_, rfl, ⟨a1, c1, rfl, HO.out⟩, HB1.out⟩

set_option maxRecDepth 100000 in
set_option maxHeartbeats 1000000 in
theorem sel_s {t : List Nd} (hR : RightP t) {w : World} {B0 B L : Nat} {bl : Nat → Nat} {st : Nat → Dn} (hT : Tree t w B0 L bl st) (i p : Nat) (hi : i < t.length) (hp : parJ t i i = some p) (g : Nat) (doc : Option Addr) (hs : SelOf bl [i] B g doc w) :
    Calls Try.prog 99 #[.pointer (some ⟨g, 0, none⟩)] w (AddPost bl (elsOf t (othersL t i)) doc w) := by
  have hs0 := hs
  obtain ⟨a, c, prev, hs1, _, hown, _⟩ := hs
  have hrow := slice_rsl hown
  obtain ⟨c0, _, _⟩ := hs1.cells
  have HK := Lib.hid (getSib_s hR hT i p hi hp a c hrow)
  have HS := Lib.hid hs1
  rw [show [i].length = 1 from rfl] at c0
  have gp := hT.up_ i hi
  rw [hp, show ptrTo bl (some p) = .pointer (some ⟨bl p, 0, none⟩) from rfl] at gp
  obtain ⟨b, o, rfl, hbB, hc⟩ := hrow.at_ (by simp [ptrs])
  have g1 := hc 0 (by simp [ptrs])
  have e1 : (ptrs bl [i])[0]'(by simp [ptrs]) = .pointer (some ⟨bl i, 0, none⟩) := rfl
  rw [e1, Nat.add_zero] at g1
  obtain ⟨F, hF⟩ : ∃ F, F = elsOf t (othersL t i) := ⟨_, rfl⟩
  rw [← hF] at HK ⊢
  have inner : Calls Try.prog 134 #[.pointer (some ⟨g, 0, none⟩)] w (AddPost bl F doc w) := by
    clear hs1 hown hT hR hp hs0 hc hrow gp g1 hF
    go_enter Try.func134, Try.ntmps134
    go_wp2_with fail
    refine HK.out.mono ?_
    rintro e w1 ⟨v, rfl, ⟨a1, c1, rfl, hown⟩, hb⟩
    have HO := Lib.hid hown
    have HB := Lib.hid hb
    clear hown hb
    go_wp2_with fail
    refine (push_any g (some ⟨b, o, none⟩) [i].length c doc prev a1 _ c1 w1 (HS.out.below HB.out HS.out.lt)).mono ?_
    rintro e w2 ⟨rfl, hs2, hb2⟩
    have HS2 := Lib.hid hs2
    have HB2 := Lib.hid hb2
    clear hs2 hb2
    go_wp2_with fail
    go_ret
    exact ⟨_, rfl, ⟨a1, c1, _, HS2.out, HB.out.size, own_kept HO.out (fun b _ hb => HB2.out.block b hb), _, rfl⟩, bnext HB.out HB2.out⟩
  have HIn := Lib.hid inner
  clear hs1 hown hT hR hp hs0 hc hrow hF inner HK HS e1
  go_enter Try.func99, Try.ntmps99
  go_wp2_with fail
  go_loopw [10] (fun x wr => ∃ k : Nat, k ≤ 1 ∧ x = .int .i64 k ∧ w = wr) (fun x _ => 1 - (intOf x).toNat)
  case atStart => exact ⟨0, by omega, rfl, rfl⟩
  case round =>
    obtain ⟨k, hk, rfl, rfl⟩ := hrel
    by_cases hlt : k < 1
    · obtain rfl : k = 0 := by omega
      go_wp2_with fail
      go_roundw
      case rel => exact ⟨1, by omega, by go_num, by trivial⟩
      case measure => simp [intOf]
    · obtain rfl : k = 1 := by omega
      go_wp2_with fail
      refine HIn.out.mono ?_
      rintro e w1 ⟨g2, rfl, hsel, hb⟩
      have HSel := Lib.hid hsel
      have HB := Lib.hid hb
      clear hsel hb
      go_wp2_with fail
      go_ret
      exact ⟨g2, rfl, HSel.out, HB.out⟩

set_option maxRecDepth 100000 in
set_option maxHeartbeats 2000000 in
theorem door_s (a : Option Addr) (c : Nat) (t : List Nd) (hR : RightP t) (ad : Option Addr) (c2 : Nat) (i p : Nat) (hi : i < t.length) (hp : parJ t i i = some p) (w : World) (h : NSl w w.heap.size a t) (hI : ISl w w.heap.size ad [(i : Int)]) :
    Calls Try.prog 58 #[.slice a t.length c, .slice ad 1 c2] w (ListPost (toI (elsOf t (othersL t i))) w) := by
  have HC := Lib.hid (chosen_any a c t hR ad c2 [(i : Int)] [i] (ord_one' hi) (by simp) w h hI)
  have HR := Lib.hid hR
  have hle := hR.le
  have HP := Lib.hid hp
  obtain ⟨n1, n2, n3, m1, m2, m3, l1, l2, l3⟩ := beside_mem hR hi
  have HF := Lib.hid (els_sub n3 m3 l3)
  obtain ⟨F, hF⟩ : ∃ F, F = elsOf t (othersL t i) := ⟨_, rfl⟩
  have HF0 := Lib.hid hF
  rw [← hF] at HF ⊢
  have hFl := HF.out.2.2
  clear hR h hI hp n1 n2 n3 m1 m2 m3 l1 l2 l3 hF
  go_enter Try.func58, Try.ntmps58
  go_wp2_with fail
  refine HC.out.mono ?_
  rintro e w1 ⟨L, bl, st, g, doc, rfl, hL, hT, hsel, hb1⟩
  have HCh := Lib.hid (sel_s HR.out hT i p hi HP.out g doc hsel)
  rw [← HF0.out] at HCh
  have HT := Lib.hid hT
  have HB1 := Lib.hid hb1
  clear hT hsel hb1
  go_wp2_with fail
  refine HCh.out.mono ?_
  rintro e w2 ⟨g2, rfl, hsel2, hb2⟩
  obtain ⟨a5, c5, g0, hrs⟩ := hsel2.places
  have HRs := Lib.hid hrs
  have HB2 := Lib.hid (bnext HB1.out hb2)
  have HT2 := Lib.hid (HT.out.kept hb2)
  have hL2 := Nat.lt_of_lt_of_le hL hb2.size
  clear hsel2 hrs hb2
  go_wp2_with fail
  refine (placesOf_any bl t.length L hle F HF.out.1 (by omega) a5 c5 w2 hL2 HT2.out.nodes (fun j hj => HT2.out.cell j hj) HRs.out).mono ?_
  rintro e w3 ⟨v, rfl, hown4, hb4⟩
  have HO4 := Lib.hid (hown4.base HB2.out.size)
  have HB4 := Lib.hid (bnext HB2.out hb4)
  clear hown4 hb4
  go_wp2_with fail
  go_ret2
  exact ⟨v, rfl, HO4.out, HB4.out⟩

/-- The elements beneath the node above are those beside this one, and this one. -/
theorem pc_facts {t : List Nd} (hR : RightP t) (i p : Nat) (hi : i < t.length) (hp : parJ t i i = some p) (hel : isEl t i = true) (Z : List Int) (hZ : Z = toI (elsOf t (othersL t i)) ++ [(i : Int)]) :
    (toI (elsOf t (kidsL t p))).Nodup ∧ (toI (elsOf t (kidsL t p))).length = Z.length ∧ ∀ x ∈ toI (elsOf t (kidsL t p)), x ∈ Z := by
  have hpl := (othersL_at hR hi hp).1
  have hk := kids_facts hR p hpl
  have hmem : i ∈ kidsL t p := kid_mem hR hpl (parJ_isPar hp)
  have h1 : (toI (elsOf t (kidsL t p))).Nodup := toI_nodup (hk.2.1.filter _)
  have hno : (elsOf t (othersL t i) ++ [i]).Nodup := by
    rw [List.nodup_append]
    refine ⟨(beside_mem hR hi).2.2.1.filter _, by simp, ?_⟩
    intro a ha b hb e
    simp at hb
    subst hb; subst e
    have := (List.mem_filter.1 ha).1
    unfold othersL at this
    rw [hp] at this
    have := (List.mem_filter.1 this).2
    simp at this
  have hZ2 : Z = toI (elsOf t (othersL t i) ++ [i]) := by rw [hZ, toI_snoc]
  have hm : ∀ x, x ∈ toI (elsOf t (kidsL t p)) ↔ x ∈ Z := by
    intro x
    rw [hZ2]
    unfold toI
    simp only [List.mem_map, List.mem_append, List.mem_singleton]
    constructor
    · rintro ⟨y, hy, rfl⟩
      refine ⟨y, ?_, rfl⟩
      obtain ⟨q1, q2⟩ := List.mem_filter.1 hy
      by_cases e : y = i
      · exact .inr e
      · left
        refine List.mem_filter.2 ⟨?_, q2⟩
        unfold othersL
        rw [hp]
        exact List.mem_filter.2 ⟨q1, by simp [e]⟩
    · rintro ⟨y, hy, rfl⟩
      refine ⟨y, ?_, rfl⟩
      rcases hy with hy | rfl
      · obtain ⟨q1, q2⟩ := List.mem_filter.1 hy
        unfold othersL at q1
        rw [hp] at q1
        exact List.mem_filter.2 ⟨(List.mem_filter.1 q1).1, q2⟩
      · exact List.mem_filter.2 ⟨hmem, hel⟩
  exact ⟨h1, once_len h1 (by rw [hZ2]; exact toI_nodup hno) hm, fun x hx => (hm x).1 hx⟩
end Go.Proofs.Ytgilbckfkngaiaa

namespace Go.Proofs.Ytgilbckfkngaiaa
open Go.RowKit
set_option linter.unusedVariables false

set_option maxRecDepth 100000 in
set_option maxHeartbeats 4000000 in
theorem FnParentChild_walk (ad : Option Addr) (len c : Nat) (t : List Nd) (x : Int) (w : World) (h : NSl w w.heap.size ad t ∧ len = t.length) (hx : (Lit.int .i64 x).wf = true) :
    Calls Try.prog 13 #[.slice ad len c, .int .i64 x] w fun e w' => e = .returned (.bool true) ∧ Below w.heap.size w w' := by
  obtain ⟨h, rfl⟩ := h
  have HH := Lib.hid h
  have HX := Lib.hid (wf_bounds hx)
  clear h hx
  go_enter Try.func13, Try.ntmps13
  go_wp2_with fail
  refine (zzFits1_any _ _ t _ HH.out).mono ?_
  rintro e w1 ⟨rfl, hb1⟩
  have HB1 := Lib.hid hb1
  clear hb1
  cases hf : fits1 t
  · go_wp2_with fail
    go_ret
    exact ⟨rfl, HB1.out⟩
  · have HF := Lib.hid hf
    clear hf
    go_wp2_with fail
    have HBa := Lib.hid (HB1.out.alloc HB1.out.size (.cells #[.int .i64 x] 3))
    refine (rising_any _ _ t HF.out _ _ [x] (by simp) (by simp) _ (HH.out.up HBa.out) (isl_one _ _ HX.out _)).mono ?_
    rintro e w2 ⟨b, rfl, hS, hb2⟩
    have HB2 := Lib.hid (bnext HBa.out hb2)
    have HS0 := Lib.hid hS
    clear hb2 hS
    cases b
    · go_wp2_with fail
      go_ret
      exact ⟨rfl, HB2.out⟩
    obtain ⟨ns, hS1⟩ := HS0.out (by trivial)
    have HR := Lib.hid hS1.right
    obtain ⟨i, rfl, rfl, hi, hei⟩ := one_sel hS1
    have hle := HR.out.le
    have HEi := Lib.hid hei
    have hi0 : 0 < i := by
      rcases Nat.eq_zero_or_pos i with e | e
      · subst e
        have hk : (t.getD 0 default).kind = 3 := by unfold isEl at hei; simpa using hei
        have := HR.out.root
        omega
      · exact e
    obtain ⟨p, hp⟩ := parJ_some (t := t) (i := i) (p := 0) (by rw [HR.out.top]; omega) hi0
    have hpl : p < t.length := by have := parJ_lt hp; omega
    have HP := Lib.hid hp
    have hpar := parent_any ad c t hle i i rfl w2 (HH.out.up HB2.out) hi HR.out.lam
    rw [parI_opt, hp, show optI (some p) = (p : Int) from rfl] at hpar
    have HPar := Lib.hid hpar
    clear hS1 HS0 hei hp hpar
    go_wp2_with fail
    refine HPar.out.mono ?_
    rintro e w3 ⟨rfl, rfl⟩
    obtain ⟨b, o, rfl, hbB, hc⟩ := (HH.out.up HB2.out).at_ (by omega)
    have g1 := (hc p hpl).1
    have HK : Hid (isEl t p = decide (t[p].kind = 3)) := by unfold isEl Hid; rw [getD_at hpl]
    obtain ⟨kd, hkd⟩ : ∃ kd, kd = t[p].kind := ⟨_, rfl⟩
    rw [← hkd] at g1 HK
    clear hc hkd
    by_cases e3 : kd = 3
    · have z1 : (kd == 3) = true := by simp [e3]
      have z2 : (kd != 3) = false := by simp [e3]
      have HEp : Hid (isEl t p = true) := by rw [Hid, HK.out]; simp [e3]
      clear e3
      have hord := ord_one hi
      have HB4 := Lib.hid (HB2.out.alloc HB2.out.size (.cells #[.int .i64 (i : Int)] 3))
      have HC1 := Lib.hid (door_parent1 _ c t HR.out (some ⟨w2.heap.size, 0, none⟩) 1 i p hi HP.out HEp.out _ (HH.out.up HB4.out) (isl_one w2 (i : Int) HX.out 3))
      have hpx : -9223372036854775808 ≤ (p : Int) ∧ (p : Int) ≤ 9223372036854775807 := by omega
      have HPx := Lib.hid hpx
      have HKf := Lib.hid (mapN_all HR.out (ns := [p]) (by simpa using hpl))
      rw [mapN_one] at HKf
      have HKid : Hid (∀ W a3 c3, Below w.heap.size w W → RSl W W.heap.size a3 (ivs (toI [p])) → Calls Try.prog 57 #[.slice (some ⟨b, o, none⟩) t.length c, .slice a3 1 c3] W (ListPost (toI (elsOf t (kidsL t p))) W)) := by
        intro W a3 c3 hW hr
        have := childrenOf_any (some ⟨b, o, none⟩) c t HR.out a3 c3 [(p : Int)] [p] (ord_one hpl) (by simp) W (HH.out.up hW) ⟨hr, by simp [maxLen], fun y hy => by simp at hy; subst hy; exact HPx.out⟩
        rw [mapN_one] at this
        exact this
      have HSib : Hid (∀ W a3 c3, Below w.heap.size w W → ISl W W.heap.size a3 [(i : Int)] → Calls Try.prog 58 #[.slice (some ⟨b, o, none⟩) t.length c, .slice a3 1 c3] W (ListPost (toI (elsOf t (othersL t i))) W)) :=
        fun W a3 c3 hW hI => door_s (some ⟨b, o, none⟩) c t HR.out a3 c3 i p hi HP.out W (HH.out.up hW) hI
      have HFa : Hid (∀ Z, Z = toI (elsOf t (othersL t i)) ++ [(i : Int)] → (toI (elsOf t (kidsL t p))).Nodup ∧ (toI (elsOf t (kidsL t p))).length = Z.length ∧ ∀ x ∈ toI (elsOf t (kidsL t p)), x ∈ Z) := fun Z hZ => pc_facts HR.out i p hi HP.out HEi.out Z hZ
      obtain ⟨A, hA⟩ : ∃ A, A = elsOf t (kidsL t p) := ⟨_, rfl⟩
      obtain ⟨S, hS⟩ : ∃ S, S = elsOf t (othersL t i) := ⟨_, rfl⟩
      rw [← hA] at HKid HFa HKf
      rw [← hS] at HSib HFa
      have hAl := HKf.out.1
      have hSl : S.length ≤ 200 := by
        have := (HFa.out _ rfl).2.1
        rw [toI_length, List.length_append, toI_length] at this
        simp at this; omega
      clear hord hpx hA hS
      go_wp2_with fail
      clear g1
      refine HC1.out.mono ?_
      rintro e w5 ⟨v1, rfl, hown1, hb5⟩
      have HB5 := Lib.hid (bnext HB4.out hb5)
      obtain ⟨av1, cv1, rfl, hr1⟩ := hown1.row
      rw [show (toI [p]).length = 1 from rfl]
      have HC2 := Lib.hid (HKid.out w5 av1 cv1 HB5.out hr1)
      clear hown1 hr1 hb5
      go_wp2_with fail
      refine HC2.out.mono ?_
      rintro e w6 ⟨v2, rfl, hown2, hb6⟩
      have HB6 := Lib.hid (bnext HB5.out hb6)
      obtain ⟨av2, cv2, rfl, hr2⟩ := hown2.row
      have HR2 := Lib.hid hr2
      clear hown2 hr2 hb6
      have hb7 : Below w6.heap.size w6 (w6.alloc (.cells #[.int .i64 (i : Int)] 3)) := (Below.refl _ _).alloc (Nat.le_refl _) _
      have HB7 := Lib.hid (bnext HB6.out hb7)
      have HR2 := Lib.hid (HR2.out.up hb7)
      have HC3 := Lib.hid (HSib.out _ (some ⟨w6.heap.size, 0, none⟩) 1 HB7.out (isl_one w6 (i : Int) HX.out 3))
      clear hb7
      go_wp2_with fail
      refine HC3.out.mono ?_
      rintro e w8 ⟨v3, rfl, hown3, hb8⟩
      have HB8 := Lib.hid (bnext HB7.out hb8)
      obtain ⟨av3, cv3, rfl, hr3⟩ := hown3.row
      have HR3 := Lib.hid hr3
      have HR2 := Lib.hid (HR2.out.up hb8)
      clear hown3 hr3 hb8
      have HE := Lib.hid (own_empty0 w8 3)
      have hR3' : RSl (w8.alloc (.cells #[] 3)) (w8.alloc (.cells #[] 3)).heap.size av3 (ivs (toI S)) := HR3.out.up ((Below.refl _ _).alloc (Nat.le_refl _) _)
      have HR3' := Lib.hid hR3'
      obtain ⟨Z1, hZ1⟩ : ∃ Z1, Z1 = toI S ++ [(i : Int)] := ⟨_, rfl⟩
      have HZ1 := Lib.hid hZ1
      have hz1 : Z1.length ≤ 201 := by rw [hZ1, List.length_append, toI_length]; simp; omega
      obtain ⟨f1, f2, f3⟩ := HFa.out Z1 hZ1
      have HF1 := Lib.hid f1
      have HF2 := Lib.hid f2
      have HF3 := Lib.hid f3
      clear hR3' hZ1 f1 f2 f3
      go_wp2_with (refine wpList_append_ints_z _ rfl (.tmp 58) (.tmp 59) rfl w8.heap.size (.slice (some ⟨w8.heap.size, 0, none⟩) 0 0) [] rfl HE.out av3 cv3 (toI S) rfl HR3'.out (by rw [toI_length]; simp; omega) (by simp) (toI S) rfl ?_)
      intro p1 q1 w11 hown hg
      have hb11 : Below w8.heap.size w8 w11 := ((Below.refl _ _).alloc (Nat.le_refl _) _).grown hg (by simp) (fun q hq => by have := (HE.out.lt q hq).1; exact this)
      have HO1 := Lib.hid hown
      have HBx := Lib.hid hb11
      have hs11 := hb11.size
      clear hown hg hb11
      go_wp2_with (refine wpList_append_ints_z _ rfl (.tmp 60) (.tmp 62) rfl w8.heap.size (.slice p1 (toI S).length q1) (toI S) rfl (HO1.out.alloc _) (some ⟨w11.heap.size, 0, none⟩) 1 [(i : Int)] rfl (isl_one w11 (i : Int) HX.out 3).row (by rw [toI_length]; simp; omega) (by simp; omega) Z1 HZ1.out ?_)
      intro p2 q2 w12 hown hg
      have hb12 : Below w8.heap.size w8 w12 := (HBx.out.alloc hs11 _).grown hg (by simp; omega) (fun q hq => by have := (HO1.out.lt q hq).1; exact this)
      have hrow : RSl w12 w12.heap.size p2 (ivs Z1) := by
        obtain ⟨a3, c3, hv, _, hrs⟩ := RSl.own hown
        cases hv
        exact hrs
      have HSame := Lib.hid (sameOnce_any av2 cv2 (toI A) p2 q2 Z1 (by rw [toI_length]; omega) (by omega) HF1.out HF2.out HF3.out w12 (HR2.out.up hb12) hrow)
      have HB12 := Lib.hid (bnext HB8.out hb12)
      clear hown hg hb12 hrow
      go_wp2_with fail
      refine HSame.out.mono ?_
      rintro e w14 ⟨rfl, hb14⟩
      have HB14 := Lib.hid (bnext HB12.out hb14)
      clear hb14
      go_wp2_with fail
      go_ret
      exact ⟨rfl, HB14.out⟩
    · have z1 : (kd == 3) = false := by simp [e3]
      have z2 : (kd != 3) = true := by simp [e3]
      clear e3
      go_wp2_with fail
      go_ret
      exact ⟨rfl, HB2.out⟩
end Go.Proofs.Ytgilbckfkngaiaa
