/- The reference's relatives: Elements, RelativesOf, Related. -/
import Derived.Test.YtgilbckfkngaiaaT50
import Derived.Deep.RegionLaw
namespace Go.Proofs.Ytgilbckfkngaiaa
open Go.RowKit
set_option linter.unusedVariables false

theorem ints_ivs (ns : List Nat) : ints ns = ivs (toI ns) := by simp [ints, ivs, toI]

theorem elsOf_take (t : List Nd) (K : List Nat) (k : Nat) (h : k < K.length) : elsOf t (K.take (k + 1)) = elsOf t (K.take k) ++ if isEl t K[k] = true then [K[k]] else [] := by
  unfold elsOf
  rw [List.take_succ_eq_append_getElem h, List.filter_append, List.filter_cons, List.filter_nil]

def ElsRel (t : List Nd) (K : List Nat) (B : Nat) (W : World) (v x : Value) (wr : World) : Prop :=
  ∃ (k : Nat) (a : Option Addr) (c : Nat), k ≤ K.length ∧ x = .int .i64 (k : Nat) ∧ v = .slice a (elsOf t (K.take k)).length c ∧
    wr.ownsRow B 3 1 (.slice a (elsOf t (K.take k)).length c) (elsOf t (K.take k)).length (ivs (toI (elsOf t (K.take k)))) ∧ Below B W wr

set_option maxRecDepth 100000 in
set_option maxHeartbeats 2000000 in
theorem specEls_any (a : Option Addr) (c : Nat) (t : List Nd) (ht : t.length ≤ 200) (i : Nat) (w : World) (h : NSl w w.heap.size a t) (hi : i < t.length) (hl : Lam t i (i + sz t i)) (hen : i + sz t i ≤ t.length) (h1 : 1 ≤ sz t i) (hKlen : (kidsL t i).length ≤ 200) (hKlt : ∀ m ∈ kidsL t i, m < t.length) :
    Calls Try.prog 125 #[.slice a t.length c, .int .i64 i] w (OwnIPost (toI (elsOf t (kidsL t i))) w) := by
  obtain ⟨i0, hinf, hz0, hz1, hz2⟩ := info_parts Try.info3
  have HK := Lib.hid (kids_any a c t ht i i rfl w h hi hl hen h1)
  have HH := Lib.hid h
  have HLt := Lib.hid hKlt
  clear h hl hKlt
  go_enter Try.func125, Try.ntmps125
  go_wp2_with fail
  refine HK.out.mono ?_
  rintro e w1 ⟨ka, kc, rfl, hrs, hb1⟩
  rw [ints_ivs] at hrs
  obtain ⟨K, hK⟩ : ∃ K, K = kidsL t i := ⟨_, rfl⟩
  rw [← hK] at hrs hKlen HLt ⊢
  have HRs := Lib.hid hrs
  have HB1 := Lib.hid hb1
  have HN := Lib.hid (HH.out.up hb1)
  have hsz1 := hb1.size
  have HKE := Lib.hid hK
  clear hK hrs hb1
  go_wp2_with fail
  go_loopw [5, 7] (fun v x wr => ElsRel t K w1.heap.size w1 v x wr) (fun _ x _ => K.length - (intOf x).toNat)
  case atStart => exact ⟨0, none, 0, by omega, rfl, rfl, World.ownsRow_nil _ _ _ _, Below.refl _ _⟩
  case round =>
    obtain ⟨k, a1, c1, hk, rfl, rfl, hown, hb⟩ := hrel
    have hle := elsOf_len t K k
    by_cases hlt : k < K.length
    · obtain ⟨b, o, rfl, hbB, hc⟩ := (HRs.out.up hb).at_ (by show 0 < (ivs (toI K)).length; rw [ivs_length, toI_length]; omega)
      have g1 := hc k (by show k < (ivs (toI K)).length; rw [ivs_length, toI_length]; exact hlt)
      have e1 : (ivs (toI K))[k]'(by rw [ivs_length, toI_length]; exact hlt) = .int .i64 (K[k] : Int) := by
        rw [ivs_at (by rw [toI_length]; exact hlt), toI_at hlt]
      replace g1 := g1.trans (congrArg some e1)
      have hm := HLt.out K[k] (List.getElem_mem hlt)
      obtain ⟨b', o', rfl, hbB', hn⟩ := (HN.out.up hb).at_ (by omega)
      have f1 := (hn K[k] hm).1
      have HEl : Hid (isEl t K[k] = (t[K[k]].kind == 3)) := by
        unfold isEl Hid
        rw [getD_at hm, Bool.eq_iff_iff, decide_eq_true_eq, beq_iff_eq]
      have HJ := Lib.hid (elsOf_take t K k hlt)
      rw [HEl.out] at HJ
      obtain ⟨kd, hkd⟩ : ∃ kd, kd = t[K[k]].kind := ⟨_, rfl⟩
      rw [← hkd] at f1 HJ
      obtain ⟨j, hj⟩ : ∃ j, j = K[k] := ⟨_, rfl⟩
      rw [← hj] at g1 f1 hm HJ
      obtain ⟨L, hL⟩ : ∃ L, L = elsOf t (K.take k) := ⟨_, rfl⟩
      rw [← hL] at hown hle HJ ⊢
      have HW := Lib.hid hown
      have hszr := hb.size
      clear hc e1 hn hkd hj hL hown HEl
      by_cases e3 : kd = 3
      · have z3 : (kd == 3) = true := beq_iff_eq.2 e3
        have HE : Hid (elsOf t (K.take (k + 1)) = L ++ [j]) := by rw [Hid, HJ.out, z3]; rfl
        clear e3 HJ
        go_wp2_with (at_builtin; refine wpList_append_own _ rfl _ _ 37 rfl w1.heap.size 3 i0 (.int .i64 0) 1 8 Try.underlying37 hinf hz0 hz1 hz2 rfl (by decide) _ _ _ rfl (HW.out.alloc _) ⟨wr.heap.size, 0, none⟩ 1 1 [.int .i64 (j : Int)] rfl rfl (cell_one_new _ _ _) (by intro u hu; simp at hu; subst hu; rfl) (by unfold maxLen; omega) (by omega) (by simp; omega) ?_)
        intro v' w2 hown' hgrow _
        obtain ⟨a3, c3, hv2⟩ := own_slice hown'
        rw [hv2] at hown' ⊢
        have hb2 : Below w1.heap.size w1 w2 := (hb.alloc hb.size _).grown hgrow (by simp; omega) (fun q hq => (HW.out.lt q hq).1)
        have HO1 : Hid (w2.ownsRow w1.heap.size 3 1 (.slice a3 (L.length + 1) c3) (L.length + 1) (ivs (toI (L ++ [j])))) := by
          rw [Hid, toI_snoc, ivs_snoc]; exact hown'
        clear hown' hgrow hv2
        go_wp2_with fail
        go_roundw
        case rel => exact ⟨k + 1, a3, c3, by omega, by go_num, by rw [HE.out, List.length_append]; rfl, by rw [HE.out, List.length_append]; exact HO1.out, hb2⟩
        case measure => simp [intOf]; omega
      · have z3 : (kd == 3) = false := beq_eq_false_iff_ne.2 e3
        have HE : Hid (elsOf t (K.take (k + 1)) = L) := by rw [Hid, HJ.out, z3]; simp
        clear e3 HJ
        go_wp2_with fail
        go_roundw
        case rel => exact ⟨k + 1, a1, c1, by omega, by go_num, by rw [HE.out], by rw [HE.out]; exact HW.out, hb⟩
        case measure => simp [intOf]; omega
    · go_wp2_with fail
      go_ret
      have e : k = K.length := by omega
      subst e
      rw [List.take_length] at hown ⊢
      refine ⟨_, rfl, ?_, bnext HB1.out hb⟩
      rw [← HKE.out]
      exact OwnI.of (own_base hown hsz1)

/-- A step without a text. -/
def pickV (op : Int) (a : Option Addr) (n c : Nat) : Array Value := #[.int .i64 op, .string ⟨#[]⟩, .slice a n c, .int .i64 0, .int .i64 0]

set_option maxRecDepth 100000 in
set_option maxHeartbeats 2000000 in
theorem relOf20 (a : Option Addr) (c : Nat) (t : List Nd) (hR : RightP t) (i : Nat) (w : World) (h : NSl w w.heap.size a t) (hi : i < t.length) (hKlen : (kidsL t i).length ≤ 200) (hKlt : ∀ m ∈ kidsL t i, m < t.length) (a3 : Option Addr) (n3 c3 : Nat) :
    Calls Try.prog 90 #[.slice a t.length c, .int .i64 i, .agg #[.int .i64 20, .string ⟨#[]⟩, .slice a3 n3 c3, .int .i64 0, .int .i64 0]] w (ListPost (toI (elsOf t (kidsL t i))) w) := by
  have hlam := hR.lam i (Nat.zero_le _) hi
  have hb0 : Below w.heap.size w (w.alloc (.cells #[.int .i64 20, .string ⟨#[]⟩, .slice a3 n3 c3, .int .i64 0, .int .i64 0] 62)) := (Below.refl _ _).alloc (Nat.le_refl _) _
  have HB0 := Lib.hid hb0
  have HE := Lib.hid (specEls_any a c t hR.le i _ (h.up hb0) hi (hR.lam.node_at (Nat.zero_le _) hi) (by have := hlam.2.2.1; omega) hlam.2.1 hKlen hKlt)
  have hsz := hb0.size
  clear h hb0 hKlt hlam hR
  go_enter Try.func90, Try.ntmps90
  go_wp2_with fail
  refine HE.out.mono ?_
  rintro e w1 ⟨v, rfl, hown, hb1⟩
  have HO := Lib.hid (hown.base hsz)
  have HB1 := Lib.hid (bnext HB0.out hb1)
  clear hown hb1
  go_wp2_with fail
  go_ret2
  exact ⟨v, rfl, HO.out, HB1.out⟩

/-- What is found for each of some nodes, one behind the other. -/
def flatI (fs : Nat → List Nat) (ns : List Nat) : List Int := toI (ns.flatMap fs)
theorem flat_snoc (fs : Nat → List Nat) (ns : List Nat) (i : Nat) : flatI fs (ns ++ [i]) = flatI fs ns ++ toI (fs i) := by
  unfold flatI toI
  rw [List.flatMap_append, List.map_append]
  simp
theorem flat_len (fs : Nat → List Nat) (ns : List Nat) (h : ∀ i ∈ ns, (fs i).length ≤ 200) : (flatI fs ns).length ≤ 200 * ns.length := by
  induction ns using rev_indN with
  | h0 => simp [flatI, toI]
  | h1 l x ih =>
    rw [flat_snoc, List.length_append, toI_length, List.length_append]
    have := ih (fun i hi => h i (by simp [hi]))
    have := h x (by simp)
    simp only [List.length_singleton]
    omega

def RelRel (fs : Nat → List Nat) (ns : List Nat) (B : Nat) (W : World) (v x : Value) (wr : World) : Prop :=
  ∃ (k : Nat) (a : Option Addr) (c : Nat), k ≤ ns.length ∧ x = .int .i64 (k : Nat) ∧ v = .slice a (flatI fs (ns.take k)).length c ∧
    wr.ownsRow B 3 1 (.slice a (flatI fs (ns.take k)).length c) (flatI fs (ns.take k)).length (ivs (flatI fs (ns.take k))) ∧ Below B W wr

structure NoPart (op : Int) : Prop where
  z32 : (op == 32) = false
  z33 : (op == 33) = false
  z34 : (op == 34) = false
  z35 : (op == 35) = false
  z36 : (op == 36) = false
  z37 : (op == 37) = false
  z38 : (op == 38) = false
  z39 : (op == 39) = false

set_option maxRecDepth 100000 in
set_option maxHeartbeats 4000000 in
theorem related_any (op : Int) (hop : NoPart op) (fs : Nat → List Nat) (ad : Option Addr) (n c : Nat) (hn : 0 < n) (a2 : Option Addr) (c2 : Nat) (ns : List Nat) (hns : ∀ k ∈ ns, k < n) (hlen : ns.length ≤ 200) (hfs : ∀ i ∈ ns, (fs i).length ≤ 200) (a3 : Option Addr) (n3 c3 : Nat) (w : World) (h2 : RSl w w.heap.size a2 (ivs (toI ns)))
    (hRel : ∀ W i, Below w.heap.size w W → i < n → Calls Try.prog 90 #[.slice ad n c, .int .i64 (i : Nat), .agg #[.int .i64 op, .string ⟨#[]⟩, .slice a3 n3 c3, .int .i64 0, .int .i64 0]] W (ListPost (toI (fs i)) W)) :
    Calls Try.prog 47 #[.slice ad n c, .slice a2 ns.length c2, .agg #[.int .i64 op, .string ⟨#[]⟩, .slice a3 n3 c3, .int .i64 0, .int .i64 0]] w (ListPost (onceL (flatI fs ns)) w) := by
  have hb0 : Below w.heap.size w (w.alloc (.cells #[.int .i64 op, .string ⟨#[]⟩, .slice a3 n3 c3, .int .i64 0, .int .i64 0] 62)) := (Below.refl _ _).alloc (Nat.le_refl _) _
  have hC : ∀ j v, #[Value.int .i64 op, .string ⟨#[]⟩, .slice a3 n3 c3, .int .i64 0, .int .i64 0][j]? = some v → (w.alloc (.cells #[.int .i64 op, .string ⟨#[]⟩, .slice a3 n3 c3, .int .i64 0, .int .i64 0] 62)).cell? ⟨w.heap.size, j, none⟩ = some v := by
    intro j v hj
    rw [World.cell?_alloc_mark]; exact hj
  have hbl : w.heap.size < (w.alloc (.cells #[.int .i64 op, .string ⟨#[]⟩, .slice a3 n3 c3, .int .i64 0, .int .i64 0] 62)).heap.size := by simp
  obtain ⟨p32, p33, p34, p35, p36, p37, p38, p39⟩ := hop
  have HR := Lib.hid hRel
  have HNs := Lib.hid hns
  have HFs := Lib.hid hfs
  have H2 := Lib.hid (h2.up hb0)
  have HB0 := Lib.hid hb0
  clear hRel hns hfs h2 hb0
  go_enter Try.func47, Try.ntmps47
  go_wp2_with fail
  obtain ⟨W, hW⟩ : ∃ W, W = (w.alloc (.cells #[.int .i64 op, .string ⟨#[]⟩, .slice a3 n3 c3, .int .i64 0, .int .i64 0] 62)) := ⟨_, rfl⟩
  rw [← hW] at HB0 H2 hbl hC ⊢
  have HCl := Lib.hid hC
  clear hW hC
  go_loopw [10, 11] (fun v x wr => RelRel fs ns W.heap.size W v x wr) (fun _ x _ => ns.length - (intOf x).toNat)
  case atStart => exact ⟨0, none, 0, by omega, rfl, rfl, World.ownsRow_nil _ _ _ _, Below.refl _ _⟩
  case round =>
    obtain ⟨k, a1, c1, hk, rfl, rfl, hown, hb⟩ := hrel
    have hfl : (flatI fs (ns.take k)).length ≤ 40000 := by
      have := flat_len fs (ns.take k) (fun i hi => HFs.out i (List.mem_of_mem_take hi))
      simp at this; omega
    have hgc : ∀ j v, #[Value.int .i64 op, .string ⟨#[]⟩, .slice a3 n3 c3, .int .i64 0, .int .i64 0][j]? = some v → wr.cell? ⟨w.heap.size, j, none⟩ = some v := fun j v hj => (hb.cell (p := ⟨w.heap.size, j, none⟩) hbl).trans (HCl.out j v hj)
    have b0 := hgc 0 _ rfl
    have b1 := hgc 1 _ rfl
    have b2 := hgc 2 _ rfl
    have b3 := hgc 3 _ rfl
    have b4 := hgc 4 _ rfl
    clear hgc
    by_cases hlt : k < ns.length
    · obtain ⟨b, o, rfl, hbB, hc⟩ := (H2.out.up hb).at_ (by show 0 < (ivs (toI ns)).length; rw [ivs_length, toI_length]; omega)
      have g1 := hc k (by show k < (ivs (toI ns)).length; rw [ivs_length, toI_length]; exact hlt)
      have e1 : (ivs (toI ns))[k]'(by rw [ivs_length, toI_length]; exact hlt) = .int .i64 (ns[k] : Int) := by
        rw [ivs_at (by rw [toI_length]; exact hlt), toI_at hlt]
      replace g1 := g1.trans (congrArg some e1)
      have hm := HNs.out ns[k] (List.getElem_mem hlt)
      have hfk := HFs.out ns[k] (List.getElem_mem hlt)
      have HJ : Hid (flatI fs (ns.take (k + 1)) = flatI fs (ns.take k) ++ toI (fs ns[k])) := by
        rw [Hid, List.take_succ_eq_append_getElem hlt, flat_snoc]
      have HC := Lib.hid (HR.out wr.drew ns[k] ((HB0.out.trans (hb.mono HB0.out.size)).drew) hm)
      obtain ⟨j, hj⟩ : ∃ j, j = ns[k] := ⟨_, rfl⟩
      rw [← hj] at g1 hm hfk HJ HC
      obtain ⟨F, hF⟩ : ∃ F, F = toI (fs j) := ⟨_, rfl⟩
      have hFl : F.length ≤ 200 := by rw [hF, toI_length]; exact hfk
      rw [← hF] at HJ HC
      obtain ⟨L, hL⟩ : ∃ L, L = flatI fs (ns.take k) := ⟨_, rfl⟩
      rw [← hL] at hown hfl HJ ⊢
      have HW := Lib.hid hown
      have HB := Lib.hid hb
      have hszr := hb.size
      clear hc e1 hj hF hL hown hfk
      go_wp2_with fail
      go_region_law (first
        | (go_simp; go_at_call 90; refine HC.out.mono ?_
           rintro e w1 ⟨v, rfl, hrow, hb1⟩
           obtain ⟨av, cv, rfl, hrs⟩ := hrow.row
           have HRs := Lib.hid hrs
           have HB1 := Lib.hid ((HB.out.drew).trans (hb1.mono hszr))
           have HW1 : Hid (w1.ownsRow W.heap.size 3 1 (.slice a1 L.length c1) L.length (ivs L)) := own_kept (w := wr.drew) HW.out (fun b _ hb => hb1.block b hb)
           have hsz1 : W.heap.size ≤ w1.heap.size := HB1.out.size
           clear hrow hrs hb1))
      all_goals
        go_wp2_with (at_builtin; refine wpList_append_ints w1 rfl _ _ rfl W.heap.size (.slice a1 L.length c1) L rfl HW1.out av cv F rfl HRs.out (by omega) hsz1 ?_)
        intro a4 c4 w2 hown2 hg2 _
        have hb2 : Below W.heap.size W w2 := HB1.out.grown hg2 hsz1 (fun q hq => (HW1.out.lt q hq).1)
        have HO2 := Lib.hid hown2
        clear hown2 hg2 b0 b1 b2 b3 b4 g1
        go_wp2_with fail
        go_roundw
        case rel => exact ⟨k + 1, a4, c4, by omega, by go_num, by rw [HJ.out, List.length_append], by rw [HJ.out, List.length_append]; exact HO2.out, hb2⟩
        case measure => simp [intOf]; omega
    · have HC := Lib.hid (HR.out wr 0 (HB0.out.trans (hb.mono HB0.out.size)) hn)
      have e : k = ns.length := by omega
      have HAll : Hid (flatI fs (ns.take k) = flatI fs ns) := by rw [Hid, e, List.take_length]
      rw [HAll.out] at hown hfl ⊢
      have HRow : Hid (RSl wr wr.heap.size a1 (ivs (flatI fs ns))) := by
        obtain ⟨a5, c5, hv, _, hrs⟩ := RSl.own hown
        cases hv
        exact hrs
      have HB := Lib.hid (HB0.out.trans (hb.mono HB0.out.size))
      clear hown e
      go_wp2_with fail
      refine HC.out.mono ?_
      rintro e w1 ⟨v, rfl, _, hb1⟩
      have HB1 := Lib.hid (HB.out.trans (hb1.mono HB.out.size))
      have HO := Lib.hid (once_any a1 c1 (flatI fs ns) (by omega) w1 (HRow.out.up hb1))
      clear hb1
      go_wp2_with fail
      refine HO.out.mono ?_
      rintro e w2 ⟨v2, rfl, hrow, hb2⟩
      have HO2 := Lib.hid (hrow.base HB1.out.size)
      have HB2 := Lib.hid (bnext HB1.out hb2)
      clear hrow hb2
      go_wp2_with fail
      go_ret2
      exact ⟨v2, rfl, HO2.out, HB2.out⟩
end Go.Proofs.Ytgilbckfkngaiaa
