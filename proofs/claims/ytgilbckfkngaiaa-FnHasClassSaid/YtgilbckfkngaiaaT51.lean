/- Children of a selection: the program's side. -/
import Derived.Test.YtgilbckfkngaiaaT50
import Derived.Test.YtgilbckfkngaiaaT43
namespace Go.Proofs.Ytgilbckfkngaiaa
open Go.RowKit
set_option linter.unusedVariables false

theorem kids_facts {t : List Nd} (hR : RightP t) (i : Nat) (hi : i < t.length) : (kidsL t i).length ≤ 200 ∧ (kidsL t i).Nodup ∧ ∀ m ∈ kidsL t i, m < t.length := by
  have hlam := hR.lam i (Nat.zero_le _) hi
  have h1 := kidsFrom_len t (i + sz t i) (sz t i) (i + 1)
  have hlt : ∀ m ∈ kidsL t i, m < t.length := by
    intro m hm
    have := kidsFrom_lt t (i + sz t i) (sz t i) (i + 1) m hm
    omega
  have hnd : (kidsL t i).Nodup := by
    have hL : Lam t (i + 1) (i + sz t i) := by
      intro j q1 q2
      have q3 := hR.lam j (Nat.zero_le _) (by omega)
      exact ⟨q3.1, q3.2.1, hlam.2.2.2 j (by omega) q2, q3.2.2.2⟩
    obtain ⟨s1, s2, s3⟩ := kidsFrom_spec t i (sz t i) (i + 1) (by omega) (by have := hlam.2.1; omega) (by have := hlam.2.1; omega) (fun m q1 q2 => by omega) hL
    have e : kidsL t i = kidsFrom t (sz t i) (i + 1) (i + sz t i) := rfl
    rw [← e] at s1 s2 s3
    have hasc : ∀ d k (h : k + d + 1 < (kidsL t i).length), (kidsL t i)[k]'(by omega) < (kidsL t i)[k + d + 1] := by
      intro d
      induction d with
      | zero =>
        intro k h
        have h2 := (s3 k (by omega)).2.2 (by omega)
        have h3 := (hR.lam _ (Nat.zero_le _) (hlt _ (List.getElem_mem (show k < (kidsL t i).length by omega)))).2.1
        show (kidsL t i)[k] < (kidsL t i)[k + 1]
        omega
      | succ d ih =>
        intro k h
        have a1 := ih k (by omega)
        have h2 := (s3 (k + d + 1) (by omega)).2.2 (by omega)
        have h3 := (hR.lam _ (Nat.zero_le _) (hlt _ (List.getElem_mem (show k + d + 1 < (kidsL t i).length by omega)))).2.1
        show (kidsL t i)[k] < (kidsL t i)[k + d + 1 + 1]
        omega
    unfold List.Nodup
    rw [List.pairwise_iff_getElem]
    intro a b ha hb hab e2
    have := hasc (b - a - 1) a (by omega)
    have e3 : a + (b - a - 1) + 1 = b := by omega
    simp only [e3] at this
    omega
  have hle := hR.le
  exact ⟨Nat.le_trans (nodup_len hnd hlt) hle, hnd, hlt⟩

theorem els_facts {t : List Nd} (hR : RightP t) (i : Nat) (hi : i < t.length) : (∀ m ∈ elsOf t (kidsL t i), m < t.length) ∧ (elsOf t (kidsL t i)).Nodup ∧ (elsOf t (kidsL t i)).length ≤ 200 := by
  obtain ⟨h1, h2, h3⟩ := kids_facts hR i hi
  exact ⟨fun m hm => h3 m (List.mem_filter.1 hm).1, h2.filter _, Nat.le_trans (List.length_filter_le _ _) h1⟩

theorem gatherT_any {t : List Nd} (hR : RightP t) {w : World} {B L : Nat} {bl : Nat → Nat} {st : Nat → Dn} (hT : Tree t w B L bl st) (i : Nat) (hi : i < t.length) :
    Calls Try.prog 158 #[.pointer (some ⟨bl i, 0, none⟩), .int .i64 0, .pointer none, .nilFunc] w (OwnNPost bl (elsOf t (kidsL t i)) w) := by
  have hK := kids_at hR hT.kin hi
  obtain ⟨f1, f2, f3⟩ := kids_facts hR i hi
  refine gather_any t bl st i (kidsL t i) f1 w (hT.dom.lt hi) (fun k h => hT.dom.lt (hK.lt k h)) ?_ (fun k h => ?_) (fun k h => ?_) (fun a b ha hb e => hK.inj a b ha hb (hT.dom.inj _ _ (hK.lt a ha) (hK.lt b hb) e))
  · have := (hT.dom.cells hi).2.2.1
    rw [hK.fst] at this
    exact this
  · have := (hT.dom.cells (hK.lt k h)).2.2.2.2.2.1
    rw [hK.nxt k h] at this
    exact this
  · refine ⟨_, (hT.dom.cells (hK.lt k h)).2.2.2.2.2.2.1, ?_⟩
    unfold isEl
    rw [Bool.eq_iff_iff, decide_eq_true_eq, beq_iff_eq]
    exact hK.typ k h

set_option maxRecDepth 100000 in
set_option maxHeartbeats 1000000 in
theorem kids1_any {t : List Nd} (hR : RightP t) {w : World} {B L : Nat} {bl : Nat → Nat} {st : Nat → Dn} (hT : Tree t w B L bl st) (b : Nat) (hb : w.cell? ⟨b, 0, none⟩ = some (.int .i64 0)) (hbl : b < w.heap.size) :
    Gives_kids bl t.length (fun i => elsOf t (kidsL t i)) (some ⟨b, 0, none⟩) w := by
  intro W i k hW hi hk
  have g := (hW.cell (p := ⟨b, 0, none⟩) hbl).trans hb
  have HG := Lib.hid (gatherT_any hR (hT.kept hW) i hi)
  clear hb hT hR hW
  go_enter Try.func159, Try.ntmps159
  go_wp2_with fail
  refine HG.out.mono ?_
  rintro e w1 ⟨v, rfl, hown, hb1⟩
  have HO := Lib.hid hown
  have HB1 := Lib.hid hb1
  clear hown hb1
  go_wp2_with fail
  go_ret
  exact ⟨_, rfl, HO.out, HB1.out⟩

set_option maxRecDepth 100000 in
set_option maxHeartbeats 1000000 in
theorem getKids_any {t : List Nd} (hR : RightP t) {w : World} {B L : Nat} {bl : Nat → Nat} {st : Nat → Dn} (hT : Tree t w B L bl st) (ns : List Nat) (hns : ∀ k ∈ ns, k < t.length) (hlen : ns.length ≤ 400) (a : Option Addr) (c : Nat) (h : RSl w w.heap.size a (ptrs bl ns)) :
    Calls Try.prog 133 #[.slice a ns.length c, .int .i64 0] w (OwnNPost bl (mapN ns fun i => elsOf t (kidsL t i)) w) := by
  have hmf : ∀ (fn : Fn) (first cap : Array Value) (w : World), (Instr.makeFunc fn first cap).run Try.prog w = .ok (.func fn first cap) w := fun _ _ _ _ => rfl
  obtain ⟨W, hW⟩ : ∃ W, W = w.alloc (.cells #[.int .i64 0] 151) := ⟨_, rfl⟩
  have hb0 : Below w.heap.size w W := by rw [hW]; exact (Below.refl _ _).alloc (Nat.le_refl _) _
  have hbox : W.cell? ⟨w.heap.size, 0, none⟩ = some (.int .i64 0) := by rw [hW, World.cell?_alloc_mark]; rfl
  have hlt : w.heap.size < W.heap.size := by rw [hW]; simp
  have hT1 := hT.kept hb0
  have HM := Lib.hid (mapNodes_kids bl t.length ns (fun i => elsOf t (kidsL t i)) hns (fun i hi => els_facts hR i hi) hR.le hlen a c (some ⟨w.heap.size, 0, none⟩) W (h.up hb0) hT1.nodes (kids1_any hR hT1 w.heap.size hbox hlt))
  have HB0 := Lib.hid hb0
  have HW := Lib.hid hW
  have hszW := hb0.size
  clear hb0 hbox hT1 hT hns h hR hW hlt
  go_enter Try.func133, Try.ntmps133
  go_wp2_with fail
  rw [← HW.out]
  refine HM.out.mono ?_
  rintro e w1 ⟨v, rfl, ⟨a1, c1, rfl, hown⟩, hb1⟩
  have HO := Lib.hid (own_base hown hszW)
  have HB1 := Lib.hid (bnext HB0.out hb1)
  clear hown hb1
  go_wp2_with fail
  go_ret
  exact ⟨_, rfl, ⟨a1, c1, rfl, HO.out⟩, HB1.out⟩

set_option maxRecDepth 100000 in
set_option maxHeartbeats 1000000 in
theorem children_any {t : List Nd} (hR : RightP t) {w : World} {B0 B L : Nat} {bl : Nat → Nat} {st : Nat → Dn} (hT : Tree t w B0 L bl st) (ns : List Nat) (hns : ∀ k ∈ ns, k < t.length) (hlen : ns.length ≤ 400) (g : Nat) (doc : Option Addr) (hs : SelOf bl ns B g doc w) :
    Calls Try.prog 98 #[.pointer (some ⟨g, 0, none⟩)] w (AddPost bl (mapN ns fun i => elsOf t (kidsL t i)) doc w) := by
  obtain ⟨a, c, prev, hs1, _, hown, _⟩ := hs
  have hrs : RSl w w.heap.size a (ptrs bl ns) := by
    obtain ⟨a1, c1, hv, _, hrs⟩ := RSl.own hown
    cases hv
    exact hrs
  obtain ⟨c0, _, _⟩ := hs1.cells
  have HK := Lib.hid (getKids_any hR hT ns hns hlen a c hrs)
  have HS := Lib.hid hs1
  obtain ⟨M, hM⟩ : ∃ M, M = mapN ns fun i => elsOf t (kidsL t i) := ⟨_, rfl⟩
  rw [← hM] at HK ⊢
  clear hs1 hown hrs hT hns hM hR
  go_enter Try.func98, Try.ntmps98
  go_wp2_with fail
  refine HK.out.mono ?_
  rintro e w1 ⟨v, rfl, ⟨a1, c1, rfl, hown⟩, hb⟩
  have HO := Lib.hid hown
  have HB := Lib.hid hb
  clear hown hb
  go_wp2_with fail
  refine (push_any g a ns.length c doc prev a1 _ c1 w1 (HS.out.below HB.out HS.out.lt)).mono ?_
  rintro e w2 ⟨rfl, hs2, hb2⟩
  have HS2 := Lib.hid hs2
  have HB2 := Lib.hid hb2
  clear hs2 hb2
  go_wp2_with fail
  go_ret
  exact ⟨_, rfl, ⟨a1, c1, _, HS2.out, HB.out.size, own_kept HO.out (fun b _ hb => HB2.out.block b hb), _, rfl⟩, bnext HB.out HB2.out⟩

theorem mapN_all {t : List Nd} (hR : RightP t) {ns : List Nat} (hns : ∀ k ∈ ns, k < t.length) : (mapN ns fun i => elsOf t (kidsL t i)).length ≤ t.length ∧ ∀ m ∈ mapN ns fun i => elsOf t (kidsL t i), m < t.length :=
  mapN_facts hR.le (fun i hi => els_facts hR i hi) ns hns

set_option maxRecDepth 100000 in
set_option maxHeartbeats 2000000 in
theorem childrenOf_any (a : Option Addr) (c : Nat) (t : List Nd) (hR : RightP t) (ad : Option Addr) (c2 : Nat) (l : List Int) (ns : List Nat) (ho : OrdP t.length l ns) (hl : l.length ≤ 2147483647) (w : World) (h : NSl w w.heap.size a t) (hi : ISl w w.heap.size ad l) :
    Calls Try.prog 57 #[.slice a t.length c, .slice ad l.length c2] w (ListPost (toI (mapN ns fun i => elsOf t (kidsL t i))) w) := by
  have HC := Lib.hid (chosen_any a c t hR ad c2 l ns ho hl w h hi)
  have HR := Lib.hid hR
  have HO := Lib.hid ho
  have hnl := ho.len
  have hle := hR.le
  have HMf := Lib.hid (mapN_all hR ho.lt)
  have HNL := Lib.hid (show ns.length ≤ 400 by omega)
  obtain ⟨M, hM⟩ : ∃ M, M = mapN ns fun i => elsOf t (kidsL t i) := ⟨_, rfl⟩
  have HM := Lib.hid hM
  rw [← hM] at HMf ⊢
  clear hR ho h hi hnl hl hM
  go_enter Try.func57, Try.ntmps57
  go_wp2_with fail
  refine HC.out.mono ?_
  rintro e w1 ⟨L, bl, st, g, doc, rfl, hL, hT, hsel, hb1⟩
  have HCh := Lib.hid (children_any HR.out hT ns HO.out.lt HNL.out g doc hsel)
  rw [← HM.out] at HCh
  have HT := Lib.hid hT
  have HB1 := Lib.hid hb1
  clear hT hsel hb1
  go_wp2_with fail
  refine HCh.out.mono ?_
  rintro e w2 ⟨g2, rfl, hsel2, hb2⟩
  obtain ⟨a5, c5, g0, hrs⟩ := hsel2.places
  have HRs := Lib.hid hrs
  have HB2 := Lib.hid (bnext HB1.out hb2)
  have HT2 := Lib.hid (HT.out.kept hb2)
  have hL2 := Nat.lt_of_lt_of_le hL hb2.size
  clear hsel2 hrs hb2
  go_wp2_with fail
  refine (placesOf_any bl t.length L hle M HMf.out.2 (by have := HMf.out.1; omega) a5 c5 w2 hL2 HT2.out.nodes (fun j hj => HT2.out.cell j hj) HRs.out).mono ?_
  rintro e w3 ⟨v, rfl, hown4, hb4⟩
  have HO4 := Lib.hid (hown4.base HB2.out.size)
  have HB4 := Lib.hid (bnext HB2.out hb4)
  clear hown4 hb4
  go_wp2_with fail
  go_ret2
  exact ⟨v, rfl, HO4.out, HB4.out⟩
end Go.Proofs.Ytgilbckfkngaiaa
