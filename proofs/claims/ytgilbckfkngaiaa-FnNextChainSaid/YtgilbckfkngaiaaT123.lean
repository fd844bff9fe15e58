/- FnNextChain: the walk. -/
import Derived.Test.YtgilbckfkngaiaaT53
import Derived.Test.YtgilbckfkngaiaaT119
namespace Go.Proofs.Ytgilbckfkngaiaa
open Go.RowKit
set_option linter.unusedVariables false

theorem kid_parJ {t : List Nd} (hR : RightP t) {p i : Nat} (hp : p < t.length) (h : i ∈ kidsL t p) : parJ t i i = some p := by
  obtain ⟨k, hk, rfl⟩ := List.getElem_of_mem h
  have hlam := hR.lam p (Nat.zero_le _) hp
  have h1 := hlam.2.1
  have hL : Lam t (p + 1) (p + sz t p) := by
    intro i q1 q2
    have q3 := hR.lam i (Nat.zero_le _) (by omega)
    exact ⟨q3.1, q3.2.1, hlam.2.2.2 i (by omega) q2, q3.2.2.2⟩
  obtain ⟨s1, s2, s3⟩ := kidsFrom_spec t p (sz t p) (p + 1) (by omega) (by omega) (by omega) (fun m q1 q2 => by omega) hL
  exact isPar_parJ (s3 k hk).1

/-- The elements behind a node: the first one, and those behind that. -/
theorem behind_step {t : List Nd} (hR : RightP t) {i : Nat} (hi : i < t.length) : ∀ x, x ∈ elsOf t (behindL t i) ↔ x ∈ (elsOf t (behindL t i)).take 1 ∨ ∃ j ∈ (elsOf t (behindL t i)).take 1, x ∈ elsOf t (behindL t j) := by
  cases hp : parJ t i i with
  | none =>
    have hb : behindL t i = [] := by unfold behindL; rw [hp]
    rw [hb]; simp [elsOf]
  | some p =>
    obtain ⟨hpi, m, hm, he, hb, _⟩ := kid_place hR hi hp
    cases hE : elsOf t (behindL t i) with
    | nil => simp
    | cons j rest =>
      have hE2 := hE
      unfold elsOf at hE2
      rw [List.filter_eq_cons_iff] at hE2
      obtain ⟨l1, l2, hl, hn, hj, hr⟩ := hE2
      have hjb : j ∈ behindL t i := by rw [hl]; simp
      have hjk : j ∈ kidsL t p := by rw [hb] at hjb; exact List.mem_of_mem_drop hjb
      have hpl : p < t.length := by omega
      have hjt : j < t.length := (kids_facts hR p hpl).2.2 j hjk
      obtain ⟨_, m2, hm2, he2, hb2, _⟩ := kid_place hR hjt (kid_parJ hR hpl hjk)
      have hnd := (kids_facts hR p hpl).2.1
      have hlen : l1.length < ((kidsL t p).drop (m + 1)).length := by rw [← hb, hl]; simp
      rw [List.length_drop] at hlen
      have hat : (kidsL t p)[m + 1 + l1.length] = j := by
        have e1 : ((kidsL t p).drop (m + 1))[l1.length]'(by rw [List.length_drop]; omega) = j := by
          have : (l1 ++ j :: l2)[l1.length]'(by simp) = j := by simp
          rw [← this]
          congr 1
          rw [← hl, hb]
        rw [List.getElem_drop] at e1
        exact e1
      have hmm : m2 = m + 1 + l1.length := (List.getElem_inj hnd).1 (he2.trans hat.symm)
      have hrest : behindL t j = l2 := by
        rw [hb2, hmm]
        have : (kidsL t p).drop (m + 1) = l1 ++ j :: l2 := by rw [← hb]; exact hl
        have e3 : (kidsL t p).drop (m + 1 + l1.length + 1) = ((kidsL t p).drop (m + 1)).drop (l1.length + 1) := by rw [List.drop_drop]; congr 1
        rw [e3, this, show l1.length + 1 = (l1 ++ [j]).length by simp, show l1 ++ j :: l2 = (l1 ++ [j]) ++ l2 by simp, List.drop_left]
      intro x
      have hre : rest = elsOf t l2 := hr.symm
      constructor
      · intro h
        rcases List.mem_cons.1 h with rfl | h
        · exact .inl (by simp)
        · exact .inr ⟨j, by simp, by rw [hrest, ← hre]; exact h⟩
      · rintro (h | ⟨y, hy, h⟩)
        · exact List.mem_of_mem_take h
        · simp at hy
          subst hy
          rw [hrest, ← hre] at h
          exact List.mem_cons_of_mem _ h

theorem mapN_ord {t : List Nd} {N : List Nat} (h1 : N.Nodup) (h2 : ∀ m ∈ N, m < t.length) : OrdP t.length (toI N) N := ⟨rfl, h2, h1⟩

theorem toI_nodup {l : List Nat} (h : l.Nodup) : (toI l).Nodup := by
  unfold toI List.Nodup
  rw [List.pairwise_map]
  exact h.imp (fun h e => h (by omega))

/-- All that follows, and what follows at once with all that follows that. -/
theorem chain_facts {t : List Nd} (hR : RightP t) (ns : List Nat) (hns : ∀ k ∈ ns, k < t.length) (A N M : List Nat) (hA : A = mapN ns (fun i => elsOf t (behindL t i))) (hN : N = mapN ns (fun i => (elsOf t (behindL t i)).take 1)) (hM : M = mapN N (fun i => elsOf t (behindL t i))) :
    (toI A).Nodup ∧ (toI A).length = (onceL (toI N ++ toI M)).length ∧ ∀ x ∈ toI A, x ∈ onceL (toI N ++ toI M) := by
  have hn : (toI A).Nodup := by rw [hA]; exact toI_nodup (mapN_nodup ns _ (fun i hi => (nextAll_facts hR i (hns i hi)).2.1))
  have hm : ∀ x, x ∈ toI A ↔ x ∈ onceL (toI N ++ toI M) := by
    intro x
    rw [onceL_mem, List.mem_append]
    unfold toI
    simp only [List.mem_map, hA, hM]
    simp only [mapN_mem]
    constructor
    · rintro ⟨y, ⟨i, hi, hy⟩, rfl⟩
      rcases (behind_step hR (hns i hi) y).1 hy with h | ⟨j, hj, h⟩
      · exact .inl ⟨y, by rw [hN, mapN_mem]; exact ⟨i, hi, h⟩, rfl⟩
      · exact .inr ⟨y, ⟨j, by rw [hN, mapN_mem]; exact ⟨i, hi, hj⟩, h⟩, rfl⟩
    · rintro (⟨y, hy, rfl⟩ | ⟨y, ⟨j, hj, hy⟩, rfl⟩)
      · rw [hN, mapN_mem] at hy
        obtain ⟨i, hi, h⟩ := hy
        exact ⟨y, ⟨i, hi, (behind_step hR (hns i hi) y).2 (.inl h)⟩, rfl⟩
      · rw [hN, mapN_mem] at hj
        obtain ⟨i, hi, h⟩ := hj
        exact ⟨y, ⟨i, hi, (behind_step hR (hns i hi) y).2 (.inr ⟨j, h, hy⟩)⟩, rfl⟩
  exact ⟨hn, once_len hn (onceL_nodup _) hm, fun x hx => (hm x).1 hx⟩

set_option maxRecDepth 100000 in
set_option maxHeartbeats 4000000 in
theorem FnNextChain_walk (ad : Option Addr) (len c : Nat) (t : List Nd) (a2 : Option Addr) (len2 c2 : Nat) (l : List Int) (w : World) (h : NSl w w.heap.size ad t ∧ len = t.length) (hi : ISl w w.heap.size a2 l ∧ len2 = l.length ∧ len2 ≤ c2) :
    Calls Try.prog 12 #[.slice ad len c, .slice a2 len2 c2] w fun e w' => e = .returned (.bool true) ∧ Below w.heap.size w w' := by
  obtain ⟨h, rfl⟩ := h
  obtain ⟨hi, rfl, hc2⟩ := hi
  have HH := Lib.hid h
  have hll := hi.len
  have HI := Lib.hid hi
  unfold maxLen at hll
  clear h hi
  go_enter Try.func12, Try.ntmps12
  go_wp2_with fail
  refine (zzFits1_any _ _ t _ HH.out).mono ?_
  rintro e w1 ⟨rfl, hb1⟩
  have HB1 := Lib.hid hb1
  clear hb1
  cases hf : fits1 t
  · go_wp2_with fail
    go_ret
    exact ⟨rfl, HB1.out⟩
  · by_cases k1 : 2147483647 < l.length
    · go_wp2_with fail
      go_ret
      exact ⟨rfl, HB1.out⟩
    go_wp2_with fail
    refine (rising_any _ _ t hf _ _ l (by omega) hc2 _ (HH.out.up HB1.out) (HI.out.up HB1.out)).mono ?_
    rintro e w2 ⟨b, rfl, hS, hb2⟩
    have HB2 := Lib.hid (bnext HB1.out hb2)
    have HS0 := Lib.hid hS
    clear hb2 hS
    cases b
    · go_wp2_with fail
      go_ret
      exact ⟨rfl, HB2.out⟩
    obtain ⟨ns, hS1⟩ := HS0.out (by trivial)
    have HS1 := Lib.hid hS1
    have HR := Lib.hid hS1.right
    have hle := hS1.right.le
    have hln := hS1.ord.length
    have hln2 := hS1.ord.len
    have hl200 : l.length ≤ 200 := by omega
    have HAl := Lib.hid (nextAll_all HR.out HS1.out.ord.lt)
    have HNl := Lib.hid (next1_all HR.out HS1.out.ord.lt)
    have HNd := Lib.hid (mapN_nodup ns (fun i => (elsOf t (behindL t i)).take 1) (fun i hi => (next1_facts HR.out i (HS1.out.ord.lt i hi)).2.1))
    obtain ⟨A, hA⟩ : ∃ A, A = mapN ns (fun i => elsOf t (behindL t i)) := ⟨_, rfl⟩
    obtain ⟨N, hN⟩ : ∃ N, N = mapN ns (fun i => (elsOf t (behindL t i)).take 1) := ⟨_, rfl⟩
    obtain ⟨M, hM⟩ : ∃ M, M = mapN N (fun i => elsOf t (behindL t i)) := ⟨_, rfl⟩
    have HFacts := Lib.hid (chain_facts HR.out ns HS1.out.ord.lt A N M hA hN hM)
    rw [← hA] at HAl
    rw [← hN] at HNl HNd
    have HMl := Lib.hid (nextAll_all HR.out (ns := N) HNl.out.2)
    rw [← hM] at HMl
    have HAll : Hid (∀ W, Below w.heap.size w W → Calls Try.prog 53 #[.slice ad t.length c, .slice a2 l.length c2] W (ListPost (toI A) W)) := by
      intro W hW
      have := door_nx ad c t HR.out a2 c2 l ns HS1.out.ord (by omega) W (HH.out.up hW) (HI.out.up hW)
      rw [← hA] at this
      exact this
    have HNext : Hid (∀ W, Below w.heap.size w W → Calls Try.prog 54 #[.slice ad t.length c, .slice a2 l.length c2] W (ListPost (toI N) W)) := by
      intro W hW
      have := door_n1 ad c t HR.out a2 c2 l ns HS1.out.ord (by omega) W (HH.out.up hW) (HI.out.up hW)
      rw [← hN] at this
      exact this
    have HMore : Hid (∀ W a3 c3, Below w.heap.size w W → RSl W W.heap.size a3 (ivs (toI N)) → Calls Try.prog 53 #[.slice ad t.length c, .slice a3 (toI N).length c3] W (ListPost (toI M) W)) := by
      intro W a3 c3 hW hr
      have := door_nx ad c t HR.out a3 c3 (toI N) N (mapN_ord HNd.out HNl.out.2) (by rw [toI_length]; have := HNl.out.1; omega) W (HH.out.up hW) ⟨hr, by rw [toI_length]; unfold maxLen; have := HNl.out.1; omega, fun x hx => by
        unfold toI at hx
        obtain ⟨y, hy, rfl⟩ := List.mem_map.1 hx
        have := HNl.out.2 y hy
        omega⟩
      rw [← hM] at this
      exact this
    have hAl := HAl.out.1
    have hNl := HNl.out.1
    have hMl := HMl.out.1
    clear hS1 hln hln2 HS0 hA hN hM
    go_wp2_with fail
    refine (HAll.out w2 HB2.out).mono ?_
    rintro e w3 ⟨v1, rfl, hown, hb3⟩
    obtain ⟨av1, cv1, rfl, hr1⟩ := hown.row
    have HB3 := Lib.hid (bnext HB2.out hb3)
    have HR1 := Lib.hid hr1
    clear hown hr1 hb3
    go_wp2_with fail
    refine (HNext.out w3 HB3.out).mono ?_
    rintro e w4 ⟨v2, rfl, hown, hb4⟩
    obtain ⟨av2, cv2, rfl, hr2⟩ := hown.row
    have HB4 := Lib.hid (bnext HB3.out hb4)
    have HR2 := Lib.hid hr2
    have HR1 := Lib.hid (HR1.out.up hb4)
    have HC := Lib.hid (HMore.out w4 av2 cv2 HB4.out HR2.out)
    clear hown hr2 hb4
    go_wp2_with fail
    refine HC.out.mono ?_
    rintro e w5 ⟨v3, rfl, hown, hb5⟩
    obtain ⟨av3, cv3, rfl, hr3⟩ := hown.row
    have HB5 := Lib.hid (bnext HB4.out hb5)
    have HR2 := Lib.hid (HR2.out.up hb5)
    have HR1 := Lib.hid (HR1.out.up hb5)
    have HRel := Lib.hid (relAdd_any ad t.length c av2 cv2 (toI N) (by rw [toI_length]; have := HMl.out; omega) av3 cv3 (toI M) (by rw [toI_length]; have := HMl.out; omega) w5 HR2.out hr3)
    clear hown hr3 hb5
    go_wp2_with fail
    refine HRel.out.mono ?_
    rintro e w6 ⟨v4, rfl, hown, hb6⟩
    obtain ⟨av4, cv4, rfl, hr4⟩ := hown.row
    have HB6 := Lib.hid (bnext HB5.out hb6)
    have HR1 := Lib.hid (HR1.out.up hb6)
    have hzl : (onceL (toI N ++ toI M)).length ≤ 1000 := by
      rw [← HFacts.out.2.1, toI_length]; omega
    have HSame := Lib.hid (sameOnce_any av1 cv1 (toI A) av4 cv4 (onceL (toI N ++ toI M)) (by rw [toI_length]; omega) (by omega) HFacts.out.1 HFacts.out.2.1 HFacts.out.2.2 w6 HR1.out hr4)
    obtain ⟨Z, hZ⟩ : ∃ Z, Z = onceL (toI N ++ toI M) := ⟨_, rfl⟩
    rw [← hZ] at HSame ⊢
    clear hown hr4 hb6 hZ hzl
    go_wp2_with fail
    refine HSame.out.mono ?_
    rintro e w7 ⟨rfl, hb7⟩
    have HB7 := Lib.hid (bnext HB6.out hb7)
    clear hb7
    go_wp2_with fail
    go_ret
    exact ⟨rfl, HB7.out⟩
end Go.Proofs.Ytgilbckfkngaiaa
