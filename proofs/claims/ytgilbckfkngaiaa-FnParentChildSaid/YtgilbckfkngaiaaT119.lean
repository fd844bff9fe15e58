/- Next, NextAll, Prev of nodes: closures, selections, doors. (Printed by gen119.py.) -/
import Derived.Test.YtgilbckfkngaiaaT118
namespace Go.Proofs.Ytgilbckfkngaiaa
open Go.RowKit
set_option linter.unusedVariables false

/-- The chains of pointers beside a node. -/
theorem chain_next {t : List Nd} (hR : RightP t) {w : World} {B L : Nat} {bl : Nat → Nat} {st : Nat → Dn} (hT : Tree t w B L bl st) (i : Nat) (hi : i < t.length) :
    w.cell? ⟨bl i, 4, none⟩ = some (ptrK bl (behindL t i) 0) ∧ ∀ k (h : k < (behindL t i).length), w.cell? ⟨bl (behindL t i)[k], 4, none⟩ = some (ptrK bl (behindL t i) (k + 1)) := by
  cases hp : parJ t i i with
  | none =>
    have h0 : i = 0 := by
      rcases Nat.eq_zero_or_pos i with e | e
      · exact e
      · obtain ⟨q, hq⟩ := parJ_some (t := t) (i := i) (p := 0) (by rw [hR.top]; omega) e
        rw [hp] at hq; cases hq
    have hb : behindL t i = [] := by unfold behindL; rw [hp]
    rw [hb]
    refine ⟨?_, fun k h => absurd h (by simp)⟩
    have := (hT.dom.cells hi).2.2.2.2.2.1
    rw [((hT.kin i hi).1.root h0).2.2] at this
    exact this
  | some p =>
    obtain ⟨hpi, m, hm, he, hb, _⟩ := kid_place hR hi hp
    have hK := kids_at hR hT.kin (show p < t.length by omega)
    rw [hb]
    constructor
    · have := (hT.dom.cells hi).2.2.2.2.2.1
      rw [← he, hK.nxt m hm] at this
      rw [← he, this]
      unfold ptrK
      rw [List.getElem?_drop]
      rfl
    · intro k h
      have hk2 : m + 1 + k < (kidsL t p).length := by rw [List.length_drop] at h; omega
      have := (hT.dom.cells (hK.lt (m + 1 + k) hk2)).2.2.2.2.2.1
      rw [hK.nxt _ hk2] at this
      rw [List.getElem_drop, this]
      unfold ptrK
      rw [List.getElem?_drop]
      rfl
theorem chain_prev {t : List Nd} (hR : RightP t) {w : World} {B L : Nat} {bl : Nat → Nat} {st : Nat → Dn} (hT : Tree t w B L bl st) (i : Nat) (hi : i < t.length) :
    w.cell? ⟨bl i, 3, none⟩ = some (ptrK bl (aheadL t i) 0) ∧ ∀ k (h : k < (aheadL t i).length), w.cell? ⟨bl (aheadL t i)[k], 3, none⟩ = some (ptrK bl (aheadL t i) (k + 1)) := by
  cases hp : parJ t i i with
  | none =>
    have h0 : i = 0 := by
      rcases Nat.eq_zero_or_pos i with e | e
      · exact e
      · obtain ⟨q, hq⟩ := parJ_some (t := t) (i := i) (p := 0) (by rw [hR.top]; omega) e
        rw [hp] at hq; cases hq
    have hb : aheadL t i = [] := by unfold aheadL; rw [hp]
    rw [hb]
    refine ⟨?_, fun k h => absurd h (by simp)⟩
    have := (hT.dom.cells hi).2.2.2.2.1
    rw [((hT.kin i hi).1.root h0).2.1] at this
    exact this
  | some p =>
    obtain ⟨hpi, m, hm, he, _, hb⟩ := kid_place hR hi hp
    have hK := kids_at hR hT.kin (show p < t.length by omega)
    have hlen : ((kidsL t p).take m).reverse.length = m := by simp; omega
    have hat : ∀ k, k < m → ((kidsL t p).take m).reverse[k]? = (kidsL t p)[m - 1 - k]? := by
      intro k hk
      rw [List.getElem?_reverse (by simp; omega), List.length_take, Nat.min_eq_left (by omega), List.getElem?_take_of_lt (by omega)]
    have hend : ∀ k, m ≤ k → ((kidsL t p).take m).reverse[k]? = none := fun k hk => List.getElem?_eq_none (by omega)
    rw [hb]
    constructor
    · have := (hT.dom.cells hi).2.2.2.2.1
      rw [← he, hK.prv m hm] at this
      rw [← he, this]
      unfold ptrK
      by_cases e : m = 0
      · subst e; rw [if_pos rfl, hend 0 (by omega)]; rfl
      · rw [if_neg e, hat 0 (by omega)]; rfl
    · intro k h
      have hk2 : k < m := by rw [hlen] at h; exact h
      have hk3 : m - 1 - k < (kidsL t p).length := by omega
      have hg : ((kidsL t p).take m).reverse[k] = (kidsL t p)[m - 1 - k] := by
        have := hat k hk2
        rw [List.getElem?_eq_getElem h, List.getElem?_eq_getElem hk3] at this
        exact Option.some.inj this
      have := (hT.dom.cells (hK.lt (m - 1 - k) hk3)).2.2.2.2.1
      rw [hK.prv _ hk3] at this
      rw [hg, this]
      unfold ptrK
      by_cases e : m - 1 - k = 0
      · rw [if_pos e, hend (k + 1) (by omega)]; rfl
      · rw [if_neg e, hat (k + 1) (by omega), show m - 1 - (k + 1) = m - 1 - k - 1 by omega]; rfl

theorem els_sub {t : List Nd} {K : List Nat} (h1 : K.Nodup) (h2 : ∀ m ∈ K, m < t.length) (h3 : K.length ≤ 200) : (∀ m ∈ elsOf t K, m < t.length) ∧ (elsOf t K).Nodup ∧ (elsOf t K).length ≤ 200 :=
  ⟨fun m hm => h2 m (List.mem_filter.1 hm).1, h1.filter _, Nat.le_trans (List.length_filter_le _ _) h3⟩
theorem els_one {t : List Nd} {l : List Nat} (h : (∀ m ∈ l, m < t.length) ∧ l.Nodup ∧ l.length ≤ 200) : (∀ m ∈ l.take 1, m < t.length) ∧ (l.take 1).Nodup ∧ (l.take 1).length ≤ 200 :=
  ⟨fun m hm => h.1 m (List.mem_of_mem_take hm), h.2.1.sublist (List.take_sublist _ _), by rw [List.length_take]; omega⟩

/-- What a closure gives for a node. -/
def Gives_sib (bl : Nat → Nat) (n : Nat) (fs : Nat → List Nat) (x0 : Option Addr) (x1 : Option Addr) (w : World) : Prop :=
  ∀ (W : World) (i k : Nat), Below w.heap.size w W → i < n → k ≤ 100000 → Calls Try.prog 157 #[.int .i64 k, .pointer (some ⟨bl i, 0, none⟩), .pointer x0, .pointer x1] W (OwnNPost bl (fs i) W)

set_option maxRecDepth 100000 in
set_option maxHeartbeats 2000000 in
theorem mapNodes_sib (bl : Nat → Nat) (n : Nat) (ns : List Nat) (fs : Nat → List Nat) (hns : ∀ k ∈ ns, k < n) (hfs : ∀ i, i < n → (∀ m ∈ fs i, m < n) ∧ (fs i).Nodup ∧ (fs i).length ≤ 200) (hn : n ≤ 200) (hlen : ns.length ≤ 400) (a : Option Addr) (c : Nat) (x0 : Option Addr) (x1 : Option Addr) (w : World) (h : RSl w w.heap.size a (ptrs bl ns)) (hN : NodesAt bl n w) (hF : Gives_sib bl n fs x0 x1 w) :
    Calls Try.prog 153 #[.slice a ns.length c, .func (.func 157) #[] #[.pointer x0, .pointer x1]] w (OwnNPost bl (mapN ns fs) w) := by
  have hmk : ∀ (m : Int) (w : World), (Instr.makeMap 184 (some (.int .i64 m))).run Try.prog w = .ok (.map (some w.heap.size)) (w.alloc (.map #[] 0)) := fun m w => run_makeMap_hint _ _ _ _ _ Try.underlying184 w
  have HH := Lib.hid h
  have HN := Lib.hid hN
  have HF := Lib.hid hF
  have HNs := Lib.hid hns
  have HFs := Lib.hid hfs
  clear h hN hF hns hfs
  by_cases h0 : ns.length = 0
  · have hz : ((ns.length : Int) == 0) = true := beq_iff_eq.2 (by omega)
    have HE : Hid (mapN ns fs = []) := by rw [Hid, List.eq_nil_of_length_eq_zero h0]; rfl
    clear h0 hmk
    go_enter Try.func153, Try.ntmps153
    go_wp2_with fail
    all_goals
      go_ret
      refine ⟨_, rfl, ?_, Below.refl _ _⟩
      rw [HE.out]
      exact ⟨none, 0, rfl, World.ownsRow_nil _ _ _ _⟩
  · have hz : ((ns.length : Int) == 0) = false := beq_eq_false_iff_ne.2 (by omega)
    have hpos : 0 < ns.length := by omega
    clear h0
    by_cases h1 : ns.length = 1
    · have hz1 : ((ns.length : Int) == 1) = true := beq_iff_eq.2 (by omega)
      obtain ⟨b, o, rfl, hbB, hc⟩ := HH.out.at_ (by rw [ptrs_length]; omega)
      have g1 := hc 0 (by rw [ptrs_length]; exact hpos)
      rw [ptrs_at hpos, Nat.add_zero] at g1
      have hi := HNs.out ns[0] (List.getElem_mem hpos)
      have HE : Hid (mapN ns fs = fs ns[0]) := by
        have e : ns = [ns[0]] := by
          apply List.ext_getElem
          · simp; omega
          · intro i q1 q2
            have : i = 0 := by omega
            subst this; rfl
        rw [Hid]
        conv => lhs; rw [e]
        show addN [] (fs ns[0]) = _
        simp [addN]
      have HC := Lib.hid (HF.out w ns[0] 0 (Below.refl _ _) hi (by omega))
      obtain ⟨j, hj⟩ : ∃ j, j = ns[0] := ⟨_, rfl⟩
      rw [← hj] at g1 HE HC
      clear hc hj h1 hmk hi
      rw [HE.out]
      go_enter Try.func153, Try.ntmps153
      go_wp2_with fail
      refine HC.out.mono ?_
      rintro e w1 ⟨v, rfl, hown, hb1⟩
      have HO := Lib.hid hown
      have HB1 := Lib.hid hb1
      clear hown hb1
      obtain ⟨a1, c1, rfl, hown⟩ := HO.out
      clear hown
      go_wp2_with fail
      go_ret
      exact ⟨_, rfl, HO.out, HB1.out⟩
    · have hz1 : ((ns.length : Int) == 1) = false := beq_eq_false_iff_ne.2 (by omega)
      clear h1
      have hb0 : Below w.heap.size w (w.alloc (.map #[] 0)) := (Below.refl _ _).alloc (Nat.le_refl _) _
      have HB0 := Lib.hid hb0
      have HP0 := Lib.hid (PSet.new bl w)
      clear hb0
      go_enter Try.func153, Try.ntmps153
      go_wp2_with fail
      go_loopw [4, 25] (fun v x wr => MapRel bl ns fs w v x wr) (fun _ x _ => ns.length - (intOf x).toNat)
      case atStart => exact ⟨0, none, 0, by omega, rfl, rfl, World.ownsRow_nil _ _ _ _, HP0.out, HB0.out⟩
      case round =>
        clear hmk
        obtain ⟨k, a1, c1, hk, rfl, rfl, hown, hps, hb⟩ := hrel
        by_cases hlt : k < ns.length
        · obtain ⟨b, o, rfl, hbB, hc⟩ := HH.out.at_ (by rw [ptrs_length]; omega)
          have g1 := hc k (by rw [ptrs_length]; exact hlt)
          rw [ptrs_at hlt] at g1
          replace g1 := (hb.cell (p := ⟨b, _, none⟩) hbB).trans g1
          have hi := HNs.out ns[k] (List.getElem_mem hlt)
          have HC := Lib.hid (HF.out wr ns[k] k hb hi (by omega))
          have HFk := Lib.hid (HFs.out ns[k] hi)
          have HJ : Hid (mapN (ns.take (k + 1)) fs = addN (mapN (ns.take k) fs) (fs ns[k])) := by
            rw [Hid, List.take_succ_eq_append_getElem hlt, mapN_snoc]
          have hMl : (mapN (ns.take k) fs).length ≤ n ∧ ∀ m ∈ mapN (ns.take k) fs, m < n :=
            mapN_facts hn HFs.out _ (fun x hx => HNs.out x (List.mem_of_mem_take hx))
          obtain ⟨j, hj⟩ : ∃ j, j = ns[k] := ⟨_, rfl⟩
          rw [← hj] at g1 HC HFk HJ
          obtain ⟨L, hLL⟩ : ∃ L, L = mapN (ns.take k) fs := ⟨_, rfl⟩
          rw [← hLL] at hown hps hMl HJ ⊢
          have HLm := Lib.hid hMl.2
          have hLl := hMl.1
          have HW := Lib.hid hown
          have HPs := Lib.hid hps
          have HB := Lib.hid hb
          have hsz := hb.size
          clear hc hj hown hps hLL hMl hi hb
          go_wp2_with fail
          refine HC.out.mono ?_
          rintro e w1 ⟨v, rfl, ⟨a2, c2, rfl, hvals⟩, hb1⟩
          obtain ⟨M, hM⟩ : ∃ M, M = fs j := ⟨_, rfl⟩
          rw [← hM] at hvals HFk HJ ⊢
          have hMl := HFk.out.2.2
          have HB1 := Lib.hid (bnext HB.out hb1)
          have HPs1 := Lib.hid (HPs.out.block (hb1.block _ HPs.out.lt))
          have HW1 := Lib.hid (own_kept HW.out (fun b _ hb => hb1.block b hb))
          have hsz1 := hb1.size
          by_cases hm0 : M.length = 0
          · have HE : Hid (mapN (ns.take (k + 1)) fs = L) := by
              rw [Hid, HJ.out, List.eq_nil_of_length_eq_zero hm0]; simp [addN]
            clear HJ hM hvals hb1
            have hzm : ¬ (0 : Int) < (M.length : Int) := by omega
            clear hm0
            go_wp2_with fail
            go_roundw
            case rel => exact ⟨k + 1, a1, c1, by omega, by go_num, by rw [HE.out], by rw [HE.out]; exact HW1.out, by rw [HE.out]; exact HPs1.out, HB1.out⟩
            case measure => simp [intOf]; omega
          · have hzm : (0 : Int) < (M.length : Int) := by omega
            have hrow : RSl w1 w1.heap.size a2 (ptrs bl M) := by
              obtain ⟨a3, c3, hv, _, hrs⟩ := RSl.own hvals
              cases hv
              exact hrs
            have HD := Lib.hid (dupS_any bl n w.heap.size L M HLm.out HFk.out.1 HFk.out.2.1 (by omega) (by omega) a1 c1 a2 c2 w.heap.size w1 HB1.out.size HW1.out hrow (fun b o e => by
              have hbg : wr.heap.size ≤ b := by
                rcases hvals.2 with ⟨hv, _⟩ | ⟨g', cap, cur, hv, hg, _⟩
                · rw [e] at hv; cases hv
                · rw [e] at hv; cases hv; exact hg
              refine ⟨fun e2 => ?_, ?_⟩
              · have := (HW.out.lt b e2.symm).2; omega
              · have := HPs.out.lt; omega) (HN.out.kept HB1.out) HPs1.out)
            clear hM hvals hb1 hrow hm0
            go_wp2_with fail
            refine HD.out.mono ?_
            rintro e w2 ⟨a3, c3, rfl, hown3, hps3, hk3, _⟩
            have HB2 : Hid (Below w.heap.size w w2) := HB1.out.trans (hk3.below HB1.out.size (fun q hq => (HW1.out.lt q hq).1) (Nat.le_refl _))
            have HO3 := Lib.hid hown3
            have HPs3 := Lib.hid hps3
            clear hown3 hps3 hk3
            go_wp2_with fail
            go_roundw
            case rel => exact ⟨k + 1, a3, c3, by omega, by go_num, by rw [HJ.out], by rw [HJ.out]; exact HO3.out, by rw [HJ.out]; exact HPs3.out, HB2.out⟩
            case measure => simp [intOf]; omega
        · go_wp2_with fail
          go_ret
          have e : k = ns.length := by omega
          subst e
          rw [List.take_length] at hown ⊢
          exact ⟨_, rfl, ⟨a1, c1, rfl, hown⟩, hb⟩


theorem nextAll_facts {t : List Nd} (hR : RightP t) (i : Nat) (hi : i < t.length) : (∀ m ∈ elsOf t (behindL t i), m < t.length) ∧ (elsOf t (behindL t i)).Nodup ∧ (elsOf t (behindL t i)).length ≤ 200 := by
  obtain ⟨n1, n2, n3, m1, m2, m3, l1, l2, l3⟩ := beside_mem hR hi
  exact (els_sub n1 m1 l1)

theorem gatherT_nx {t : List Nd} (hR : RightP t) {w : World} {B L : Nat} {bl : Nat → Nat} {st : Nat → Dn} (hT : Tree t w B L bl st) (i : Nat) (hi : i < t.length) (pa : Option Addr) :
    Calls Try.prog 158 #[.pointer pa, .int .i64 2, .pointer (some ⟨bl i, 0, none⟩), .nilFunc] w (OwnNPost bl (elsOf t (behindL t i)) w) := by
  obtain ⟨n1, n2, n3, m1, m2, m3, l1, l2, l3⟩ := beside_mem hR hi
  obtain ⟨c1, c2⟩ := chain_next hR hT i hi
  refine gather_nx t bl st i pa (behindL t i) l1 w (hT.dom.lt hi) (fun k h => hT.dom.lt (m1 _ (List.getElem_mem h))) c1 c2 (fun k h => hT.typ_ hR _ (m1 _ (List.getElem_mem h))) (fun a b ha hb e => ?_)
  have := hT.dom.inj _ _ (m1 _ (List.getElem_mem ha)) (m1 _ (List.getElem_mem hb)) e
  exact (List.getElem_inj n1).1 this

set_option maxRecDepth 100000 in
set_option maxHeartbeats 2000000 in
theorem sib1_nx {t : List Nd} (hR : RightP t) {w : World} {B L : Nat} {bl : Nat → Nat} {st : Nat → Dn} (hT : Tree t w B L bl st) (b0 b1 : Nat) (h0 : w.cell? ⟨b0, 0, none⟩ = some (.int .i64 2)) (h1 : w.cell? ⟨b1, 0, none⟩ = some .nilFunc) (l0 : b0 < w.heap.size) (l1 : b1 < w.heap.size) :
    Gives_sib bl t.length (fun i => elsOf t (behindL t i)) (some ⟨b0, 0, none⟩) (some ⟨b1, 0, none⟩) w := by
  intro W i k hW hi hk
  have g0 := (hW.cell (p := ⟨b0, 0, none⟩) l0).trans h0
  have g1 := (hW.cell (p := ⟨b1, 0, none⟩) l1).trans h1
  have hT1 := hT.kept hW
  have gp := hT1.up_ i hi
  obtain ⟨o, ho⟩ : ∃ o, o = parJ t i i := ⟨_, rfl⟩
  rw [← ho] at gp
  have HG := Lib.hid (gatherT_nx hR (hT1.kept ((Below.refl W.heap.size W).drew)) i hi (o.map fun j => ⟨bl j, 0, none⟩))
  have gp' : W.cell? ⟨bl i, 0, none⟩ = some (.pointer (o.map fun j => ⟨bl j, 0, none⟩)) := gp
  obtain ⟨F, hF⟩ : ∃ F, F = elsOf t (behindL t i) := ⟨_, rfl⟩
  rw [← hF] at HG
  rw [show (fun i => elsOf t (behindL t i)) i = F from hF.symm]
  clear h0 h1 hT hT1 hR hW gp ho l0 l1 hF
  go_enter Try.func157, Try.ntmps157
  go_wp2_with fail
  go_region_law (first
    | (go_simp; go_at_call 158; refine HG.out.mono ?_
       rintro e w1 ⟨v, rfl, hown, hb1⟩
       have HO := Lib.hid hown
       have HB1 : Hid (Below W.heap.size W w1) := bnext ((Below.refl W.heap.size W).drew) hb1
       clear hown hb1))
  all_goals
    go_wp2_with fail
    go_ret
    exact ⟨_, rfl, HO.out, HB1.out⟩

set_option maxRecDepth 100000 in
set_option maxHeartbeats 2000000 in
theorem getSib_nx {t : List Nd} (hR : RightP t) {w : World} {B L : Nat} {bl : Nat → Nat} {st : Nat → Dn} (hT : Tree t w B L bl st) (ns : List Nat) (hns : ∀ k ∈ ns, k < t.length) (hlen : ns.length ≤ 400) (a : Option Addr) (c : Nat) (h : RSl w w.heap.size a (ptrs bl ns)) :
    Calls Try.prog 131 #[.slice a ns.length c, .int .i64 2, .nilIface, .slice none 0 0] w (OwnNPost bl (mapN ns (fun i => elsOf t (behindL t i))) w) := by
  have hmf : ∀ (fn : Fn) (first cap : Array Value) (w : World), (Instr.makeFunc fn first cap).run Try.prog w = .ok (.func fn first cap) w := fun _ _ _ _ => rfl
  obtain ⟨W, hW⟩ : ∃ W, W = (((w.alloc (.cells #[.int .i64 2] 151)).alloc (.cells #[.nilIface] 179)).alloc (.cells #[.slice none 0 0] 86)).alloc (.cells #[.nilFunc] 132) := ⟨_, rfl⟩
  have hb0 : Below w.heap.size w W := by rw [hW]; exact ((((Below.refl _ _).alloc (Nat.le_refl _) _).alloc (by simp) _).alloc (by simp; omega) _).alloc (by simp; omega) _
  have hbox : W.cell? ⟨w.heap.size, 0, none⟩ = some (.int .i64 2) := by
    rw [hW, World.cell?_alloc_lt _ _ _ (by simp; omega), World.cell?_alloc_lt _ _ _ (by simp; omega), World.cell?_alloc_lt _ _ _ (by simp), World.cell?_alloc_mark]; rfl
  have hbox2 : W.cell? ⟨w.heap.size + 1 + 1 + 1, 0, none⟩ = some .nilFunc := by
    rw [hW, World.cell?_alloc_at _ _ _ _ (by simp)]; rfl
  have hlt : w.heap.size + 1 + 1 + 1 < W.heap.size := by rw [hW]; simp
  have hT1 := hT.kept hb0
  have HM := Lib.hid (mapNodes_sib bl t.length ns (fun i => elsOf t (behindL t i)) hns (fun i hi => nextAll_facts hR i hi) hR.le hlen a c (some ⟨w.heap.size, 0, none⟩) (some ⟨w.heap.size + 1 + 1 + 1, 0, none⟩) W (h.up hb0) hT1.nodes (sib1_nx hR hT1 w.heap.size (w.heap.size + 1 + 1 + 1) hbox hbox2 (by omega) hlt))
  have HB0 := Lib.hid hb0
  have HW := Lib.hid hW
  have hszW := hb0.size
  clear hb0 hbox hbox2 hT1 hT hns h hR hW hlt
  go_enter Try.func131, Try.ntmps131
  go_wp2_with fail
  rw [← HW.out]
  refine HM.out.mono ?_
  rintro e w1 ⟨v, rfl, ⟨a1, c1, rfl, hown⟩, hb1⟩
  have HO := Lib.hid (own_base hown hszW)
  have HB1 := Lib.hid (bnext HB0.out hb1)
  clear hown hb1
  go_wp2_with fail
  go_ret
  exact ⟨_, rfl, ⟨a1, c1, rfl, HO.out⟩, HB1.out⟩

set_option maxRecDepth 100000 in
set_option maxHeartbeats 1000000 in
theorem sel_nx {t : List Nd} (hR : RightP t) {w : World} {B0 B L : Nat} {bl : Nat → Nat} {st : Nat → Dn} (hT : Tree t w B0 L bl st) (ns : List Nat) (hns : ∀ k ∈ ns, k < t.length) (hlen : ns.length ≤ 400) (g : Nat) (doc : Option Addr) (hs : SelOf bl ns B g doc w) :
    Calls Try.prog 95 #[.pointer (some ⟨g, 0, none⟩)] w (AddPost bl (mapN ns (fun i => elsOf t (behindL t i))) doc w) := by
  obtain ⟨a, c, prev, hs1, _, hown, _⟩ := hs
  have hrs : RSl w w.heap.size a (ptrs bl ns) := by
    obtain ⟨a1, c1, hv, _, hrs⟩ := RSl.own hown
    cases hv
    exact hrs
  obtain ⟨c0, _, _⟩ := hs1.cells
  have HK := Lib.hid (getSib_nx hR hT ns hns hlen a c hrs)
  have HS := Lib.hid hs1
  obtain ⟨M, hM⟩ : ∃ M, M = mapN ns (fun i => elsOf t (behindL t i)) := ⟨_, rfl⟩
  rw [← hM] at HK ⊢
  clear hs1 hown hrs hT hns hM hR
  go_enter Try.func95, Try.ntmps95
  go_wp2_with fail
  refine HK.out.mono ?_
  rintro e w1 ⟨v, rfl, ⟨a1, c1, rfl, hown⟩, hb⟩
  have HO := Lib.hid hown
  have HB := Lib.hid hb
  clear hown hb
  go_wp2_with fail
  refine (push_any g a ns.length c doc prev a1 _ c1 w1 (HS.out.below HB.out HS.out.lt)).mono ?_
  rintro e w2 ⟨rfl, hs2, hb2⟩
  have HS2 := Lib.hid hs2
  have HB2 := Lib.hid hb2
  clear hs2 hb2
  go_wp2_with fail
  go_ret
  exact ⟨_, rfl, ⟨a1, c1, _, HS2.out, HB.out.size, own_kept HO.out (fun b _ hb => HB2.out.block b hb), _, rfl⟩, bnext HB.out HB2.out⟩

theorem nextAll_all {t : List Nd} (hR : RightP t) {ns : List Nat} (hns : ∀ k ∈ ns, k < t.length) : (mapN ns (fun i => elsOf t (behindL t i))).length ≤ t.length ∧ ∀ m ∈ mapN ns (fun i => elsOf t (behindL t i)), m < t.length :=
  mapN_facts hR.le (fun i hi => nextAll_facts hR i hi) ns hns

set_option maxRecDepth 100000 in
set_option maxHeartbeats 2000000 in
theorem door_nx (a : Option Addr) (c : Nat) (t : List Nd) (hR : RightP t) (ad : Option Addr) (c2 : Nat) (l : List Int) (ns : List Nat) (ho : OrdP t.length l ns) (hl : l.length ≤ 2147483647) (w : World) (h : NSl w w.heap.size a t) (hi : ISl w w.heap.size ad l) :
    Calls Try.prog 53 #[.slice a t.length c, .slice ad l.length c2] w (ListPost (toI (mapN ns (fun i => elsOf t (behindL t i)))) w) := by
  have HC := Lib.hid (chosen_any a c t hR ad c2 l ns ho hl w h hi)
  have HR := Lib.hid hR
  have HO := Lib.hid ho
  have hnl := ho.len
  have hle := hR.le
  have HMf := Lib.hid (nextAll_all hR ho.lt)
  have HNL := Lib.hid (show ns.length ≤ 400 by omega)
  obtain ⟨M, hM⟩ : ∃ M, M = mapN ns (fun i => elsOf t (behindL t i)) := ⟨_, rfl⟩
  have HM := Lib.hid hM
  rw [← hM] at HMf ⊢
  clear hR ho h hi hnl hl hM
  go_enter Try.func53, Try.ntmps53
  go_wp2_with fail
  refine HC.out.mono ?_
  rintro e w1 ⟨L, bl, st, g, doc, rfl, hL, hT, hsel, hb1⟩
  have HCh := Lib.hid (sel_nx HR.out hT ns HO.out.lt HNL.out g doc hsel)
  rw [← HM.out] at HCh
  have HT := Lib.hid hT
  have HB1 := Lib.hid hb1
  clear hT hsel hb1
  go_wp2_with fail
  refine HCh.out.mono ?_
  rintro e w2 ⟨g2, rfl, hsel2, hb2⟩
  obtain ⟨a5, c5, g0, hrs⟩ := hsel2.places
  have HRs := Lib.hid hrs
  have HB2 := Lib.hid (bnext HB1.out hb2)
  have HT2 := Lib.hid (HT.out.kept hb2)
  have hL2 := Nat.lt_of_lt_of_le hL hb2.size
  clear hsel2 hrs hb2
  go_wp2_with fail
  refine (placesOf_any bl t.length L hle M HMf.out.2 (by have := HMf.out.1; omega) a5 c5 w2 hL2 HT2.out.nodes (fun j hj => HT2.out.cell j hj) HRs.out).mono ?_
  rintro e w3 ⟨v, rfl, hown4, hb4⟩
  have HO4 := Lib.hid (hown4.base HB2.out.size)
  have HB4 := Lib.hid (bnext HB2.out hb4)
  clear hown4 hb4
  go_wp2_with fail
  go_ret2
  exact ⟨v, rfl, HO4.out, HB4.out⟩

theorem next1_facts {t : List Nd} (hR : RightP t) (i : Nat) (hi : i < t.length) : (∀ m ∈ (elsOf t (behindL t i)).take 1, m < t.length) ∧ ((elsOf t (behindL t i)).take 1).Nodup ∧ ((elsOf t (behindL t i)).take 1).length ≤ 200 := by
  obtain ⟨n1, n2, n3, m1, m2, m3, l1, l2, l3⟩ := beside_mem hR hi
  exact els_one (els_sub n1 m1 l1)

theorem gatherT_n1 {t : List Nd} (hR : RightP t) {w : World} {B L : Nat} {bl : Nat → Nat} {st : Nat → Dn} (hT : Tree t w B L bl st) (i : Nat) (hi : i < t.length) (pa : Option Addr) :
    Calls Try.prog 158 #[.pointer pa, .int .i64 1, .pointer (some ⟨bl i, 0, none⟩), .nilFunc] w (OwnNPost bl ((elsOf t (behindL t i)).take 1) w) := by
  obtain ⟨n1, n2, n3, m1, m2, m3, l1, l2, l3⟩ := beside_mem hR hi
  obtain ⟨c1, c2⟩ := chain_next hR hT i hi
  refine gather_n1 t bl st i pa (behindL t i) l1 w (hT.dom.lt hi) (fun k h => hT.dom.lt (m1 _ (List.getElem_mem h))) c1 c2 (fun k h => hT.typ_ hR _ (m1 _ (List.getElem_mem h))) (fun a b ha hb e => ?_)
  have := hT.dom.inj _ _ (m1 _ (List.getElem_mem ha)) (m1 _ (List.getElem_mem hb)) e
  exact (List.getElem_inj n1).1 this

set_option maxRecDepth 100000 in
set_option maxHeartbeats 2000000 in
theorem sib1_n1 {t : List Nd} (hR : RightP t) {w : World} {B L : Nat} {bl : Nat → Nat} {st : Nat → Dn} (hT : Tree t w B L bl st) (b0 b1 : Nat) (h0 : w.cell? ⟨b0, 0, none⟩ = some (.int .i64 1)) (h1 : w.cell? ⟨b1, 0, none⟩ = some .nilFunc) (l0 : b0 < w.heap.size) (l1 : b1 < w.heap.size) :
    Gives_sib bl t.length (fun i => (elsOf t (behindL t i)).take 1) (some ⟨b0, 0, none⟩) (some ⟨b1, 0, none⟩) w := by
  intro W i k hW hi hk
  have g0 := (hW.cell (p := ⟨b0, 0, none⟩) l0).trans h0
  have g1 := (hW.cell (p := ⟨b1, 0, none⟩) l1).trans h1
  have hT1 := hT.kept hW
  have gp := hT1.up_ i hi
  obtain ⟨o, ho⟩ : ∃ o, o = parJ t i i := ⟨_, rfl⟩
  rw [← ho] at gp
  have HG := Lib.hid (gatherT_n1 hR (hT1.kept ((Below.refl W.heap.size W).drew)) i hi (o.map fun j => ⟨bl j, 0, none⟩))
  have gp' : W.cell? ⟨bl i, 0, none⟩ = some (.pointer (o.map fun j => ⟨bl j, 0, none⟩)) := gp
  obtain ⟨F, hF⟩ : ∃ F, F = (elsOf t (behindL t i)).take 1 := ⟨_, rfl⟩
  rw [← hF] at HG
  rw [show (fun i => (elsOf t (behindL t i)).take 1) i = F from hF.symm]
  clear h0 h1 hT hT1 hR hW gp ho l0 l1 hF
  go_enter Try.func157, Try.ntmps157
  go_wp2_with fail
  go_region_law (first
    | (go_simp; go_at_call 158; refine HG.out.mono ?_
       rintro e w1 ⟨v, rfl, hown, hb1⟩
       have HO := Lib.hid hown
       have HB1 : Hid (Below W.heap.size W w1) := bnext ((Below.refl W.heap.size W).drew) hb1
       clear hown hb1))
  all_goals
    go_wp2_with fail
    go_ret
    exact ⟨_, rfl, HO.out, HB1.out⟩

set_option maxRecDepth 100000 in
set_option maxHeartbeats 2000000 in
theorem getSib_n1 {t : List Nd} (hR : RightP t) {w : World} {B L : Nat} {bl : Nat → Nat} {st : Nat → Dn} (hT : Tree t w B L bl st) (ns : List Nat) (hns : ∀ k ∈ ns, k < t.length) (hlen : ns.length ≤ 400) (a : Option Addr) (c : Nat) (h : RSl w w.heap.size a (ptrs bl ns)) :
    Calls Try.prog 131 #[.slice a ns.length c, .int .i64 1, .nilIface, .slice none 0 0] w (OwnNPost bl (mapN ns (fun i => (elsOf t (behindL t i)).take 1)) w) := by
  have hmf : ∀ (fn : Fn) (first cap : Array Value) (w : World), (Instr.makeFunc fn first cap).run Try.prog w = .ok (.func fn first cap) w := fun _ _ _ _ => rfl
  obtain ⟨W, hW⟩ : ∃ W, W = (((w.alloc (.cells #[.int .i64 1] 151)).alloc (.cells #[.nilIface] 179)).alloc (.cells #[.slice none 0 0] 86)).alloc (.cells #[.nilFunc] 132) := ⟨_, rfl⟩
  have hb0 : Below w.heap.size w W := by rw [hW]; exact ((((Below.refl _ _).alloc (Nat.le_refl _) _).alloc (by simp) _).alloc (by simp; omega) _).alloc (by simp; omega) _
  have hbox : W.cell? ⟨w.heap.size, 0, none⟩ = some (.int .i64 1) := by
    rw [hW, World.cell?_alloc_lt _ _ _ (by simp; omega), World.cell?_alloc_lt _ _ _ (by simp; omega), World.cell?_alloc_lt _ _ _ (by simp), World.cell?_alloc_mark]; rfl
  have hbox2 : W.cell? ⟨w.heap.size + 1 + 1 + 1, 0, none⟩ = some .nilFunc := by
    rw [hW, World.cell?_alloc_at _ _ _ _ (by simp)]; rfl
  have hlt : w.heap.size + 1 + 1 + 1 < W.heap.size := by rw [hW]; simp
  have hT1 := hT.kept hb0
  have HM := Lib.hid (mapNodes_sib bl t.length ns (fun i => (elsOf t (behindL t i)).take 1) hns (fun i hi => next1_facts hR i hi) hR.le hlen a c (some ⟨w.heap.size, 0, none⟩) (some ⟨w.heap.size + 1 + 1 + 1, 0, none⟩) W (h.up hb0) hT1.nodes (sib1_n1 hR hT1 w.heap.size (w.heap.size + 1 + 1 + 1) hbox hbox2 (by omega) hlt))
  have HB0 := Lib.hid hb0
  have HW := Lib.hid hW
  have hszW := hb0.size
  clear hb0 hbox hbox2 hT1 hT hns h hR hW hlt
  go_enter Try.func131, Try.ntmps131
  go_wp2_with fail
  rw [← HW.out]
  refine HM.out.mono ?_
  rintro e w1 ⟨v, rfl, ⟨a1, c1, rfl, hown⟩, hb1⟩
  have HO := Lib.hid (own_base hown hszW)
  have HB1 := Lib.hid (bnext HB0.out hb1)
  clear hown hb1
  go_wp2_with fail
  go_ret
  exact ⟨_, rfl, ⟨a1, c1, rfl, HO.out⟩, HB1.out⟩

set_option maxRecDepth 100000 in
set_option maxHeartbeats 1000000 in
theorem sel_n1 {t : List Nd} (hR : RightP t) {w : World} {B0 B L : Nat} {bl : Nat → Nat} {st : Nat → Dn} (hT : Tree t w B0 L bl st) (ns : List Nat) (hns : ∀ k ∈ ns, k < t.length) (hlen : ns.length ≤ 400) (g : Nat) (doc : Option Addr) (hs : SelOf bl ns B g doc w) :
    Calls Try.prog 96 #[.pointer (some ⟨g, 0, none⟩)] w (AddPost bl (mapN ns (fun i => (elsOf t (behindL t i)).take 1)) doc w) := by
  obtain ⟨a, c, prev, hs1, _, hown, _⟩ := hs
  have hrs : RSl w w.heap.size a (ptrs bl ns) := by
    obtain ⟨a1, c1, hv, _, hrs⟩ := RSl.own hown
    cases hv
    exact hrs
  obtain ⟨c0, _, _⟩ := hs1.cells
  have HK := Lib.hid (getSib_n1 hR hT ns hns hlen a c hrs)
  have HS := Lib.hid hs1
  obtain ⟨M, hM⟩ : ∃ M, M = mapN ns (fun i => (elsOf t (behindL t i)).take 1) := ⟨_, rfl⟩
  rw [← hM] at HK ⊢
  clear hs1 hown hrs hT hns hM hR
  go_enter Try.func96, Try.ntmps96
  go_wp2_with fail
  refine HK.out.mono ?_
  rintro e w1 ⟨v, rfl, ⟨a1, c1, rfl, hown⟩, hb⟩
  have HO := Lib.hid hown
  have HB := Lib.hid hb
  clear hown hb
  go_wp2_with fail
  refine (push_any g a ns.length c doc prev a1 _ c1 w1 (HS.out.below HB.out HS.out.lt)).mono ?_
  rintro e w2 ⟨rfl, hs2, hb2⟩
  have HS2 := Lib.hid hs2
  have HB2 := Lib.hid hb2
  clear hs2 hb2
  go_wp2_with fail
  go_ret
  exact ⟨_, rfl, ⟨a1, c1, _, HS2.out, HB.out.size, own_kept HO.out (fun b _ hb => HB2.out.block b hb), _, rfl⟩, bnext HB.out HB2.out⟩

theorem next1_all {t : List Nd} (hR : RightP t) {ns : List Nat} (hns : ∀ k ∈ ns, k < t.length) : (mapN ns (fun i => (elsOf t (behindL t i)).take 1)).length ≤ t.length ∧ ∀ m ∈ mapN ns (fun i => (elsOf t (behindL t i)).take 1), m < t.length :=
  mapN_facts hR.le (fun i hi => next1_facts hR i hi) ns hns

set_option maxRecDepth 100000 in
set_option maxHeartbeats 2000000 in
theorem door_n1 (a : Option Addr) (c : Nat) (t : List Nd) (hR : RightP t) (ad : Option Addr) (c2 : Nat) (l : List Int) (ns : List Nat) (ho : OrdP t.length l ns) (hl : l.length ≤ 2147483647) (w : World) (h : NSl w w.heap.size a t) (hi : ISl w w.heap.size ad l) :
    Calls Try.prog 54 #[.slice a t.length c, .slice ad l.length c2] w (ListPost (toI (mapN ns (fun i => (elsOf t (behindL t i)).take 1))) w) := by
  have HC := Lib.hid (chosen_any a c t hR ad c2 l ns ho hl w h hi)
  have HR := Lib.hid hR
  have HO := Lib.hid ho
  have hnl := ho.len
  have hle := hR.le
  have HMf := Lib.hid (next1_all hR ho.lt)
  have HNL := Lib.hid (show ns.length ≤ 400 by omega)
  obtain ⟨M, hM⟩ : ∃ M, M = mapN ns (fun i => (elsOf t (behindL t i)).take 1) := ⟨_, rfl⟩
  have HM := Lib.hid hM
  rw [← hM] at HMf ⊢
  clear hR ho h hi hnl hl hM
  go_enter Try.func54, Try.ntmps54
  go_wp2_with fail
  refine HC.out.mono ?_
  rintro e w1 ⟨L, bl, st, g, doc, rfl, hL, hT, hsel, hb1⟩
  have HCh := Lib.hid (sel_n1 HR.out hT ns HO.out.lt HNL.out g doc hsel)
  rw [← HM.out] at HCh
  have HT := Lib.hid hT
  have HB1 := Lib.hid hb1
  clear hT hsel hb1
  go_wp2_with fail
  refine HCh.out.mono ?_
  rintro e w2 ⟨g2, rfl, hsel2, hb2⟩
  obtain ⟨a5, c5, g0, hrs⟩ := hsel2.places
  have HRs := Lib.hid hrs
  have HB2 := Lib.hid (bnext HB1.out hb2)
  have HT2 := Lib.hid (HT.out.kept hb2)
  have hL2 := Nat.lt_of_lt_of_le hL hb2.size
  clear hsel2 hrs hb2
  go_wp2_with fail
  refine (placesOf_any bl t.length L hle M HMf.out.2 (by have := HMf.out.1; omega) a5 c5 w2 hL2 HT2.out.nodes (fun j hj => HT2.out.cell j hj) HRs.out).mono ?_
  rintro e w3 ⟨v, rfl, hown4, hb4⟩
  have HO4 := Lib.hid (hown4.base HB2.out.size)
  have HB4 := Lib.hid (bnext HB2.out hb4)
  clear hown4 hb4
  go_wp2_with fail
  go_ret2
  exact ⟨v, rfl, HO4.out, HB4.out⟩

theorem prev1_facts {t : List Nd} (hR : RightP t) (i : Nat) (hi : i < t.length) : (∀ m ∈ (elsOf t (aheadL t i)).take 1, m < t.length) ∧ ((elsOf t (aheadL t i)).take 1).Nodup ∧ ((elsOf t (aheadL t i)).take 1).length ≤ 200 := by
  obtain ⟨n1, n2, n3, m1, m2, m3, l1, l2, l3⟩ := beside_mem hR hi
  exact els_one (els_sub n2 m2 l2)

theorem gatherT_p1 {t : List Nd} (hR : RightP t) {w : World} {B L : Nat} {bl : Nat → Nat} {st : Nat → Dn} (hT : Tree t w B L bl st) (i : Nat) (hi : i < t.length) (pa : Option Addr) :
    Calls Try.prog 158 #[.pointer pa, .int .i64 (-1), .pointer (some ⟨bl i, 0, none⟩), .nilFunc] w (OwnNPost bl ((elsOf t (aheadL t i)).take 1) w) := by
  obtain ⟨n1, n2, n3, m1, m2, m3, l1, l2, l3⟩ := beside_mem hR hi
  obtain ⟨c1, c2⟩ := chain_prev hR hT i hi
  refine gather_p1 t bl st i pa (aheadL t i) l2 w (hT.dom.lt hi) (fun k h => hT.dom.lt (m2 _ (List.getElem_mem h))) c1 c2 (fun k h => hT.typ_ hR _ (m2 _ (List.getElem_mem h))) (fun a b ha hb e => ?_)
  have := hT.dom.inj _ _ (m2 _ (List.getElem_mem ha)) (m2 _ (List.getElem_mem hb)) e
  exact (List.getElem_inj n2).1 this

set_option maxRecDepth 100000 in
set_option maxHeartbeats 2000000 in
theorem sib1_p1 {t : List Nd} (hR : RightP t) {w : World} {B L : Nat} {bl : Nat → Nat} {st : Nat → Dn} (hT : Tree t w B L bl st) (b0 b1 : Nat) (h0 : w.cell? ⟨b0, 0, none⟩ = some (.int .i64 (-1))) (h1 : w.cell? ⟨b1, 0, none⟩ = some .nilFunc) (l0 : b0 < w.heap.size) (l1 : b1 < w.heap.size) :
    Gives_sib bl t.length (fun i => (elsOf t (aheadL t i)).take 1) (some ⟨b0, 0, none⟩) (some ⟨b1, 0, none⟩) w := by
  intro W i k hW hi hk
  have g0 := (hW.cell (p := ⟨b0, 0, none⟩) l0).trans h0
  have g1 := (hW.cell (p := ⟨b1, 0, none⟩) l1).trans h1
  have hT1 := hT.kept hW
  have gp := hT1.up_ i hi
  obtain ⟨o, ho⟩ : ∃ o, o = parJ t i i := ⟨_, rfl⟩
  rw [← ho] at gp
  have HG := Lib.hid (gatherT_p1 hR (hT1.kept ((Below.refl W.heap.size W).drew)) i hi (o.map fun j => ⟨bl j, 0, none⟩))
  have gp' : W.cell? ⟨bl i, 0, none⟩ = some (.pointer (o.map fun j => ⟨bl j, 0, none⟩)) := gp
  obtain ⟨F, hF⟩ : ∃ F, F = (elsOf t (aheadL t i)).take 1 := ⟨_, rfl⟩
  rw [← hF] at HG
  rw [show (fun i => (elsOf t (aheadL t i)).take 1) i = F from hF.symm]
  clear h0 h1 hT hT1 hR hW gp ho l0 l1 hF
  go_enter Try.func157, Try.ntmps157
  go_wp2_with fail
  go_region_law (first
    | (go_simp; go_at_call 158; refine HG.out.mono ?_
       rintro e w1 ⟨v, rfl, hown, hb1⟩
       have HO := Lib.hid hown
       have HB1 : Hid (Below W.heap.size W w1) := bnext ((Below.refl W.heap.size W).drew) hb1
       clear hown hb1))
  all_goals
    go_wp2_with fail
    go_ret
    exact ⟨_, rfl, HO.out, HB1.out⟩

set_option maxRecDepth 100000 in
set_option maxHeartbeats 2000000 in
theorem getSib_p1 {t : List Nd} (hR : RightP t) {w : World} {B L : Nat} {bl : Nat → Nat} {st : Nat → Dn} (hT : Tree t w B L bl st) (ns : List Nat) (hns : ∀ k ∈ ns, k < t.length) (hlen : ns.length ≤ 400) (a : Option Addr) (c : Nat) (h : RSl w w.heap.size a (ptrs bl ns)) :
    Calls Try.prog 131 #[.slice a ns.length c, .int .i64 (-1), .nilIface, .slice none 0 0] w (OwnNPost bl (mapN ns (fun i => (elsOf t (aheadL t i)).take 1)) w) := by
  have hmf : ∀ (fn : Fn) (first cap : Array Value) (w : World), (Instr.makeFunc fn first cap).run Try.prog w = .ok (.func fn first cap) w := fun _ _ _ _ => rfl
  obtain ⟨W, hW⟩ : ∃ W, W = (((w.alloc (.cells #[.int .i64 (-1)] 151)).alloc (.cells #[.nilIface] 179)).alloc (.cells #[.slice none 0 0] 86)).alloc (.cells #[.nilFunc] 132) := ⟨_, rfl⟩
  have hb0 : Below w.heap.size w W := by rw [hW]; exact ((((Below.refl _ _).alloc (Nat.le_refl _) _).alloc (by simp) _).alloc (by simp; omega) _).alloc (by simp; omega) _
  have hbox : W.cell? ⟨w.heap.size, 0, none⟩ = some (.int .i64 (-1)) := by
    rw [hW, World.cell?_alloc_lt _ _ _ (by simp; omega), World.cell?_alloc_lt _ _ _ (by simp; omega), World.cell?_alloc_lt _ _ _ (by simp), World.cell?_alloc_mark]; rfl
  have hbox2 : W.cell? ⟨w.heap.size + 1 + 1 + 1, 0, none⟩ = some .nilFunc := by
    rw [hW, World.cell?_alloc_at _ _ _ _ (by simp)]; rfl
  have hlt : w.heap.size + 1 + 1 + 1 < W.heap.size := by rw [hW]; simp
  have hT1 := hT.kept hb0
  have HM := Lib.hid (mapNodes_sib bl t.length ns (fun i => (elsOf t (aheadL t i)).take 1) hns (fun i hi => prev1_facts hR i hi) hR.le hlen a c (some ⟨w.heap.size, 0, none⟩) (some ⟨w.heap.size + 1 + 1 + 1, 0, none⟩) W (h.up hb0) hT1.nodes (sib1_p1 hR hT1 w.heap.size (w.heap.size + 1 + 1 + 1) hbox hbox2 (by omega) hlt))
  have HB0 := Lib.hid hb0
  have HW := Lib.hid hW
  have hszW := hb0.size
  clear hb0 hbox hbox2 hT1 hT hns h hR hW hlt
  go_enter Try.func131, Try.ntmps131
  go_wp2_with fail
  rw [← HW.out]
  refine HM.out.mono ?_
  rintro e w1 ⟨v, rfl, ⟨a1, c1, rfl, hown⟩, hb1⟩
  have HO := Lib.hid (own_base hown hszW)
  have HB1 := Lib.hid (bnext HB0.out hb1)
  clear hown hb1
  go_wp2_with fail
  go_ret
  exact ⟨_, rfl, ⟨a1, c1, rfl, HO.out⟩, HB1.out⟩

set_option maxRecDepth 100000 in
set_option maxHeartbeats 1000000 in
theorem sel_p1 {t : List Nd} (hR : RightP t) {w : World} {B0 B L : Nat} {bl : Nat → Nat} {st : Nat → Dn} (hT : Tree t w B0 L bl st) (ns : List Nat) (hns : ∀ k ∈ ns, k < t.length) (hlen : ns.length ≤ 400) (g : Nat) (doc : Option Addr) (hs : SelOf bl ns B g doc w) :
    Calls Try.prog 94 #[.pointer (some ⟨g, 0, none⟩)] w (AddPost bl (mapN ns (fun i => (elsOf t (aheadL t i)).take 1)) doc w) := by
  obtain ⟨a, c, prev, hs1, _, hown, _⟩ := hs
  have hrs : RSl w w.heap.size a (ptrs bl ns) := by
    obtain ⟨a1, c1, hv, _, hrs⟩ := RSl.own hown
    cases hv
    exact hrs
  obtain ⟨c0, _, _⟩ := hs1.cells
  have HK := Lib.hid (getSib_p1 hR hT ns hns hlen a c hrs)
  have HS := Lib.hid hs1
  obtain ⟨M, hM⟩ : ∃ M, M = mapN ns (fun i => (elsOf t (aheadL t i)).take 1) := ⟨_, rfl⟩
  rw [← hM] at HK ⊢
  clear hs1 hown hrs hT hns hM hR
  go_enter Try.func94, Try.ntmps94
  go_wp2_with fail
  refine HK.out.mono ?_
  rintro e w1 ⟨v, rfl, ⟨a1, c1, rfl, hown⟩, hb⟩
  have HO := Lib.hid hown
  have HB := Lib.hid hb
  clear hown hb
  go_wp2_with fail
  refine (push_any g a ns.length c doc prev a1 _ c1 w1 (HS.out.below HB.out HS.out.lt)).mono ?_
  rintro e w2 ⟨rfl, hs2, hb2⟩
  have HS2 := Lib.hid hs2
  have HB2 := Lib.hid hb2
  clear hs2 hb2
  go_wp2_with fail
  go_ret
  exact ⟨_, rfl, ⟨a1, c1, _, HS2.out, HB.out.size, own_kept HO.out (fun b _ hb => HB2.out.block b hb), _, rfl⟩, bnext HB.out HB2.out⟩

theorem prev1_all {t : List Nd} (hR : RightP t) {ns : List Nat} (hns : ∀ k ∈ ns, k < t.length) : (mapN ns (fun i => (elsOf t (aheadL t i)).take 1)).length ≤ t.length ∧ ∀ m ∈ mapN ns (fun i => (elsOf t (aheadL t i)).take 1), m < t.length :=
  mapN_facts hR.le (fun i hi => prev1_facts hR i hi) ns hns

set_option maxRecDepth 100000 in
set_option maxHeartbeats 2000000 in
theorem door_p1 (a : Option Addr) (c : Nat) (t : List Nd) (hR : RightP t) (ad : Option Addr) (c2 : Nat) (l : List Int) (ns : List Nat) (ho : OrdP t.length l ns) (hl : l.length ≤ 2147483647) (w : World) (h : NSl w w.heap.size a t) (hi : ISl w w.heap.size ad l) :
    Calls Try.prog 52 #[.slice a t.length c, .slice ad l.length c2] w (ListPost (toI (mapN ns (fun i => (elsOf t (aheadL t i)).take 1))) w) := by
  have HC := Lib.hid (chosen_any a c t hR ad c2 l ns ho hl w h hi)
  have HR := Lib.hid hR
  have HO := Lib.hid ho
  have hnl := ho.len
  have hle := hR.le
  have HMf := Lib.hid (prev1_all hR ho.lt)
  have HNL := Lib.hid (show ns.length ≤ 400 by omega)
  obtain ⟨M, hM⟩ : ∃ M, M = mapN ns (fun i => (elsOf t (aheadL t i)).take 1) := ⟨_, rfl⟩
  have HM := Lib.hid hM
  rw [← hM] at HMf ⊢
  clear hR ho h hi hnl hl hM
  go_enter Try.func52, Try.ntmps52
  go_wp2_with fail
  refine HC.out.mono ?_
  rintro e w1 ⟨L, bl, st, g, doc, rfl, hL, hT, hsel, hb1⟩
  have HCh := Lib.hid (sel_p1 HR.out hT ns HO.out.lt HNL.out g doc hsel)
  rw [← HM.out] at HCh
  have HT := Lib.hid hT
  have HB1 := Lib.hid hb1
  clear hT hsel hb1
  go_wp2_with fail
  refine HCh.out.mono ?_
  rintro e w2 ⟨g2, rfl, hsel2, hb2⟩
  obtain ⟨a5, c5, g0, hrs⟩ := hsel2.places
  have HRs := Lib.hid hrs
  have HB2 := Lib.hid (bnext HB1.out hb2)
  have HT2 := Lib.hid (HT.out.kept hb2)
  have hL2 := Nat.lt_of_lt_of_le hL hb2.size
  clear hsel2 hrs hb2
  go_wp2_with fail
  refine (placesOf_any bl t.length L hle M HMf.out.2 (by have := HMf.out.1; omega) a5 c5 w2 hL2 HT2.out.nodes (fun j hj => HT2.out.cell j hj) HRs.out).mono ?_
  rintro e w3 ⟨v, rfl, hown4, hb4⟩
  have HO4 := Lib.hid (hown4.base HB2.out.size)
  have HB4 := Lib.hid (bnext HB2.out hb4)
  clear hown4 hb4
  go_wp2_with fail
  go_ret2
  exact ⟨v, rfl, HO4.out, HB4.out⟩

theorem pars_facts {t : List Nd} (hR : RightP t) (ms : List Nat) (i : Nat) (hi : i < t.length) : (∀ m ∈ elsOf t (till ms (anc t i)), m < t.length) ∧ (elsOf t (till ms (anc t i))).Nodup ∧ (elsOf t (till ms (anc t i))).length ≤ 200 := by
  have h1 := anc_nodup t i i (Nat.le_refl _)
  have hle := hR.le
  refine els_sub (till_nodup h1.1) (fun m hm => ?_) ?_
  · have := anc_lt t i i (Nat.le_refl _) m (till_mem hm); omega
  · have := till_len ms (anc t i); omega

set_option maxRecDepth 100000 in
set_option maxHeartbeats 2000000 in
theorem getPar_any {t : List Nd} (hR : RightP t) {w : World} {B L : Nat} {bl : Nat → Nat} {st : Nat → Dn} (hT : Tree t w B L bl st) (ns : List Nat) (hns : ∀ k ∈ ns, k < t.length) (hlen : ns.length ≤ 400) (a : Option Addr) (c : Nat) (h : RSl w w.heap.size a (ptrs bl ns))
    (ms : List Nat) (hms : ∀ m ∈ ms, m < t.length) (hml : ms.length ≤ 200) (a2 : Option Addr) (c2 : Nat) (h2 : RSl w w.heap.size a2 (ptrs bl ms)) :
    Calls Try.prog 130 #[.slice a ns.length c, .nilIface, .slice a2 ms.length c2] w (OwnNPost bl (mapN ns (fun i => elsOf t (till ms (anc t i)))) w) := by
  have hmf : ∀ (fn : Fn) (first cap : Array Value) (w : World), (Instr.makeFunc fn first cap).run Try.prog w = .ok (.func fn first cap) w := fun _ _ _ _ => rfl
  obtain ⟨W, hW⟩ : ∃ W, W = (w.alloc (.cells #[.nilIface] 179)).alloc (.cells #[.slice a2 ms.length c2] 86) := ⟨_, rfl⟩
  have hb0 : Below w.heap.size w W := by rw [hW]; exact (((Below.refl _ _).alloc (Nat.le_refl _) _).alloc (by simp) _)
  have hbox : W.cell? ⟨w.heap.size, 0, none⟩ = some .nilIface := by
    rw [hW, World.cell?_alloc_lt _ _ _ (by simp), World.cell?_alloc_mark]; rfl
  have hbox2 : W.cell? ⟨w.heap.size + 1, 0, none⟩ = some (.slice a2 ms.length c2) := by
    rw [hW, World.cell?_alloc_at _ _ _ _ (by simp)]; rfl
  have hlt : w.heap.size + 1 < W.heap.size := by rw [hW]; simp
  have hT1 := hT.kept hb0
  have HM := Lib.hid (mapNodes_par bl t.length ns (fun i => elsOf t (till ms (anc t i))) hns (fun i hi => pars_facts hR ms i hi) hR.le hlen a c (some ⟨w.heap.size, 0, none⟩) (some ⟨w.heap.size + 1, 0, none⟩) W (h.up hb0) hT1.nodes (par1_any hR hT1 w.heap.size (w.heap.size + 1) a2 c2 ms hms hml hbox hbox2 (h2.up hb0) (by omega) hlt))
  have HB0 := Lib.hid hb0
  have HW := Lib.hid hW
  have hszW := hb0.size
  clear hb0 hbox hbox2 hT1 hT hns h h2 hR hW hlt hms
  go_enter Try.func130, Try.ntmps130
  go_wp2_with fail
  rw [← HW.out]
  refine HM.out.mono ?_
  rintro e w1 ⟨v, rfl, ⟨a1, c1, rfl, hown⟩, hb1⟩
  have HO := Lib.hid (own_base hown hszW)
  have HB1 := Lib.hid (bnext HB0.out hb1)
  clear hown hb1
  go_wp2_with fail
  go_ret
  exact ⟨_, rfl, ⟨a1, c1, rfl, HO.out⟩, HB1.out⟩

theorem till0 (t : List Nd) : (fun i => elsOf t (till [] (anc t i))) = fun i => elsOf t (anc t i) := by
  funext i; rw [till_nil]
theorem par_facts {t : List Nd} (hR : RightP t) (i : Nat) (hi : i < t.length) : (∀ m ∈ elsOf t (anc t i), m < t.length) ∧ (elsOf t (anc t i)).Nodup ∧ (elsOf t (anc t i)).length ≤ 200 := by
  have := pars_facts hR [] i hi
  rw [till_nil] at this
  exact this
theorem getPar0_any {t : List Nd} (hR : RightP t) {w : World} {B L : Nat} {bl : Nat → Nat} {st : Nat → Dn} (hT : Tree t w B L bl st) (ns : List Nat) (hns : ∀ k ∈ ns, k < t.length) (hlen : ns.length ≤ 400) (a : Option Addr) (c : Nat) (h : RSl w w.heap.size a (ptrs bl ns)) :
    Calls Try.prog 130 #[.slice a ns.length c, .nilIface, .slice none 0 0] w (OwnNPost bl (mapN ns (fun i => elsOf t (anc t i))) w) := by
  have := getPar_any hR hT ns hns hlen a c h [] (by simp) (by simp) none 0 (.inl rfl)
  rw [till0] at this
  exact this

set_option maxRecDepth 100000 in
set_option maxHeartbeats 1000000 in
theorem sel_par {t : List Nd} (hR : RightP t) {w : World} {B0 B L : Nat} {bl : Nat → Nat} {st : Nat → Dn} (hT : Tree t w B0 L bl st) (ns : List Nat) (hns : ∀ k ∈ ns, k < t.length) (hlen : ns.length ≤ 400) (g : Nat) (doc : Option Addr) (hs : SelOf bl ns B g doc w) :
    Calls Try.prog 91 #[.pointer (some ⟨g, 0, none⟩)] w (AddPost bl (mapN ns (fun i => elsOf t (anc t i))) doc w) := by
  obtain ⟨a, c, prev, hs1, _, hown, _⟩ := hs
  have hrs : RSl w w.heap.size a (ptrs bl ns) := by
    obtain ⟨a1, c1, hv, _, hrs⟩ := RSl.own hown
    cases hv
    exact hrs
  obtain ⟨c0, _, _⟩ := hs1.cells
  have HK := Lib.hid (getPar0_any hR hT ns hns hlen a c hrs)
  have HS := Lib.hid hs1
  obtain ⟨M, hM⟩ : ∃ M, M = mapN ns (fun i => elsOf t (anc t i)) := ⟨_, rfl⟩
  rw [← hM] at HK ⊢
  clear hs1 hown hrs hT hns hM hR
  go_enter Try.func91, Try.ntmps91
  go_wp2_with fail
  refine HK.out.mono ?_
  rintro e w1 ⟨v, rfl, ⟨a1, c1, rfl, hown⟩, hb⟩
  have HO := Lib.hid hown
  have HB := Lib.hid hb
  clear hown hb
  go_wp2_with fail
  refine (push_any g a ns.length c doc prev a1 _ c1 w1 (HS.out.below HB.out HS.out.lt)).mono ?_
  rintro e w2 ⟨rfl, hs2, hb2⟩
  have HS2 := Lib.hid hs2
  have HB2 := Lib.hid hb2
  clear hs2 hb2
  go_wp2_with fail
  go_ret
  exact ⟨_, rfl, ⟨a1, c1, _, HS2.out, HB.out.size, own_kept HO.out (fun b _ hb => HB2.out.block b hb), _, rfl⟩, bnext HB.out HB2.out⟩

theorem par_all {t : List Nd} (hR : RightP t) {ns : List Nat} (hns : ∀ k ∈ ns, k < t.length) : (mapN ns (fun i => elsOf t (anc t i))).length ≤ t.length ∧ ∀ m ∈ mapN ns (fun i => elsOf t (anc t i)), m < t.length :=
  mapN_facts hR.le (fun i hi => par_facts hR i hi) ns hns

set_option maxRecDepth 100000 in
set_option maxHeartbeats 2000000 in
theorem door_par (a : Option Addr) (c : Nat) (t : List Nd) (hR : RightP t) (ad : Option Addr) (c2 : Nat) (l : List Int) (ns : List Nat) (ho : OrdP t.length l ns) (hl : l.length ≤ 2147483647) (w : World) (h : NSl w w.heap.size a t) (hi : ISl w w.heap.size ad l) :
    Calls Try.prog 49 #[.slice a t.length c, .slice ad l.length c2] w (ListPost (toI (mapN ns (fun i => elsOf t (anc t i)))) w) := by
  have HC := Lib.hid (chosen_any a c t hR ad c2 l ns ho hl w h hi)
  have HR := Lib.hid hR
  have HO := Lib.hid ho
  have hnl := ho.len
  have hle := hR.le
  have HMf := Lib.hid (par_all hR ho.lt)
  have HNL := Lib.hid (show ns.length ≤ 400 by omega)
  obtain ⟨M, hM⟩ : ∃ M, M = mapN ns (fun i => elsOf t (anc t i)) := ⟨_, rfl⟩
  have HM := Lib.hid hM
  rw [← hM] at HMf ⊢
  clear hR ho h hi hnl hl hM
  go_enter Try.func49, Try.ntmps49
  go_wp2_with fail
  refine HC.out.mono ?_
  rintro e w1 ⟨L, bl, st, g, doc, rfl, hL, hT, hsel, hb1⟩
  have HCh := Lib.hid (sel_par HR.out hT ns HO.out.lt HNL.out g doc hsel)
  rw [← HM.out] at HCh
  have HT := Lib.hid hT
  have HB1 := Lib.hid hb1
  clear hT hsel hb1
  go_wp2_with fail
  refine HCh.out.mono ?_
  rintro e w2 ⟨g2, rfl, hsel2, hb2⟩
  obtain ⟨a5, c5, g0, hrs⟩ := hsel2.places
  have HRs := Lib.hid hrs
  have HB2 := Lib.hid (bnext HB1.out hb2)
  have HT2 := Lib.hid (HT.out.kept hb2)
  have hL2 := Nat.lt_of_lt_of_le hL hb2.size
  clear hsel2 hrs hb2
  go_wp2_with fail
  refine (placesOf_any bl t.length L hle M HMf.out.2 (by have := HMf.out.1; omega) a5 c5 w2 hL2 HT2.out.nodes (fun j hj => HT2.out.cell j hj) HRs.out).mono ?_
  rintro e w3 ⟨v, rfl, hown4, hb4⟩
  have HO4 := Lib.hid (hown4.base HB2.out.size)
  have HB4 := Lib.hid (bnext HB2.out hb4)
  clear hown4 hb4
  go_wp2_with fail
  go_ret2
  exact ⟨v, rfl, HO4.out, HB4.out⟩
end Go.Proofs.Ytgilbckfkngaiaa
