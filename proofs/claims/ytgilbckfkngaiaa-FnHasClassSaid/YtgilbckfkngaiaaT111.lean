/- Parents of nodes: the program's way up. -/
import Derived.Test.YtgilbckfkngaiaaT110
import Derived.Test.YtgilbckfkngaiaaT55
namespace Go.Proofs.Ytgilbckfkngaiaa
open Go.RowKit
set_option linter.unusedVariables false

/-- What a closure gives for a node. -/
def Gives_par (bl : Nat → Nat) (n : Nat) (fs : Nat → List Nat) (x0 : Option Addr) (x1 : Option Addr) (w : World) : Prop :=
  ∀ (W : World) (i k : Nat), Below w.heap.size w W → i < n → k ≤ 100000 → Calls Try.prog 154 #[.int .i64 k, .pointer (some ⟨bl i, 0, none⟩), .pointer x0, .pointer x1] W (OwnNPost bl (fs i) W)

set_option maxRecDepth 100000 in
set_option maxHeartbeats 2000000 in
theorem mapNodes_par (bl : Nat → Nat) (n : Nat) (ns : List Nat) (fs : Nat → List Nat) (hns : ∀ k ∈ ns, k < n) (hfs : ∀ i, i < n → (∀ m ∈ fs i, m < n) ∧ (fs i).Nodup ∧ (fs i).length ≤ 200) (hn : n ≤ 200) (hlen : ns.length ≤ 400) (a : Option Addr) (c : Nat) (x0 : Option Addr) (x1 : Option Addr) (w : World) (h : RSl w w.heap.size a (ptrs bl ns)) (hN : NodesAt bl n w) (hF : Gives_par bl n fs x0 x1 w) :
    Calls Try.prog 153 #[.slice a ns.length c, .func (.func 154) #[] #[.pointer x0, .pointer x1]] w (OwnNPost bl (mapN ns fs) w) := by
  have hmk : ∀ (m : Int) (w : World), (Instr.makeMap 184 (some (.int .i64 m))).run Try.prog w = .ok (.map (some w.heap.size)) (w.alloc (.map #[] 0)) := fun m w => run_makeMap_hint _ _ _ _ _ Try.underlying184 w
  have HH := Lib.hid h
  have HN := Lib.hid hN
  have HF := Lib.hid hF
  have HNs := Lib.hid hns
  have HFs := Lib.hid hfs
  clear h hN hF hns hfs
  by_cases h0 : ns.length = 0
  · have hz : ((ns.length : Int) == 0) = true := beq_iff_eq.2 (by omega)
    have HE : Hid (mapN ns fs = []) := by rw [Hid, List.eq_nil_of_length_eq_zero h0]; rfl
    clear h0 hmk
    go_enter Try.func153, Try.ntmps153
    go_wp2_with fail
    all_goals
      go_ret
      refine ⟨_, rfl, ?_, Below.refl _ _⟩
      rw [HE.out]
      exact ⟨none, 0, rfl, World.ownsRow_nil _ _ _ _⟩
  · have hz : ((ns.length : Int) == 0) = false := beq_eq_false_iff_ne.2 (by omega)
    have hpos : 0 < ns.length := by omega
    clear h0
    by_cases h1 : ns.length = 1
    · have hz1 : ((ns.length : Int) == 1) = true := beq_iff_eq.2 (by omega)
      obtain ⟨b, o, rfl, hbB, hc⟩ := HH.out.at_ (by rw [ptrs_length]; omega)
      have g1 := hc 0 (by rw [ptrs_length]; exact hpos)
      rw [ptrs_at hpos, Nat.add_zero] at g1
      have hi := HNs.out ns[0] (List.getElem_mem hpos)
      have HE : Hid (mapN ns fs = fs ns[0]) := by
        have e : ns = [ns[0]] := by
          apply List.ext_getElem
          · simp; omega
          · intro i q1 q2
            have : i = 0 := by omega
            subst this; rfl
        rw [Hid]
        conv => lhs; rw [e]
        show addN [] (fs ns[0]) = _
        simp [addN]
      have HC := Lib.hid (HF.out w ns[0] 0 (Below.refl _ _) hi (by omega))
      obtain ⟨j, hj⟩ : ∃ j, j = ns[0] := ⟨_, rfl⟩
      rw [← hj] at g1 HE HC
      clear hc hj h1 hmk hi
      rw [HE.out]
      go_enter Try.func153, Try.ntmps153
      go_wp2_with fail
      refine HC.out.mono ?_
      rintro e w1 ⟨v, rfl, hown, hb1⟩
      have HO := Lib.hid hown
      have HB1 := Lib.hid hb1
      clear hown hb1
      obtain ⟨a1, c1, rfl, hown⟩ := HO.out
      clear hown
      go_wp2_with fail
      go_ret
      exact ⟨_, rfl, HO.out, HB1.out⟩
    · have hz1 : ((ns.length : Int) == 1) = false := beq_eq_false_iff_ne.2 (by omega)
      clear h1
      have hb0 : Below w.heap.size w (w.alloc (.map #[] 0)) := (Below.refl _ _).alloc (Nat.le_refl _) _
      have HB0 := Lib.hid hb0
      have HP0 := Lib.hid (PSet.new bl w)
      clear hb0
      go_enter Try.func153, Try.ntmps153
      go_wp2_with fail
      go_loopw [4, 25] (fun v x wr => MapRel bl ns fs w v x wr) (fun _ x _ => ns.length - (intOf x).toNat)
      case atStart => exact ⟨0, none, 0, by omega, rfl, rfl, World.ownsRow_nil _ _ _ _, HP0.out, HB0.out⟩
      case round =>
        clear hmk
        obtain ⟨k, a1, c1, hk, rfl, rfl, hown, hps, hb⟩ := hrel
        by_cases hlt : k < ns.length
        · obtain ⟨b, o, rfl, hbB, hc⟩ := HH.out.at_ (by rw [ptrs_length]; omega)
          have g1 := hc k (by rw [ptrs_length]; exact hlt)
          rw [ptrs_at hlt] at g1
          replace g1 := (hb.cell (p := ⟨b, _, none⟩) hbB).trans g1
          have hi := HNs.out ns[k] (List.getElem_mem hlt)
          have HC := Lib.hid (HF.out wr ns[k] k hb hi (by omega))
          have HFk := Lib.hid (HFs.out ns[k] hi)
          have HJ : Hid (mapN (ns.take (k + 1)) fs = addN (mapN (ns.take k) fs) (fs ns[k])) := by
            rw [Hid, List.take_succ_eq_append_getElem hlt, mapN_snoc]
          have hMl : (mapN (ns.take k) fs).length ≤ n ∧ ∀ m ∈ mapN (ns.take k) fs, m < n :=
            mapN_facts hn HFs.out _ (fun x hx => HNs.out x (List.mem_of_mem_take hx))
          obtain ⟨j, hj⟩ : ∃ j, j = ns[k] := ⟨_, rfl⟩
          rw [← hj] at g1 HC HFk HJ
          obtain ⟨L, hLL⟩ : ∃ L, L = mapN (ns.take k) fs := ⟨_, rfl⟩
          rw [← hLL] at hown hps hMl HJ ⊢
          have HLm := Lib.hid hMl.2
          have hLl := hMl.1
          have HW := Lib.hid hown
          have HPs := Lib.hid hps
          have HB := Lib.hid hb
          have hsz := hb.size
          clear hc hj hown hps hLL hMl hi hb
          go_wp2_with fail
          refine HC.out.mono ?_
          rintro e w1 ⟨v, rfl, ⟨a2, c2, rfl, hvals⟩, hb1⟩
          obtain ⟨M, hM⟩ : ∃ M, M = fs j := ⟨_, rfl⟩
          rw [← hM] at hvals HFk HJ ⊢
          have hMl := HFk.out.2.2
          have HB1 := Lib.hid (bnext HB.out hb1)
          have HPs1 := Lib.hid (HPs.out.block (hb1.block _ HPs.out.lt))
          have HW1 := Lib.hid (own_kept HW.out (fun b _ hb => hb1.block b hb))
          have hsz1 := hb1.size
          by_cases hm0 : M.length = 0
          · have HE : Hid (mapN (ns.take (k + 1)) fs = L) := by
              rw [Hid, HJ.out, List.eq_nil_of_length_eq_zero hm0]; simp [addN]
            clear HJ hM hvals hb1
            have hzm : ¬ (0 : Int) < (M.length : Int) := by omega
            clear hm0
            go_wp2_with fail
            go_roundw
            case rel => exact ⟨k + 1, a1, c1, by omega, by go_num, by rw [HE.out], by rw [HE.out]; exact HW1.out, by rw [HE.out]; exact HPs1.out, HB1.out⟩
            case measure => simp [intOf]; omega
          · have hzm : (0 : Int) < (M.length : Int) := by omega
            have hrow : RSl w1 w1.heap.size a2 (ptrs bl M) := by
              obtain ⟨a3, c3, hv, _, hrs⟩ := RSl.own hvals
              cases hv
              exact hrs
            have HD := Lib.hid (dupS_any bl n w.heap.size L M HLm.out HFk.out.1 HFk.out.2.1 (by omega) (by omega) a1 c1 a2 c2 w.heap.size w1 HB1.out.size HW1.out hrow (fun b o e => by
              have hbg : wr.heap.size ≤ b := by
                rcases hvals.2 with ⟨hv, _⟩ | ⟨g', cap, cur, hv, hg, _⟩
                · rw [e] at hv; cases hv
                · rw [e] at hv; cases hv; exact hg
              refine ⟨fun e2 => ?_, ?_⟩
              · have := (HW.out.lt b e2.symm).2; omega
              · have := HPs.out.lt; omega) (HN.out.kept HB1.out) HPs1.out)
            clear hM hvals hb1 hrow hm0
            go_wp2_with fail
            refine HD.out.mono ?_
            rintro e w2 ⟨a3, c3, rfl, hown3, hps3, hk3, _⟩
            have HB2 : Hid (Below w.heap.size w w2) := HB1.out.trans (hk3.below HB1.out.size (fun q hq => (HW1.out.lt q hq).1) (Nat.le_refl _))
            have HO3 := Lib.hid hown3
            have HPs3 := Lib.hid hps3
            clear hown3 hps3 hk3
            go_wp2_with fail
            go_roundw
            case rel => exact ⟨k + 1, a3, c3, by omega, by go_num, by rw [HJ.out], by rw [HJ.out]; exact HO3.out, by rw [HJ.out]; exact HPs3.out, HB2.out⟩
            case measure => simp [intOf]; omega
        · go_wp2_with fail
          go_ret
          have e : k = ns.length := by omega
          subst e
          rw [List.take_length] at hown ⊢
          exact ⟨_, rfl, ⟨a1, c1, rfl, hown⟩, hb⟩


theorem till_in {ms l : List Nat} {p : Nat} (h : p ∈ ms) : till ms (p :: l) = [] := by unfold till; rw [List.takeWhile_cons]; simp [h]
theorem till_out {ms l : List Nat} {p : Nat} (h : p ∉ ms) : till ms (p :: l) = p :: till ms l := by unfold till; rw [List.takeWhile_cons]; simp [h]

theorem Tree.up_ {t : List Nd} {w : World} {B L : Nat} {bl : Nat → Nat} {st : Nat → Dn} (hT : Tree t w B L bl st) (k : Nat) (hk : k < t.length) : w.cell? ⟨bl k, 0, none⟩ = some (ptrTo bl (parJ t k k)) := by
  have h := (hT.dom.cells hk).2.1
  have e : (st k).par = parJ t k k := by
    by_cases e : k = 0
    · subst e; rw [((hT.kin 0 hk).1.root rfl).1, parJ_zero]
    · obtain ⟨p, p1, p2, _⟩ := (hT.kin k hk).1.kin e
      rw [p2, isPar_parJ p1]
  rw [e] at h
  exact h
theorem Tree.typ_ {t : List Nd} (hR : RightP t) {w : World} {B L : Nat} {bl : Nat → Nat} {st : Nat → Dn} (hT : Tree t w B L bl st) (k : Nat) (hk : k < t.length) : ∃ y, w.cell? ⟨bl k, 5, none⟩ = some (.int .u32 y) ∧ (y == 3) = isEl t k := by
  refine ⟨_, (hT.dom.cells hk).2.2.2.2.2.2.1, ?_⟩
  unfold isEl
  rw [Bool.eq_iff_iff, decide_eq_true_eq, beq_iff_eq, (hT.kin k hk).2.typ, getD_at hk]
  exact typ_el (hR.kindR _ hk)

def ParRel (t : List Nd) (bl : Nat → Nat) (ms : List Nat) (R : List Nat) (W : World) (v x : Value) (wr : World) : Prop :=
  ∃ (o : Option Nat) (acc : List Nat) (av : Option Addr) (cv : Nat), x = ptrTo bl o ∧ (∀ p, o = some p → p < t.length) ∧ Hid (acc ++ elsOf t (till ms (upFrom t o)) = R) ∧
    v = .slice av acc.length cv ∧ wr.ownsRow W.heap.size 75 1 (.slice av acc.length cv) acc.length (ptrs bl acc) ∧ Below W.heap.size W wr

set_option maxRecDepth 100000 in
set_option maxHeartbeats 4000000 in
theorem par1_any {t : List Nd} (hR : RightP t) {w : World} {B L : Nat} {bl : Nat → Nat} {st : Nat → Dn} (hT : Tree t w B L bl st) (bx0 bx1 : Nat) (a5 : Option Addr) (c5 : Nat) (ms : List Nat) (hms : ∀ m ∈ ms, m < t.length) (hml : ms.length ≤ 200)
    (h0 : w.cell? ⟨bx0, 0, none⟩ = some .nilIface) (h1 : w.cell? ⟨bx1, 0, none⟩ = some (.slice a5 ms.length c5)) (hrow : RSl w w.heap.size a5 (ptrs bl ms)) (hb0 : bx0 < w.heap.size) (hb1 : bx1 < w.heap.size) :
    Gives_par bl t.length (fun i => elsOf t (till ms (anc t i))) (some ⟨bx0, 0, none⟩) (some ⟨bx1, 0, none⟩) w := by
  intro W i k hW hi hk
  obtain ⟨i0, hinf, hz0, hz1, hz2⟩ := info_parts Try.infoP
  have hle := hR.le
  have hT1 := hT.kept hW
  have g0 := (hW.cell (p := ⟨bx0, 0, none⟩) hb0).trans h0
  have g1 := (hW.cell (p := ⟨bx1, 0, none⟩) hb1).trans h1
  have hx0 : bx0 < W.heap.size := Nat.lt_of_lt_of_le hb0 hW.size
  have hx1 : bx1 < W.heap.size := Nat.lt_of_lt_of_le hb1 hW.size
  have hnn : ∀ w : World, (binOp .neq 179 .nilIface .nilIface).run Try.prog w = .ok (.bool false) w := fun w => by kernel_rfl
  have HT := Lib.hid hT1
  have HR := Lib.hid hR
  have HMs := Lib.hid hms
  have HRow := Lib.hid (hrow.up hW)
  have gp := hT1.up_ i hi
  have HUp := Lib.hid (anc_up t i)
  have HAL : Hid ((elsOf t (till ms (anc t i))).length ≤ 200) := by
    have q1 := (anc_nodup t i i (Nat.le_refl _)).2
    have q2 := till_len ms (anc t i)
    have q3 : (elsOf t (till ms (anc t i))).length ≤ (till ms (anc t i)).length := List.length_filter_le _ _
    rw [Hid]; omega
  obtain ⟨o0, ho0⟩ : ∃ o0, o0 = parJ t i i := ⟨_, rfl⟩
  have HO0 := Lib.hid ho0
  have HLt : Hid (∀ p, o0 = some p → p < t.length) := fun p hp => by
    have := parJ_lt (t := t) (i := i) (p := p) (by rw [← ho0]; exact hp); omega
  rw [← ho0] at gp HUp
  obtain ⟨R, hRR⟩ : ∃ R, R = elsOf t (till ms (anc t i)) := ⟨_, rfl⟩
  have HRR : Hid ([] ++ elsOf t (till ms (upFrom t o0)) = R) := by rw [Hid, hRR, HUp.out]; rfl
  rw [← hRR] at HAL
  rw [show (fun i => elsOf t (till ms (anc t i))) i = R from hRR.symm]
  clear hT hT1 hR hms hrow h0 h1 hb0 hb1 hW ho0 hRR
  go_enter Try.func154, Try.ntmps154
  go_wp2_with fail
  go_loopw [6, 7] (fun v x wr => ParRel t bl ms R W v x wr) (fun _ x _ => idxV bl t.length x)
  case atStart => exact ⟨o0, [], none, 0, rfl, HLt.out, HRR.out, rfl, World.ownsRow_nil _ _ _ _, Below.refl _ _⟩
  case round =>
    obtain ⟨o, acc, av, cv, rfl, hlt, hacc, rfl, hown, hb⟩ := hrel
    have hal : acc.length ≤ 200 := by
      have q1 := congrArg List.length hacc.out
      rw [List.length_append] at q1
      have := HAL.out; omega
    have HOwn := Lib.hid hown
    have HB := Lib.hid hb
    have hsz := hb.size
    replace g0 := (hb.cell (p := ⟨bx0, 0, none⟩) hx0).trans g0
    replace g1 := (hb.cell (p := ⟨bx1, 0, none⟩) hx1).trans g1
    clear hown hb gp
    cases o with
    | none =>
      have HE : Hid (acc = R) := by
        have := hacc.out
        unfold upFrom till elsOf at this
        simpa [Hid, elsOf] using this
      rw [show ptrTo bl none = .pointer none from rfl]
      go_wp2_with fail
      go_ret
      refine ⟨_, rfl, ⟨av, cv, ?_, ?_⟩, HB.out⟩
      · rw [← HE.out]; rfl
      · rw [← HE.out]; exact HOwn.out
    | some p =>
      have hp := hlt p rfl
      have HT2 := Lib.hid (HT.out.kept HB.out)
      have HN := Lib.hid HT2.out.nodes
      have gq := HT2.out.up_ p hp
      obtain ⟨y, gy, hy⟩ := HT2.out.typ_ HR.out p hp
      have HM := Lib.hid (idxV_at hp HN.out.inj)
      have HIs := Lib.hid (isIn_any bl t.length HN.out.inj ms HMs.out (by omega) p hp a5 c5 wr (HRow.out.up HB.out) HN.out.blk)
      have HUp2 := Lib.hid (anc_up t p)
      obtain ⟨o2, ho2⟩ : ∃ o2, o2 = parJ t p p := ⟨_, rfl⟩
      have HLt2 : Hid (∀ q, o2 = some q → q < p) := fun q hq => parJ_lt (by rw [← ho2]; exact hq)
      rw [← ho2] at gq HUp2
      rw [show ptrTo bl (some p) = .pointer (some ⟨bl p, 0, none⟩) from rfl]
      have HMe : Hid (idxV bl t.length (ptrTo bl o2) < idxV bl t.length (.pointer (some ⟨bl p, 0, none⟩))) := by
        rw [Hid, HM.out]
        cases o2 with
        | none => show 0 < _; omega
        | some q =>
          have hq := HLt2.out q rfl
          have : idxV bl t.length (ptrTo bl (some q)) = 1 + q := idxV_at (by omega) HN.out.inj
          omega
      have HY := Lib.hid hy
      have HP2 : Hid (parJ t p p = o2) := ho2.symm
      clear ho2 hlt hy
      by_cases hin : p ∈ ms
      · have hpos : (0 : Int) < (ms.length : Int) := by
          have := List.length_pos_of_mem hin; omega
        have HE : Hid (acc = R) := by
          have := hacc.out
          rw [show upFrom t (some p) = p :: anc t p from rfl, till_in hin] at this
          unfold elsOf at this
          simpa [Hid, elsOf] using this
        rw [decide_eq_true hin] at HIs
        clear hin gy gq
        go_wp2_with fail
        refine HIs.out.mono ?_
        rintro e w1 ⟨rfl, rfl⟩
        go_wp2_with fail
        go_ret
        refine ⟨_, rfl, ⟨av, cv, ?_, ?_⟩, HB.out⟩
        · rw [← HE.out]; rfl
        · rw [← HE.out]; exact HOwn.out
      · have hE0 : elsOf t (till ms (upFrom t (some p))) = (if isEl t p = true then [p] else []) ++ elsOf t (till ms (upFrom t o2)) := by
          rw [show upFrom t (some p) = p :: anc t p from rfl, till_out hin, elsOf_cons, HUp2.out]
        rw [decide_eq_false hin] at HIs
        clear hin
        cases he : isEl t p
        · have hyz : (y == 3) = false := HY.out.trans he
          have HE : Hid (acc ++ elsOf t (till ms (upFrom t o2)) = R) := by
            rw [Hid, ← hacc.out, hE0, he]; simp
          clear hE0 he
          by_cases hm0 : ms.length = 0
          · have hz : ¬ (0 : Int) < (ms.length : Int) := by omega
            clear hm0
            go_wp2_with fail
            go_roundw
            case rel => exact ⟨o2, acc, av, cv, rfl, fun q hq => by have := HLt2.out q hq; omega, HE, rfl, HOwn.out, HB.out⟩
            case measure => exact HMe.out
          · have hz : (0 : Int) < (ms.length : Int) := by omega
            clear hm0
            go_wp2_with fail
            refine HIs.out.mono ?_
            rintro e w1 ⟨rfl, rfl⟩
            go_wp2_with fail
            go_roundw
            case rel => exact ⟨o2, acc, av, cv, rfl, fun q hq => by have := HLt2.out q hq; omega, HE, rfl, HOwn.out, HB.out⟩
            case measure => exact HMe.out
        · have hyz : (y == 3) = true := HY.out.trans he
          have HE : Hid ((acc ++ [p]) ++ elsOf t (till ms (upFrom t o2)) = R) := by
            rw [Hid, ← hacc.out, hE0, he]; simp
          clear hE0 he
          by_cases hm0 : ms.length = 0
          · have hz : ¬ (0 : Int) < (ms.length : Int) := by omega
            clear hm0
            go_wp2_with (at_builtin; refine wpList_append_own _ rfl _ _ 86 rfl W.heap.size 75 i0 (.pointer none) 1 8 Try.underlying86 hinf hz0 hz1 hz2 rfl (by decide) _ _ _ rfl (HOwn.out.alloc _) ⟨wr.heap.size, 0, none⟩ 1 1 [.pointer (some ⟨bl p, 0, none⟩)] rfl rfl (cell_one_new _ _ _) (by intro u hu; simp at hu; subst hu; rfl) (by unfold maxLen; omega) (by omega) (by simp; omega) ?_)
            intro v' w1 hown' hgrow _
            obtain ⟨a3, c3, hv2⟩ := own_slice hown'
            rw [hv2] at hown' ⊢
            have hb1 : Below W.heap.size W w1 := (HB.out.alloc HB.out.size _).grown hgrow (by simp; omega) (fun q hq => (HOwn.out.lt q hq).1)
            have HO1 : Hid (w1.ownsRow W.heap.size 75 1 (.slice a3 (acc ++ [p]).length c3) (acc ++ [p]).length (ptrs bl (acc ++ [p]))) := by
              rw [Hid, ptrs_snoc, List.length_append]; exact hown'
            have gq1 := (HT.out.kept hb1).up_ p hp
            rw [HP2.out] at gq1
            have HB1 := Lib.hid hb1
            clear hown' hgrow hv2 hb1
            go_wp2_with fail
            go_roundw
            case rel => exact ⟨o2, acc ++ [p], a3, c3, rfl, fun q hq => by have := HLt2.out q hq; omega, HE, by simp, HO1.out, HB1.out⟩
            case measure => exact HMe.out
          · have hz : (0 : Int) < (ms.length : Int) := by omega
            clear hm0
            go_wp2_with fail
            refine HIs.out.mono ?_
            rintro e w1 ⟨rfl, rfl⟩
            go_wp2_with (at_builtin; refine wpList_append_own _ rfl _ _ 86 rfl W.heap.size 75 i0 (.pointer none) 1 8 Try.underlying86 hinf hz0 hz1 hz2 rfl (by decide) _ _ _ rfl (HOwn.out.alloc _) ⟨wr.heap.size, 0, none⟩ 1 1 [.pointer (some ⟨bl p, 0, none⟩)] rfl rfl (cell_one_new _ _ _) (by intro u hu; simp at hu; subst hu; rfl) (by unfold maxLen; omega) (by omega) (by simp; omega) ?_)
            intro v' w1 hown' hgrow _
            obtain ⟨a3, c3, hv2⟩ := own_slice hown'
            rw [hv2] at hown' ⊢
            have hb1 : Below W.heap.size W w1 := (HB.out.alloc HB.out.size _).grown hgrow (by simp; omega) (fun q hq => (HOwn.out.lt q hq).1)
            have HO1 : Hid (w1.ownsRow W.heap.size 75 1 (.slice a3 (acc ++ [p]).length c3) (acc ++ [p]).length (ptrs bl (acc ++ [p]))) := by
              rw [Hid, ptrs_snoc, List.length_append]; exact hown'
            have gq1 := (HT.out.kept hb1).up_ p hp
            rw [HP2.out] at gq1
            have HB1 := Lib.hid hb1
            clear hown' hgrow hv2 hb1
            go_wp2_with fail
            go_roundw
            case rel => exact ⟨o2, acc ++ [p], a3, c3, rfl, fun q hq => by have := HLt2.out q hq; omega, HE, by simp, HO1.out, HB1.out⟩
            case measure => exact HMe.out
end Go.Proofs.Ytgilbckfkngaiaa
