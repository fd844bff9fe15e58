/- mapNodes: what a closure gives for each node, each once. -/
import Derived.Test.YtgilbckfkngaiaaT46
import Derived.Laws.MakeOwn
import Derived.Laws.Entries
namespace Go.Proofs.Ytgilbckfkngaiaa
open Go.RowKit
set_option linter.unusedVariables false

theorem run_makeMap_hint {P : Program} (t k e : TypeId) (kd : IntKind) (n : Int) (ht : P.underlying t = some (.map k e)) (w : World) :
    (Instr.makeMap t (some (.int kd n))).run P w = .ok (.map (some w.heap.size)) (w.alloc (.map #[] 0)) := by
  simp [Instr.makeMap, run_underlying ht]; rfl

/-- All that is given for some nodes, each once, in the order in which it is met. -/
def mapN (ns : List Nat) (fs : Nat → List Nat) : List Nat := ns.foldl (fun acc i => addN acc (fs i)) []
theorem mapN_snoc (ns : List Nat) (fs : Nat → List Nat) (i : Nat) : mapN (ns ++ [i]) fs = addN (mapN ns fs) (fs i) := by
  unfold mapN
  rw [List.foldl_append]
  rfl
theorem rev_indN {P : List Nat → Prop} (h0 : P []) (h1 : ∀ l x, P l → P (l ++ [x])) : ∀ l, P l := by
  intro l
  have key : ∀ n, ∀ l : List Nat, l.length = n → P l := by
    intro n
    induction n with
    | zero => intro l h; rw [List.eq_nil_of_length_eq_zero h]; exact h0
    | succ n ih =>
      intro l h
      have hne : l ≠ [] := by intro e; rw [e] at h; simp at h
      rw [← List.dropLast_concat_getLast hne]
      exact h1 _ _ (ih _ (by simp [h]))
  exact key _ l rfl
theorem mapN_mem (ns : List Nat) (fs : Nat → List Nat) : ∀ x, x ∈ mapN ns fs ↔ ∃ i ∈ ns, x ∈ fs i := by
  induction ns using rev_indN with
  | h0 => intro x; simp [mapN]
  | h1 l y ih =>
    intro x
    rw [mapN_snoc, addN_mem, ih x]
    constructor
    · rintro (⟨i, hi, hx⟩ | hx)
      · exact ⟨i, by simp [hi], hx⟩
      · exact ⟨y, by simp, hx⟩
    · rintro ⟨i, hi, hx⟩
      rw [List.mem_append, List.mem_singleton] at hi
      rcases hi with hi | rfl
      · exact .inl ⟨i, hi, hx⟩
      · exact .inr hx
theorem mapN_nodup (ns : List Nat) (fs : Nat → List Nat) (h : ∀ i ∈ ns, (fs i).Nodup) : (mapN ns fs).Nodup := by
  induction ns using rev_indN with
  | h0 => simp [mapN]
  | h1 l y ih =>
    rw [mapN_snoc]
    exact addN_nodup (ih (fun i hi => h i (by simp [hi]))) (h y (by simp))
theorem mapN_facts {n : Nat} {fs : Nat → List Nat} (hn : n ≤ 200) (hfs : ∀ i, i < n → (∀ m ∈ fs i, m < n) ∧ (fs i).Nodup ∧ (fs i).length ≤ 200) (ns : List Nat) (hns : ∀ k ∈ ns, k < n) : (mapN ns fs).length ≤ n ∧ ∀ m ∈ mapN ns fs, m < n := by
  have h2 : ∀ m ∈ mapN ns fs, m < n := by
    intro m hm
    obtain ⟨i, hi, hx⟩ := (mapN_mem ns fs m).1 hm
    exact (hfs i (hns i hi)).1 m hx
  exact ⟨nodup_len (mapN_nodup ns fs (fun i hi => (hfs i (hns i hi)).2.1)) h2, h2⟩

def MapRel (bl : Nat → Nat) (ns : List Nat) (fs : Nat → List Nat) (w : World) (v x : Value) (wr : World) : Prop :=
  ∃ (k : Nat) (a : Option Addr) (c : Nat), k ≤ ns.length ∧ x = .int .i64 (k : Nat) ∧ v = .slice a (mapN (ns.take k) fs).length c ∧
    wr.ownsRow w.heap.size 75 1 (.slice a (mapN (ns.take k) fs).length c) (mapN (ns.take k) fs).length (ptrs bl (mapN (ns.take k) fs)) ∧ PSet bl (mapN (ns.take k) fs) w.heap.size wr ∧ Below w.heap.size w wr

/-- What a closure gives for a node. -/
def Gives_find (bl : Nat → Nat) (n : Nat) (fs : Nat → List Nat) (x0 : Option Addr) (w : World) : Prop :=
  ∀ (W : World) (i k : Nat), Below w.heap.size w W → i < n → k ≤ 100000 → Calls Try.prog 185 #[.int .i64 k, .pointer (some ⟨bl i, 0, none⟩), .pointer x0] W (OwnNPost bl (fs i) W)

set_option maxRecDepth 100000 in
set_option maxHeartbeats 2000000 in
theorem mapNodes_find (bl : Nat → Nat) (n : Nat) (ns : List Nat) (fs : Nat → List Nat) (hns : ∀ k ∈ ns, k < n) (hfs : ∀ i, i < n → (∀ m ∈ fs i, m < n) ∧ (fs i).Nodup ∧ (fs i).length ≤ 200) (hn : n ≤ 200) (hlen : ns.length ≤ 400) (a : Option Addr) (c : Nat) (x0 : Option Addr) (w : World) (h : RSl w w.heap.size a (ptrs bl ns)) (hN : NodesAt bl n w) (hF : Gives_find bl n fs x0 w) :
    Calls Try.prog 153 #[.slice a ns.length c, .func (.func 185) #[] #[.pointer x0]] w (OwnNPost bl (mapN ns fs) w) := by
  have hmk : ∀ (m : Int) (w : World), (Instr.makeMap 184 (some (.int .i64 m))).run Try.prog w = .ok (.map (some w.heap.size)) (w.alloc (.map #[] 0)) := fun m w => run_makeMap_hint _ _ _ _ _ Try.underlying184 w
  have HH := Lib.hid h
  have HN := Lib.hid hN
  have HF := Lib.hid hF
  have HNs := Lib.hid hns
  have HFs := Lib.hid hfs
  clear h hN hF hns hfs
  by_cases h0 : ns.length = 0
  · have hz : ((ns.length : Int) == 0) = true := beq_iff_eq.2 (by omega)
    have HE : Hid (mapN ns fs = []) := by rw [Hid, List.eq_nil_of_length_eq_zero h0]; rfl
    clear h0 hmk
    go_enter Try.func153, Try.ntmps153
    go_wp2_with fail
    all_goals
      go_ret
      refine ⟨_, rfl, ?_, Below.refl _ _⟩
      rw [HE.out]
      exact ⟨none, 0, rfl, World.ownsRow_nil _ _ _ _⟩
  · have hz : ((ns.length : Int) == 0) = false := beq_eq_false_iff_ne.2 (by omega)
    have hpos : 0 < ns.length := by omega
    clear h0
    by_cases h1 : ns.length = 1
    · have hz1 : ((ns.length : Int) == 1) = true := beq_iff_eq.2 (by omega)
      obtain ⟨b, o, rfl, hbB, hc⟩ := HH.out.at_ (by rw [ptrs_length]; omega)
      have g1 := hc 0 (by rw [ptrs_length]; exact hpos)
      rw [ptrs_at hpos, Nat.add_zero] at g1
      have hi := HNs.out ns[0] (List.getElem_mem hpos)
      have HE : Hid (mapN ns fs = fs ns[0]) := by
        have e : ns = [ns[0]] := by
          apply List.ext_getElem
          · simp; omega
          · intro i q1 q2
            have : i = 0 := by omega
            subst this; rfl
        rw [Hid]
        conv => lhs; rw [e]
        show addN [] (fs ns[0]) = _
        simp [addN]
      have HC := Lib.hid (HF.out w ns[0] 0 (Below.refl _ _) hi (by omega))
      obtain ⟨j, hj⟩ : ∃ j, j = ns[0] := ⟨_, rfl⟩
      rw [← hj] at g1 HE HC
      clear hc hj h1 hmk hi
      rw [HE.out]
      go_enter Try.func153, Try.ntmps153
      go_wp2_with fail
      refine HC.out.mono ?_
      rintro e w1 ⟨v, rfl, hown, hb1⟩
      have HO := Lib.hid hown
      have HB1 := Lib.hid hb1
      clear hown hb1
      obtain ⟨a1, c1, rfl, hown⟩ := HO.out
      clear hown
      go_wp2_with fail
      go_ret
      exact ⟨_, rfl, HO.out, HB1.out⟩
    · have hz1 : ((ns.length : Int) == 1) = false := beq_eq_false_iff_ne.2 (by omega)
      clear h1
      have hb0 : Below w.heap.size w (w.alloc (.map #[] 0)) := (Below.refl _ _).alloc (Nat.le_refl _) _
      have HB0 := Lib.hid hb0
      have HP0 := Lib.hid (PSet.new bl w)
      clear hb0
      go_enter Try.func153, Try.ntmps153
      go_wp2_with fail
      go_loopw [4, 25] (fun v x wr => MapRel bl ns fs w v x wr) (fun _ x _ => ns.length - (intOf x).toNat)
      case atStart => exact ⟨0, none, 0, by omega, rfl, rfl, World.ownsRow_nil _ _ _ _, HP0.out, HB0.out⟩
      case round =>
        clear hmk
        obtain ⟨k, a1, c1, hk, rfl, rfl, hown, hps, hb⟩ := hrel
        by_cases hlt : k < ns.length
        · obtain ⟨b, o, rfl, hbB, hc⟩ := HH.out.at_ (by rw [ptrs_length]; omega)
          have g1 := hc k (by rw [ptrs_length]; exact hlt)
          rw [ptrs_at hlt] at g1
          replace g1 := (hb.cell (p := ⟨b, _, none⟩) hbB).trans g1
          have hi := HNs.out ns[k] (List.getElem_mem hlt)
          have HC := Lib.hid (HF.out wr ns[k] k hb hi (by omega))
          have HFk := Lib.hid (HFs.out ns[k] hi)
          have HJ : Hid (mapN (ns.take (k + 1)) fs = addN (mapN (ns.take k) fs) (fs ns[k])) := by
            rw [Hid, List.take_succ_eq_append_getElem hlt, mapN_snoc]
          have hMl : (mapN (ns.take k) fs).length ≤ n ∧ ∀ m ∈ mapN (ns.take k) fs, m < n :=
            mapN_facts hn HFs.out _ (fun x hx => HNs.out x (List.mem_of_mem_take hx))
          obtain ⟨j, hj⟩ : ∃ j, j = ns[k] := ⟨_, rfl⟩
          rw [← hj] at g1 HC HFk HJ
          obtain ⟨L, hLL⟩ : ∃ L, L = mapN (ns.take k) fs := ⟨_, rfl⟩
          rw [← hLL] at hown hps hMl HJ ⊢
          have HLm := Lib.hid hMl.2
          have hLl := hMl.1
          have HW := Lib.hid hown
          have HPs := Lib.hid hps
          have HB := Lib.hid hb
          have hsz := hb.size
          clear hc hj hown hps hLL hMl hi hb
          go_wp2_with fail
          refine HC.out.mono ?_
          rintro e w1 ⟨v, rfl, ⟨a2, c2, rfl, hvals⟩, hb1⟩
          obtain ⟨M, hM⟩ : ∃ M, M = fs j := ⟨_, rfl⟩
          rw [← hM] at hvals HFk HJ ⊢
          have hMl := HFk.out.2.2
          have HB1 := Lib.hid (bnext HB.out hb1)
          have HPs1 := Lib.hid (HPs.out.block (hb1.block _ HPs.out.lt))
          have HW1 := Lib.hid (own_kept HW.out (fun b _ hb => hb1.block b hb))
          have hsz1 := hb1.size
          by_cases hm0 : M.length = 0
          · have HE : Hid (mapN (ns.take (k + 1)) fs = L) := by
              rw [Hid, HJ.out, List.eq_nil_of_length_eq_zero hm0]; simp [addN]
            clear HJ hM hvals hb1
            have hzm : ¬ (0 : Int) < (M.length : Int) := by omega
            clear hm0
            go_wp2_with fail
            go_roundw
            case rel => exact ⟨k + 1, a1, c1, by omega, by go_num, by rw [HE.out], by rw [HE.out]; exact HW1.out, by rw [HE.out]; exact HPs1.out, HB1.out⟩
            case measure => simp [intOf]; omega
          · have hzm : (0 : Int) < (M.length : Int) := by omega
            have hrow : RSl w1 w1.heap.size a2 (ptrs bl M) := by
              obtain ⟨a3, c3, hv, _, hrs⟩ := RSl.own hvals
              cases hv
              exact hrs
            have HD := Lib.hid (dupS_any bl n w.heap.size L M HLm.out HFk.out.1 HFk.out.2.1 (by omega) (by omega) a1 c1 a2 c2 w.heap.size w1 HB1.out.size HW1.out hrow (fun b o e => by
              have hbg : wr.heap.size ≤ b := by
                rcases hvals.2 with ⟨hv, _⟩ | ⟨g', cap, cur, hv, hg, _⟩
                · rw [e] at hv; cases hv
                · rw [e] at hv; cases hv; exact hg
              refine ⟨fun e2 => ?_, ?_⟩
              · have := (HW.out.lt b e2.symm).2; omega
              · have := HPs.out.lt; omega) (HN.out.kept HB1.out) HPs1.out)
            clear hM hvals hb1 hrow hm0
            go_wp2_with fail
            refine HD.out.mono ?_
            rintro e w2 ⟨a3, c3, rfl, hown3, hps3, hk3, _⟩
            have HB2 : Hid (Below w.heap.size w w2) := HB1.out.trans (hk3.below HB1.out.size (fun q hq => (HW1.out.lt q hq).1) (Nat.le_refl _))
            have HO3 := Lib.hid hown3
            have HPs3 := Lib.hid hps3
            clear hown3 hps3 hk3
            go_wp2_with fail
            go_roundw
            case rel => exact ⟨k + 1, a3, c3, by omega, by go_num, by rw [HJ.out], by rw [HJ.out]; exact HO3.out, by rw [HJ.out]; exact HPs3.out, HB2.out⟩
            case measure => simp [intOf]; omega
        · go_wp2_with fail
          go_ret
          have e : k = ns.length := by omega
          subst e
          rw [List.take_length] at hown ⊢
          exact ⟨_, rfl, ⟨a1, c1, rfl, hown⟩, hb⟩

/-- What a closure gives for a node. -/
def Gives_kids (bl : Nat → Nat) (n : Nat) (fs : Nat → List Nat) (x0 : Option Addr) (w : World) : Prop :=
  ∀ (W : World) (i k : Nat), Below w.heap.size w W → i < n → k ≤ 100000 → Calls Try.prog 159 #[.int .i64 k, .pointer (some ⟨bl i, 0, none⟩), .pointer x0] W (OwnNPost bl (fs i) W)

set_option maxRecDepth 100000 in
set_option maxHeartbeats 2000000 in
theorem mapNodes_kids (bl : Nat → Nat) (n : Nat) (ns : List Nat) (fs : Nat → List Nat) (hns : ∀ k ∈ ns, k < n) (hfs : ∀ i, i < n → (∀ m ∈ fs i, m < n) ∧ (fs i).Nodup ∧ (fs i).length ≤ 200) (hn : n ≤ 200) (hlen : ns.length ≤ 400) (a : Option Addr) (c : Nat) (x0 : Option Addr) (w : World) (h : RSl w w.heap.size a (ptrs bl ns)) (hN : NodesAt bl n w) (hF : Gives_kids bl n fs x0 w) :
    Calls Try.prog 153 #[.slice a ns.length c, .func (.func 159) #[] #[.pointer x0]] w (OwnNPost bl (mapN ns fs) w) := by
  have hmk : ∀ (m : Int) (w : World), (Instr.makeMap 184 (some (.int .i64 m))).run Try.prog w = .ok (.map (some w.heap.size)) (w.alloc (.map #[] 0)) := fun m w => run_makeMap_hint _ _ _ _ _ Try.underlying184 w
  have HH := Lib.hid h
  have HN := Lib.hid hN
  have HF := Lib.hid hF
  have HNs := Lib.hid hns
  have HFs := Lib.hid hfs
  clear h hN hF hns hfs
  by_cases h0 : ns.length = 0
  · have hz : ((ns.length : Int) == 0) = true := beq_iff_eq.2 (by omega)
    have HE : Hid (mapN ns fs = []) := by rw [Hid, List.eq_nil_of_length_eq_zero h0]; rfl
    clear h0 hmk
    go_enter Try.func153, Try.ntmps153
    go_wp2_with fail
    all_goals
      go_ret
      refine ⟨_, rfl, ?_, Below.refl _ _⟩
      rw [HE.out]
      exact ⟨none, 0, rfl, World.ownsRow_nil _ _ _ _⟩
  · have hz : ((ns.length : Int) == 0) = false := beq_eq_false_iff_ne.2 (by omega)
    have hpos : 0 < ns.length := by omega
    clear h0
    by_cases h1 : ns.length = 1
    · have hz1 : ((ns.length : Int) == 1) = true := beq_iff_eq.2 (by omega)
      obtain ⟨b, o, rfl, hbB, hc⟩ := HH.out.at_ (by rw [ptrs_length]; omega)
      have g1 := hc 0 (by rw [ptrs_length]; exact hpos)
      rw [ptrs_at hpos, Nat.add_zero] at g1
      have hi := HNs.out ns[0] (List.getElem_mem hpos)
      have HE : Hid (mapN ns fs = fs ns[0]) := by
        have e : ns = [ns[0]] := by
          apply List.ext_getElem
          · simp; omega
          · intro i q1 q2
            have : i = 0 := by omega
            subst this; rfl
        rw [Hid]
        conv => lhs; rw [e]
        show addN [] (fs ns[0]) = _
        simp [addN]
      have HC := Lib.hid (HF.out w ns[0] 0 (Below.refl _ _) hi (by omega))
      obtain ⟨j, hj⟩ : ∃ j, j = ns[0] := ⟨_, rfl⟩
      rw [← hj] at g1 HE HC
      clear hc hj h1 hmk hi
      rw [HE.out]
      go_enter Try.func153, Try.ntmps153
      go_wp2_with fail
      refine HC.out.mono ?_
      rintro e w1 ⟨v, rfl, hown, hb1⟩
      have HO := Lib.hid hown
      have HB1 := Lib.hid hb1
      clear hown hb1
      obtain ⟨a1, c1, rfl, hown⟩ := HO.out
      clear hown
      go_wp2_with fail
      go_ret
      exact ⟨_, rfl, HO.out, HB1.out⟩
    · have hz1 : ((ns.length : Int) == 1) = false := beq_eq_false_iff_ne.2 (by omega)
      clear h1
      have hb0 : Below w.heap.size w (w.alloc (.map #[] 0)) := (Below.refl _ _).alloc (Nat.le_refl _) _
      have HB0 := Lib.hid hb0
      have HP0 := Lib.hid (PSet.new bl w)
      clear hb0
      go_enter Try.func153, Try.ntmps153
      go_wp2_with fail
      go_loopw [4, 25] (fun v x wr => MapRel bl ns fs w v x wr) (fun _ x _ => ns.length - (intOf x).toNat)
      case atStart => exact ⟨0, none, 0, by omega, rfl, rfl, World.ownsRow_nil _ _ _ _, HP0.out, HB0.out⟩
      case round =>
        clear hmk
        obtain ⟨k, a1, c1, hk, rfl, rfl, hown, hps, hb⟩ := hrel
        by_cases hlt : k < ns.length
        · obtain ⟨b, o, rfl, hbB, hc⟩ := HH.out.at_ (by rw [ptrs_length]; omega)
          have g1 := hc k (by rw [ptrs_length]; exact hlt)
          rw [ptrs_at hlt] at g1
          replace g1 := (hb.cell (p := ⟨b, _, none⟩) hbB).trans g1
          have hi := HNs.out ns[k] (List.getElem_mem hlt)
          have HC := Lib.hid (HF.out wr ns[k] k hb hi (by omega))
          have HFk := Lib.hid (HFs.out ns[k] hi)
          have HJ : Hid (mapN (ns.take (k + 1)) fs = addN (mapN (ns.take k) fs) (fs ns[k])) := by
            rw [Hid, List.take_succ_eq_append_getElem hlt, mapN_snoc]
          have hMl : (mapN (ns.take k) fs).length ≤ n ∧ ∀ m ∈ mapN (ns.take k) fs, m < n :=
            mapN_facts hn HFs.out _ (fun x hx => HNs.out x (List.mem_of_mem_take hx))
          obtain ⟨j, hj⟩ : ∃ j, j = ns[k] := ⟨_, rfl⟩
          rw [← hj] at g1 HC HFk HJ
          obtain ⟨L, hLL⟩ : ∃ L, L = mapN (ns.take k) fs := ⟨_, rfl⟩
          rw [← hLL] at hown hps hMl HJ ⊢
          have HLm := Lib.hid hMl.2
          have hLl := hMl.1
          have HW := Lib.hid hown
          have HPs := Lib.hid hps
          have HB := Lib.hid hb
          have hsz := hb.size
          clear hc hj hown hps hLL hMl hi hb
          go_wp2_with fail
          refine HC.out.mono ?_
          rintro e w1 ⟨v, rfl, ⟨a2, c2, rfl, hvals⟩, hb1⟩
          obtain ⟨M, hM⟩ : ∃ M, M = fs j := ⟨_, rfl⟩
          rw [← hM] at hvals HFk HJ ⊢
          have hMl := HFk.out.2.2
          have HB1 := Lib.hid (bnext HB.out hb1)
          have HPs1 := Lib.hid (HPs.out.block (hb1.block _ HPs.out.lt))
          have HW1 := Lib.hid (own_kept HW.out (fun b _ hb => hb1.block b hb))
          have hsz1 := hb1.size
          by_cases hm0 : M.length = 0
          · have HE : Hid (mapN (ns.take (k + 1)) fs = L) := by
              rw [Hid, HJ.out, List.eq_nil_of_length_eq_zero hm0]; simp [addN]
            clear HJ hM hvals hb1
            have hzm : ¬ (0 : Int) < (M.length : Int) := by omega
            clear hm0
            go_wp2_with fail
            go_roundw
            case rel => exact ⟨k + 1, a1, c1, by omega, by go_num, by rw [HE.out], by rw [HE.out]; exact HW1.out, by rw [HE.out]; exact HPs1.out, HB1.out⟩
            case measure => simp [intOf]; omega
          · have hzm : (0 : Int) < (M.length : Int) := by omega
            have hrow : RSl w1 w1.heap.size a2 (ptrs bl M) := by
              obtain ⟨a3, c3, hv, _, hrs⟩ := RSl.own hvals
              cases hv
              exact hrs
            have HD := Lib.hid (dupS_any bl n w.heap.size L M HLm.out HFk.out.1 HFk.out.2.1 (by omega) (by omega) a1 c1 a2 c2 w.heap.size w1 HB1.out.size HW1.out hrow (fun b o e => by
              have hbg : wr.heap.size ≤ b := by
                rcases hvals.2 with ⟨hv, _⟩ | ⟨g', cap, cur, hv, hg, _⟩
                · rw [e] at hv; cases hv
                · rw [e] at hv; cases hv; exact hg
              refine ⟨fun e2 => ?_, ?_⟩
              · have := (HW.out.lt b e2.symm).2; omega
              · have := HPs.out.lt; omega) (HN.out.kept HB1.out) HPs1.out)
            clear hM hvals hb1 hrow hm0
            go_wp2_with fail
            refine HD.out.mono ?_
            rintro e w2 ⟨a3, c3, rfl, hown3, hps3, hk3, _⟩
            have HB2 : Hid (Below w.heap.size w w2) := HB1.out.trans (hk3.below HB1.out.size (fun q hq => (HW1.out.lt q hq).1) (Nat.le_refl _))
            have HO3 := Lib.hid hown3
            have HPs3 := Lib.hid hps3
            clear hown3 hps3 hk3
            go_wp2_with fail
            go_roundw
            case rel => exact ⟨k + 1, a3, c3, by omega, by go_num, by rw [HJ.out], by rw [HJ.out]; exact HO3.out, by rw [HJ.out]; exact HPs3.out, HB2.out⟩
            case measure => simp [intOf]; omega
        · go_wp2_with fail
          go_ret
          have e : k = ns.length := by omega
          subst e
          rw [List.take_length] at hown ⊢
          exact ⟨_, rfl, ⟨a1, c1, rfl, hown⟩, hb⟩

end Go.Proofs.Ytgilbckfkngaiaa
