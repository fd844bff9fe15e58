/- Nodes come into a list, with the set of those that are there. -/
import Derived.Test.YtmhhfljbocbolaaT45
namespace Go.Proofs.Ytmhhfljbocbolaa
open Go.RowKit
set_option linter.unusedVariables false

/-- Nothing that was there has turned but two blocks. -/
structure Kept2 (w w' : World) (row : Option Nat) (bm : Nat) : Prop where
  os : w'.os = w.os
  tape : w'.tape = w.tape
  output : w'.output = w.output
  size : w.heap.size ≤ w'.heap.size
  block : ∀ q, q < w.heap.size → some q ≠ row → q ≠ bm → w'.heap[q]? = w.heap[q]?

theorem Kept2.refl (w : World) (row : Option Nat) (bm : Nat) : Kept2 w w row bm := ⟨rfl, rfl, rfl, Nat.le_refl _, fun _ _ _ _ => rfl⟩
theorem Kept2.below {w w' : World} {row : Option Nat} {bm B : Nat} (h : Kept2 w w' row bm) (hB : B ≤ w.heap.size) (hr : ∀ q, row = some q → B ≤ q) (hm : B ≤ bm) : Below B w w' :=
  ⟨h.os, h.tape, h.output, h.size, fun k hk => h.block k (by omega) (fun e => by have := hr k e.symm; omega) (by omega)⟩

theorem RSl.kept2 {w w' : World} {a : Option Addr} {xs : List Value} {row : Option Nat} {bm : Nat} (h : RSl w w.heap.size a xs) (hb : Kept2 w w' row bm) (hr : ∀ b o, a = some ⟨b, o, none⟩ → some b ≠ row ∧ b ≠ bm) : RSl w' w'.heap.size a xs := by
  rcases h with h0 | ⟨b, o, ha, hbB, hc⟩
  · exact .inl h0
  · refine .inr ⟨b, o, ha, Nat.lt_of_lt_of_le hbB hb.size, fun i hi => ?_⟩
    rw [World.cell?_of_block (hb.block b hbB (hr b o ha).1 (hr b o ha).2)]
    exact hc i hi

theorem NodesAt.kept2 {bl : Nat → Nat} {n : Nat} {w w' : World} {row : Option Nat} {bm : Nat} (h : NodesAt bl n w) (hb : Kept2 w w' row bm) (hr : ∀ i, i < n → some (bl i) ≠ row ∧ bl i ≠ bm) : NodesAt bl n w' := by
  refine ⟨h.inj, fun i hi => Nat.lt_of_lt_of_le (h.lt i hi) hb.size, fun i hi => ?_⟩
  obtain ⟨cs, h1, h2⟩ := h.blk i hi
  exact ⟨cs, (hb.block _ (h.lt i hi) (hr i hi).1 (hr i hi).2).trans h1, h2⟩

theorem own_neMap {w : World} {base e size n : Nat} {v : Value} {xs : List Value} (h : w.ownsRow base e size v n xs) {bl : Nat → Nat} {ms : List Nat} {bm : Nat} (hp : PSet bl ms bm w) : v.ownBlock ≠ some bm := by
  obtain ⟨es, cl, hb, _⟩ := hp
  rcases h.2 with ⟨rfl, _⟩ | ⟨g', cap, cur, rfl, _, hh, _⟩
  · simp [Value.ownBlock]
  · intro he
    have e1 : g' = bm := by simpa [Value.ownBlock] using he
    subst e1
    rw [hh] at hb
    simp at hb
theorem node_neMap {bl : Nat → Nat} {n : Nat} {w : World} (h : NodesAt bl n w) {ms : List Nat} {bm : Nat} (hp : PSet bl ms bm w) : ∀ i, i < n → bl i ≠ bm := by
  intro i hi e
  obtain ⟨cs, h1, _⟩ := h.blk i hi
  obtain ⟨es, cl, hb, _⟩ := hp
  rw [e, hb] at h1
  simp at h1

def DupSPost (bl : Nat → Nat) (B : Nat) (ns : List Nat) (row : Option Nat) (bm : Nat) (w : World) (e : Ending) (w' : World) : Prop :=
  ∃ a c, e = .returned (.slice a ns.length c) ∧ w'.ownsRow B 69 1 (.slice a ns.length c) ns.length (ptrs bl ns) ∧ PSet bl ns bm w' ∧ Kept2 w w' row bm ∧ ((Value.slice a ns.length c).ownBlock = row ∨ ∃ g, (Value.slice a ns.length c).ownBlock = some g ∧ w.heap.size ≤ g)

def DupSRel (bl : Nat → Nat) (B : Nat) (ns ms : List Nat) (row : Option Nat) (bm : Nat) (w : World) (v x : Value) (wr : World) : Prop :=
  ∃ (k : Nat) (a : Option Addr) (c : Nat), k ≤ ms.length ∧ x = .int .i64 (k : Nat) ∧ v = .slice a (addN ns (ms.take k)).length c ∧
    wr.ownsRow B 69 1 (.slice a (addN ns (ms.take k)).length c) (addN ns (ms.take k)).length (ptrs bl (addN ns (ms.take k))) ∧ PSet bl (addN ns (ms.take k)) bm wr ∧ Kept2 w wr row bm ∧
    ((Value.slice a (addN ns (ms.take k)).length c).ownBlock = row ∨ ∃ g, (Value.slice a (addN ns (ms.take k)).length c).ownBlock = some g ∧ w.heap.size ≤ g)

set_option maxRecDepth 100000 in
set_option maxHeartbeats 2000000 in
theorem dupS_any (bl : Nat → Nat) (n B : Nat) (ns ms : List Nat) (hns : ∀ k ∈ ns, k < n) (hms : ∀ k ∈ ms, k < n) (hnd : ms.Nodup) (hlen : ns.length ≤ 100000) (hlem : ms.length ≤ 100000) (a : Option Addr) (c : Nat) (a2 : Option Addr) (c2 : Nat) (bm : Nat) (w : World) (hB : B ≤ w.heap.size)
    (hown : w.ownsRow B 69 1 (.slice a ns.length c) ns.length (ptrs bl ns)) (h2 : RSl w w.heap.size a2 (ptrs bl ms)) (hne : ∀ b o, a2 = some ⟨b, o, none⟩ → some b ≠ (Value.slice a ns.length c).ownBlock ∧ b ≠ bm) (hN : NodesAt bl n w) (hP : PSet bl ns bm w) :
    Calls Try.prog 81 #[.slice a ns.length c, .slice a2 ms.length c2, .map (some bm)] w (DupSPost bl B (addN ns ms) (Value.slice a ns.length c).ownBlock bm w) := by
  obtain ⟨row, hrow⟩ : ∃ row, row = (Value.slice a ns.length c).ownBlock := ⟨_, rfl⟩
  have hrn : ∀ i, i < n → some (bl i) ≠ row ∧ bl i ≠ bm := by
    intro i hi
    refine ⟨fun e => ?_, node_neMap hN hP i hi⟩
    obtain ⟨cs, h1, _⟩ := hN.blk i hi
    exact own_ne hown h1 (by decide) (by rw [← hrow, e])
  rw [← hrow] at hne ⊢
  have HRow := Lib.hid hrow
  have HH := Lib.hid h2
  have HNe := Lib.hid hne
  have HNs := Lib.hid hns
  have HMs := Lib.hid hms
  have HNd := Lib.hid hnd
  have HN := Lib.hid hN
  have HRn := Lib.hid hrn
  have HOwn := Lib.hid hown
  have HP := Lib.hid hP
  have hbml := hP.lt
  obtain ⟨i0, hinf, hz0, hz1, hz2⟩ := info_parts Try.infoP
  have qm : ∀ w : World, (binOp .eql 140 (.map (some bm)) (.map none)).run Try.prog w = .ok (.bool false) w := fun w => run_eql_map_nil w _ _ _ (some bm) Try.underlying140
  clear h2 hns hms hnd hN hrow hne hrn hown hP
  go_enter Try.func81, Try.ntmps81
  go_wp2_with fail
  go_loopw [0, 58] (fun v x wr => DupSRel bl B ns ms row bm w v x wr) (fun _ x _ => ms.length - (intOf x).toNat)
  case atStart =>
    refine ⟨0, a, c, by omega, rfl, by simp [addN], by simpa [addN] using HOwn.out, by simpa [addN] using HP.out, Kept2.refl w _ _, .inl ?_⟩
    have : (addN ns (ms.take 0)).length = ns.length := by simp [addN]
    rw [this]; exact HRow.out.symm
  case round =>
    obtain ⟨k, a1, c1, hk, rfl, rfl, hown, hps, hg, hat⟩ := hrel
    by_cases hlt : k < ms.length
    · obtain ⟨b, o, rfl, hbB, hc⟩ := (HH.out.kept2 hg HNe.out).at_ (by rw [ptrs_length]; omega)
      have g1 := hc k (by rw [ptrs_length]; exact hlt)
      rw [ptrs_at hlt] at g1
      have hi := HMs.out ms[k] (List.getElem_mem hlt)
      have hno : ms[k] ∉ ms.take k := by
        intro hm
        obtain ⟨j, hj, he⟩ := List.getElem_of_mem hm
        rw [List.getElem_take] at he
        have hj2 : j < k := by simp at hj; omega
        have := (List.getElem_inj HNd.out).1 he
        omega
      obtain ⟨j, hj⟩ : ∃ j, j = ms[k] := ⟨_, rfl⟩
      rw [← hj] at g1 hi hno
      have HJ : Hid (addN ns (ms.take (k + 1)) = addN ns (ms.take k) ++ if decide (j ∈ ns) = true then [] else [j]) := by
        rw [Hid, List.take_succ_eq_append_getElem hlt, hj, addN_snoc]
      have hle : (addN ns (ms.take k)).length ≤ 200000 := by
        have := addN_len ns (ms.take k)
        simp at this; omega
      have hin : decide (j ∈ addN ns (ms.take k)) = decide (j ∈ ns) := by
        rw [decide_eq_decide, addN_mem]
        exact ⟨fun h => h.resolve_right hno, .inl⟩
      have hLm : ∀ x ∈ addN ns (ms.take k), x < n := by
        intro x hx
        rcases addN_mem.1 hx with h | h
        · exact HNs.out x h
        · exact HMs.out x (List.mem_of_mem_take h)
      obtain ⟨L, hLL⟩ : ∃ L, L = addN ns (ms.take k) := ⟨_, rfl⟩
      rw [← hLL] at hown hle HJ hat hin hLm hps ⊢
      have hlook := hps.look (HN.out.kept2 hg HRn.out) hLm hi
      rw [hin] at hlook
      have HW := Lib.hid hown
      have HG := Lib.hid hg
      have HAt := Lib.hid hat
      have HPs := Lib.hid hps
      have HLm := Lib.hid hLm
      have hsz := hg.size
      cases hr : decide (j ∈ ns)
      · have HE : Hid (addN ns (ms.take (k + 1)) = L ++ [j]) := by rw [Hid, HJ.out, hr]; rfl
        have HNin : Hid (j ∉ L) := by
          rw [hr] at hin
          exact of_decide_eq_false hin
        rw [hr] at hlook
        clear HJ hc hj hown hno hLL hin hLm hg hat hr hps
        go_wp2_with (at_builtin; refine wpList_append_own_at _ rfl _ _ 60 rfl B 69 i0 (.pointer none) 1 8 Try.underlying60 hinf hz0 hz1 hz2 rfl (by decide) _ _ _ rfl (HW.out.alloc _) ⟨wr.heap.size, 0, none⟩ 1 1 [.pointer (some ⟨bl j, 0, none⟩)] rfl rfl (cell_one_new _ _ _) (by intro u hu; simp at hu; subst hu; rfl) (by unfold maxLen; omega) (by omega) (by simp; omega) ?_)
        intro v' w1 hown' hgrow _ hat'
        obtain ⟨a3, c3, hv2⟩ := own_slice hown'
        rw [hv2] at hown' hat' ⊢
        have e1 : ∀ O : Obj, (wr.alloc O).heap.size = wr.heap.size + 1 := fun O => by simp
        have hne0 : ∀ q, q < w.heap.size → some q ≠ row → some q ≠ (Value.slice a1 L.length c1).ownBlock := by
          intro q hq hqr e
          rcases HAt.out with h | ⟨g, h, hge⟩
          · exact hqr (e.trans h)
          · rw [h] at e; cases e; omega
        have hbmr := HPs.out.lt
        have hneM : some bm ≠ (Value.slice a1 L.length c1).ownBlock := fun e => own_neMap HW.out HPs.out e.symm
        have hg1 : Kept2 w w1 row bm := by
          refine ⟨hgrow.os.trans HG.out.os, hgrow.tape.trans HG.out.tape, hgrow.output.trans HG.out.output, ?_, fun q hq hqr hqm => ?_⟩
          · have := hgrow.size; have := e1 (.cells #[.pointer (some ⟨bl j, 0, none⟩)] 69); omega
          · rw [hgrow.block q (by simp; omega) (hne0 q hq hqr), Below.heap_alloc _ _ _ (by omega)]
            exact HG.out.block q hq hqr hqm
        have hps1 : PSet bl L bm w1 := by
          refine HPs.out.block ?_
          rw [hgrow.block bm (by simp; omega) hneM, Below.heap_alloc _ _ _ hbmr]
        have hat1 : (Value.slice a3 (L.length + 1) c3).ownBlock = row ∨ ∃ g, (Value.slice a3 (L.length + 1) c3).ownBlock = some g ∧ w.heap.size ≤ g := by
          rcases hat' with h | h
          · rcases HAt.out with h2 | ⟨g, h2, hge⟩
            · exact .inl (h.trans h2)
            · exact .inr ⟨g, h.trans h2, hge⟩
          · exact .inr ⟨_, h, by have := e1 (.cells #[.pointer (some ⟨bl j, 0, none⟩)] 69); omega⟩
        obtain ⟨w2, hst, hps2, hgm⟩ := hps1.store (HN.out.kept2 hg1 HRn.out) HLm.out hi HNin.out
        have HO1 : Hid (w2.ownsRow B 69 1 (.slice a3 (L.length + 1) c3) (L.length + 1) (ptrs bl (L ++ [j]))) := by
          rw [Hid, ptrs_snoc]
          exact hown'.kept hgm (.inr (own_neMap hown' hps1))
        have HG1 : Hid (Kept2 w w2 row bm) :=
          ⟨hgm.os.trans hg1.os, hgm.tape.trans hg1.tape, hgm.output.trans hg1.output, Nat.le_trans hg1.size hgm.size, fun q hq hqr hqm => (hgm.block q (by have := hg1.size; omega) (fun e => hqm (by cases e; rfl))).trans (hg1.block q hq hqr hqm)⟩
        have HAt1 := Lib.hid hat1
        have HPs2 := Lib.hid hps2
        clear hown' hgrow hv2 hat' hg1 hat1 hps1 hps2 hgm hlook g1 hne0 hneM e1
        go_wp2_with fail
        go_roundw
        case rel => exact ⟨k + 1, a3, c3, by omega, by go_num, by rw [HE.out, List.length_append]; rfl, by rw [HE.out, List.length_append]; exact HO1.out, by rw [HE.out]; exact HPs2.out, HG1.out, by rw [HE.out, List.length_append]; exact HAt1.out⟩
        case measure => simp [intOf]; omega
      · have HE : Hid (addN ns (ms.take (k + 1)) = L) := by rw [Hid, HJ.out, hr]; simp
        rw [hr] at hlook
        clear HJ hc hj hown hno hLL hin hLm hg hat hr hps
        go_wp2_with fail
        go_roundw
        case rel => exact ⟨k + 1, a1, c1, by omega, by go_num, by rw [HE.out], by rw [HE.out]; exact HW.out, by rw [HE.out]; exact HPs.out, HG.out, by rw [HE.out]; exact HAt.out⟩
        case measure => simp [intOf]; omega
    · go_wp2_with fail
      go_ret
      have e : k = ms.length := by omega
      subst e
      rw [List.take_length] at hown hps hat ⊢
      exact ⟨a1, c1, rfl, hown, hps, hg, hat⟩
end Go.Proofs.Ytmhhfljbocbolaa
