/- Nodes come into a selection that has some. -/
import Derived.Test.YtmhhfljbocbolaaT41
namespace Go.Proofs.Ytmhhfljbocbolaa
open Go.RowKit
set_option linter.unusedVariables false

/-- ns, and then those of ms that are not among them. -/
def addN (ns ms : List Nat) : List Nat := ns ++ ms.filter fun m => !decide (m ∈ ns)
theorem addN_snoc (ns ms : List Nat) (i : Nat) : addN ns (ms ++ [i]) = addN ns ms ++ if decide (i ∈ ns) = true then [] else [i] := by
  unfold addN
  rw [List.filter_append, ← List.append_assoc]
  congr 1
  rw [List.filter_cons, List.filter_nil]
  cases decide (i ∈ ns) <;> rfl
theorem addN_len (ns ms : List Nat) : (addN ns ms).length ≤ ns.length + ms.length := by
  unfold addN
  rw [List.length_append]
  have := List.length_filter_le (fun m => !decide (m ∈ ns)) ms
  omega
theorem addN_mem {ns ms : List Nat} {k : Nat} : k ∈ addN ns ms ↔ k ∈ ns ∨ k ∈ ms := by
  unfold addN
  rw [List.mem_append, List.mem_filter]
  constructor
  · rintro (h | h)
    · exact .inl h
    · exact .inr h.1
  · rintro (h | h)
    · exact .inl h
    · by_cases h2 : k ∈ ns
      · exact .inl h2
      · exact .inr ⟨h, by simp [h2]⟩
theorem addN_nodup {ns ms : List Nat} (h1 : ns.Nodup) (h2 : ms.Nodup) : (addN ns ms).Nodup := by
  unfold addN
  rw [List.nodup_append]
  refine ⟨h1, h2.filter _, fun a ha b hb e => ?_⟩
  have := (List.mem_filter.1 hb).2
  rw [← e] at this
  simp [ha] at this

/-- Nothing that was there has turned but one block. -/
theorem NodesAt.grown {bl : Nat → Nat} {n : Nat} {w w' : World} {row : Option Nat} (h : NodesAt bl n w) (hb : w.grownBy w' row) (hr : ∀ i, i < n → some (bl i) ≠ row) : NodesAt bl n w' := by
  refine ⟨h.inj, fun i hi => Nat.lt_of_lt_of_le (h.lt i hi) hb.size, fun i hi => ?_⟩
  obtain ⟨cs, h1, h2⟩ := h.blk i hi
  exact ⟨cs, (hb.block _ (h.lt i hi) (hr i hi)).trans h1, h2⟩

theorem RSl.grown {w w' : World} {a : Option Addr} {xs : List Value} {row : Option Nat} (h : RSl w w.heap.size a xs) (hb : w.grownBy w' row) (hr : ∀ b o, a = some ⟨b, o, none⟩ → some b ≠ row) : RSl w' w'.heap.size a xs := by
  rcases h with h0 | ⟨b, o, ha, hbB, hc⟩
  · exact .inl h0
  · refine .inr ⟨b, o, ha, Nat.lt_of_lt_of_le hbB hb.size, fun i hi => ?_⟩
    rw [World.cell?_of_block (hb.block b hbB (hr b o ha))]
    exact hc i hi

def DupGPost (bl : Nat → Nat) (B : Nat) (ns : List Nat) (row : Option Nat) (w : World) (e : Ending) (w' : World) : Prop := ∃ v, e = .returned v ∧ OwnN bl B ns v w' ∧ w.grownBy w' row

def DupGRel (bl : Nat → Nat) (B : Nat) (ns ms : List Nat) (row : Option Nat) (w : World) (v x : Value) (wr : World) : Prop :=
  ∃ (k : Nat) (a : Option Addr) (c : Nat), k ≤ ms.length ∧ x = .int .i64 (k : Nat) ∧ v = .slice a (addN ns (ms.take k)).length c ∧
    wr.ownsRow B 69 1 (.slice a (addN ns (ms.take k)).length c) (addN ns (ms.take k)).length (ptrs bl (addN ns (ms.take k))) ∧ w.grownBy wr row ∧
    ((Value.slice a (addN ns (ms.take k)).length c).ownBlock = row ∨ ∃ g, (Value.slice a (addN ns (ms.take k)).length c).ownBlock = some g ∧ w.heap.size ≤ g)

set_option maxRecDepth 100000 in
set_option maxHeartbeats 2000000 in
theorem dupG_any (bl : Nat → Nat) (n B : Nat) (ns ms : List Nat) (hns : ∀ k ∈ ns, k < n) (hms : ∀ k ∈ ms, k < n) (hnd : ms.Nodup) (hlen : ns.length ≤ 200) (hlem : ms.length ≤ 200) (a : Option Addr) (c : Nat) (a2 : Option Addr) (c2 : Nat) (w : World) (hB : B ≤ w.heap.size)
    (hown : w.ownsRow B 69 1 (.slice a ns.length c) ns.length (ptrs bl ns)) (h2 : RSl w w.heap.size a2 (ptrs bl ms)) (hne : ∀ b o, a2 = some ⟨b, o, none⟩ → some b ≠ (Value.slice a ns.length c).ownBlock) (hN : NodesAt bl n w) :
    Calls Try.prog 81 #[.slice a ns.length c, .slice a2 ms.length c2, .map none] w (DupGPost bl B (addN ns ms) (Value.slice a ns.length c).ownBlock w) := by
  obtain ⟨row, hrow⟩ : ∃ row, row = (Value.slice a ns.length c).ownBlock := ⟨_, rfl⟩
  have hrn : ∀ i, i < n → some (bl i) ≠ row := by
    intro i hi e
    obtain ⟨cs, h1, _⟩ := hN.blk i hi
    exact own_ne hown h1 (by decide) (by rw [← hrow, e])
  rw [← hrow] at hne ⊢
  have HRow := Lib.hid hrow
  have HH := Lib.hid h2
  have HNe := Lib.hid hne
  have HNs := Lib.hid hns
  have HMs := Lib.hid hms
  have HNd := Lib.hid hnd
  have HN := Lib.hid hN
  have HRn := Lib.hid hrn
  have HOwn := Lib.hid hown
  obtain ⟨i0, hinf, hz0, hz1, hz2⟩ := info_parts Try.infoP
  have qm : ∀ w : World, (binOp .eql 140 (.map none) (.map none)).run Try.prog w = .ok (.bool true) w := fun w => run_eql_map_nil w _ _ _ none Try.underlying140
  have d0 : decide ((ns.length : Int) + (ms.length : Int) < 1000) = true := decide_eq_true (by omega)
  clear h2 hns hms hnd hN hrow hne hrn hown
  go_enter Try.func81, Try.ntmps81
  go_wp2_with fail
  go_loopw [0, 25] (fun v x wr => DupGRel bl B ns ms row w v x wr) (fun _ x _ => ms.length - (intOf x).toNat)
  case atStart =>
    refine ⟨0, a, c, by omega, rfl, by simp [addN], by simpa [addN] using HOwn.out, World.grownBy.refl w _, .inl ?_⟩
    have : (addN ns (ms.take 0)).length = ns.length := by simp [addN]
    rw [this]; exact HRow.out.symm
  case round =>
    obtain ⟨k, a1, c1, hk, rfl, rfl, hown, hg, hat⟩ := hrel
    by_cases hlt : k < ms.length
    · obtain ⟨b, o, rfl, hbB, hc⟩ := (HH.out.grown hg HNe.out).at_ (by rw [ptrs_length]; omega)
      have g1 := hc k (by rw [ptrs_length]; exact hlt)
      rw [ptrs_at hlt] at g1
      have hi := HMs.out ms[k] (List.getElem_mem hlt)
      have hno : ms[k] ∉ ms.take k := by
        intro hm
        obtain ⟨j, hj, he⟩ := List.getElem_of_mem hm
        rw [List.getElem_take] at he
        have hj2 : j < k := by simp at hj; omega
        have := (List.getElem_inj HNd.out).1 he
        omega
      obtain ⟨j, hj⟩ : ∃ j, j = ms[k] := ⟨_, rfl⟩
      rw [← hj] at g1 hi hno
      have HJ : Hid (addN ns (ms.take (k + 1)) = addN ns (ms.take k) ++ if decide (j ∈ ns) = true then [] else [j]) := by
        rw [Hid, List.take_succ_eq_append_getElem hlt, hj, addN_snoc]
      have hle : (addN ns (ms.take k)).length ≤ 400 := by
        have := addN_len ns (ms.take k)
        simp at this; omega
      have hin : decide (j ∈ addN ns (ms.take k)) = decide (j ∈ ns) := by
        rw [decide_eq_decide, addN_mem]
        exact ⟨fun h => h.resolve_right hno, .inl⟩
      have hLm : ∀ x ∈ addN ns (ms.take k), x < n := by
        intro x hx
        rcases addN_mem.1 hx with h | h
        · exact HNs.out x h
        · exact HMs.out x (List.mem_of_mem_take h)
      obtain ⟨L, hLL⟩ : ∃ L, L = addN ns (ms.take k) := ⟨_, rfl⟩
      rw [← hLL] at hown hle HJ hat hin hLm ⊢
      have HIn : Hid (Calls Try.prog 110 #[.slice a1 L.length c1, .pointer (some ⟨bl j, 0, none⟩)] wr fun e w' => e = .returned (.bool (decide (j ∈ ns))) ∧ wr = w') := by
        have HN2 := HN.out.grown hg HRn.out
        obtain ⟨a3, c3, hv, _, hrs⟩ := RSl.own hown
        cases hv
        have := isIn_any bl n HN2.inj L hLm (by omega) j hi a1 c1 wr hrs HN2.blk
        rw [hin] at this
        exact this
      have HW := Lib.hid hown
      have HG := Lib.hid hg
      have HAt := Lib.hid hat
      have hsz := hg.size
      obtain ⟨r, hr⟩ : ∃ r, r = decide (j ∈ ns) := ⟨_, rfl⟩
      rw [← hr] at HIn HJ
      clear hc hj hown hno hLL hin hLm hg hat hr
      go_wp2_with fail
      refine HIn.out.mono ?_
      rintro e w1 ⟨rfl, rfl⟩
      cases r
      · have HE : Hid (addN ns (ms.take (k + 1)) = L ++ [j]) := HJ.out
        clear HJ
        go_wp2_with (at_builtin; refine wpList_append_own_at _ rfl _ _ 60 rfl B 69 i0 (.pointer none) 1 8 Try.underlying60 hinf hz0 hz1 hz2 rfl (by decide) _ _ _ rfl (HW.out.alloc _) ⟨wr.heap.size, 0, none⟩ 1 1 [.pointer (some ⟨bl j, 0, none⟩)] rfl rfl (cell_one_new _ _ _) (by intro u hu; simp at hu; subst hu; rfl) (by unfold maxLen; omega) (by omega) (by simp; omega) ?_)
        intro v' w1 hown' hgrow _ hat'
        obtain ⟨a3, c3, hv2⟩ := own_slice hown'
        rw [hv2] at hown' hat' ⊢
        have hg1 : w.grownBy w1 row := by
          refine ⟨hgrow.os.trans HG.out.os, hgrow.tape.trans HG.out.tape, hgrow.output.trans HG.out.output, ?_, fun q hq hqr => ?_⟩
          · have := hgrow.size; simp at this; omega
          · rw [hgrow.block q (by simp; omega) (fun e => ?_), Below.heap_alloc _ _ _ (by omega)]
            · exact HG.out.block q hq hqr
            · rcases HAt.out with h | ⟨g, h, hge⟩
              · exact hqr (e.trans h)
              · rw [h] at e; cases e; omega
        have hat1 : (Value.slice a3 (L.length + 1) c3).ownBlock = row ∨ ∃ g, (Value.slice a3 (L.length + 1) c3).ownBlock = some g ∧ w.heap.size ≤ g := by
          rcases hat' with h | h
          · rcases HAt.out with h2 | ⟨g, h2, hge⟩
            · exact .inl (h.trans h2)
            · exact .inr ⟨g, h.trans h2, hge⟩
          · exact .inr ⟨_, h, by have e : ∀ O : Obj, (wr.alloc O).heap.size = wr.heap.size + 1 := fun O => by simp
                                 omega⟩
        have HO1 : Hid (w1.ownsRow B 69 1 (.slice a3 (L.length + 1) c3) (L.length + 1) (ptrs bl (L ++ [j]))) := by
          rw [Hid, ptrs_snoc]; exact hown'
        have HG1 := Lib.hid hg1
        have HAt1 := Lib.hid hat1
        clear hown' hgrow hv2 hat' hg1 hat1
        go_wp2_with fail
        go_roundw
        case rel => exact ⟨k + 1, a3, c3, by omega, by go_num, by rw [HE.out, List.length_append]; rfl, by rw [HE.out, List.length_append]; exact HO1.out, HG1.out, by rw [HE.out, List.length_append]; exact HAt1.out⟩
        case measure => simp [intOf]; omega
      · have HE : Hid (addN ns (ms.take (k + 1)) = L) := by rw [Hid, HJ.out]; simp
        clear HJ
        go_wp2_with fail
        go_roundw
        case rel => exact ⟨k + 1, a1, c1, by omega, by go_num, by rw [HE.out], by rw [HE.out]; exact HW.out, HG.out, by rw [HE.out]; exact HAt.out⟩
        case measure => simp [intOf]; omega
    · go_wp2_with fail
      go_ret
      have e : k = ms.length := by omega
      subst e
      rw [List.take_length] at hown ⊢
      exact ⟨_, rfl, ⟨a1, c1, rfl, hown⟩, hg⟩

def AddGPost (bl : Nat → Nat) (B : Nat) (ns : List Nat) (row : Option Nat) (doc : Option Addr) (w : World) (e : Ending) (w' : World) : Prop :=
  ∃ g, e = .returned (.pointer (some ⟨g, 0, none⟩)) ∧ SelOf bl ns B g doc w' ∧ w.grownBy w' row

set_option maxRecDepth 100000 in
set_option maxHeartbeats 1000000 in
theorem addNodesG_any (bl : Nat → Nat) (n B : Nat) (ns ms : List Nat) (hns : ∀ k ∈ ns, k < n) (hms : ∀ k ∈ ms, k < n) (hnd : ms.Nodup) (hlen : ns.length ≤ 200) (hlem : ms.length ≤ 200) (a : Option Addr) (c : Nat) (a2 : Option Addr) (c2 : Nat) (gs : Nat) (doc prev : Option Addr) (w : World) (hB : B ≤ w.heap.size) (hs : SelB w gs a ns.length c doc prev)
    (hown : w.ownsRow B 69 1 (.slice a ns.length c) ns.length (ptrs bl ns)) (h2 : RSl w w.heap.size a2 (ptrs bl ms)) (hne : ∀ b o, a2 = some ⟨b, o, none⟩ → some b ≠ (Value.slice a ns.length c).ownBlock) (hN : NodesAt bl n w) :
    Calls Try.prog 51 #[.pointer (some ⟨gs, 0, none⟩), .slice a2 ms.length c2] w (AddGPost bl B (addN ns ms) (Value.slice a ns.length c).ownBlock doc w) := by
  have HD := Lib.hid (dupG_any bl n B ns ms hns hms hnd hlen hlem a c a2 c2 w hB hown h2 hne hN)
  obtain ⟨c0, c1, c3⟩ := hs.cells
  have HS := Lib.hid hs
  have HNe : Hid (some gs ≠ (Value.slice a ns.length c).ownBlock) := fun e => own_ne hown hs (by decide) e.symm
  obtain ⟨row, hrow⟩ : ∃ row, row = (Value.slice a ns.length c).ownBlock := ⟨_, rfl⟩
  rw [← hrow] at HD HNe ⊢
  clear h2 hns hms hnd hN hs hown hne hrow
  go_enter Try.func51, Try.ntmps51
  go_wp2_with fail
  refine HD.out.mono ?_
  rintro e w1 ⟨v, rfl, ⟨a1, c4, rfl, hown⟩, hg⟩
  have HO := Lib.hid hown
  have HG := Lib.hid hg
  have HS1 : Hid (SelB w1 gs a ns.length c doc prev) := (hg.block gs HS.out.lt HNe.out).trans HS.out
  have hsz := hg.size
  clear hown hg
  go_wp2_with fail
  refine (push_any gs a ns.length c doc prev a1 _ c4 w1 HS1.out).mono ?_
  rintro e w2 ⟨rfl, hs2, hb2⟩
  have HS2 := Lib.hid hs2
  have HB2 := Lib.hid hb2
  clear hs2 hb2
  go_wp2_with fail
  go_ret
  refine ⟨_, rfl, ⟨a1, c4, _, HS2.out, by omega, own_kept HO.out (fun b _ hb => HB2.out.block b hb), _, rfl⟩, ?_⟩
  exact ⟨HB2.out.os.trans HG.out.os, HB2.out.tape.trans HG.out.tape, HB2.out.output.trans HG.out.output, Nat.le_trans HG.out.size HB2.out.size, fun q hq hqr => (HB2.out.block q (by omega)).trans (HG.out.block q hq hqr)⟩
end Go.Proofs.Ytmhhfljbocbolaa
