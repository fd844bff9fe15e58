/- spec.ReadClass. -/
import Derived.Test.YtkdfdfhejibopaaGreatDoorT439
import Derived.Test.YtkdfdfhejibopaaGreatDoorT421
import Derived.StillTailTactics
import Derived.Laws.Rows
namespace Go.Proofs.YtkdfdfhejibopaaGreatDoor
open Go.RowKit
set_option linter.unusedVariables false

theorem results_mix4 {P : Program} {fn : Func} {p a b c : Tmp} {ty : TypeId} (h : fn.results = #[.cell p ty, .tmp a, .tmp b, .tmp c]) (tmps : Array Value) (w : World) (g : Nat) (t : TypeId) (cs : Array Value) (fr : Nat × Nat) (d : TypeDesc)
    (hp : tmps.getD p undef = .pointer (some ⟨g, 0, none⟩)) (hg : w.heap[g]? = some (.cells cs t fr))
    (hu : P.underlying ty = some d) (hd : (match d with | .struct _ | .array _ _ => true | _ => false) = true) (hi : (P.info? ty).map (·.size) = some cs.size) :
    (results fn tmps).run P w = .ok (.tuple #[.agg cs, tmps.getD a undef, tmps.getD b undef, tmps.getD c undef]) w := by
  have hp' : tmps[p]?.getD undef = .pointer (some ⟨g, 0, none⟩) := by simpa using hp
  simp [results, h, hp', asAddr, run_loadVar_row w g t ty cs fr d hg hu hd hi]

theorem results_mix3 {P : Program} {fn : Func} {p a b : Tmp} {ty : TypeId} (h : fn.results = #[.cell p ty, .tmp a, .tmp b]) (tmps : Array Value) (w : World) (g : Nat) (t : TypeId) (cs : Array Value) (fr : Nat × Nat) (d : TypeDesc)
    (hp : tmps.getD p undef = .pointer (some ⟨g, 0, none⟩)) (hg : w.heap[g]? = some (.cells cs t fr))
    (hu : P.underlying ty = some d) (hd : (match d with | .struct _ | .array _ _ => true | _ => false) = true) (hi : (P.info? ty).map (·.size) = some cs.size) :
    (results fn tmps).run P w = .ok (.tuple #[.agg cs, tmps.getD a undef, tmps.getD b undef]) w := by
  have hp' : tmps[p]?.getD undef = .pointer (some ⟨g, 0, none⟩) := by simpa using hp
  simp [results, h, hp', asAddr, run_loadVar_row w g t ty cs fr d hg hu hd hi]

theorem results_mix2 {P : Program} {fn : Func} {p a : Tmp} {ty : TypeId} (h : fn.results = #[.cell p ty, .tmp a]) (tmps : Array Value) (w : World) (g : Nat) (t : TypeId) (cs : Array Value) (fr : Nat × Nat) (d : TypeDesc)
    (hp : tmps.getD p undef = .pointer (some ⟨g, 0, none⟩)) (hg : w.heap[g]? = some (.cells cs t fr))
    (hu : P.underlying ty = some d) (hd : (match d with | .struct _ | .array _ _ => true | _ => false) = true) (hi : (P.info? ty).map (·.size) = some cs.size) :
    (results fn tmps).run P w = .ok (.tuple #[.agg cs, tmps.getD a undef]) w := by
  have hp' : tmps[p]?.getD undef = .pointer (some ⟨g, 0, none⟩) := by simpa using hp
  simp [results, h, hp', asAddr, run_loadVar_row w g t ty cs fr d hg hu hd hi]

/-- A struct of its own, whole; what lies below is as it was. -/
structure BlkB (g : Nat) (cs : Array Value) (T : TypeId) (B : Nat) (W w : World) : Prop where
  blk : w.heap[g]? = some (.cells cs T (0, 0))
  old : Below B W w
  base : B ≤ g
theorem BlkB.made (w : World) (B : Nat) (hB : B ≤ w.heap.size) (cs : Array Value) (T : TypeId) : BlkB w.heap.size cs T B w (w.alloc (.cells cs T)) := ⟨heap_alloc_new w _, (Below.refl _ _).alloc hB _, hB⟩
theorem BlkB.set {g : Nat} {cs : Array Value} {T : TypeId} {B : Nat} {W w : World} (h : BlkB g cs T B W w) (i : Nat) (v : Value) : BlkB g (cs.setIfInBounds i v) T B W (w.setCell ⟨g, i, none⟩ v) :=
  ⟨Lib.heap_setCell_same (i := i) h.blk _, h.old.setCell (p := ⟨g, i, none⟩) h.base _, h.base⟩
theorem BlkB.drew {g : Nat} {cs : Array Value} {T : TypeId} {B : Nat} {W w : World} (h : BlkB g cs T B W w) (n : Nat) : BlkB g cs T B W (w.drewN n) := ⟨h.blk, below_drewN h.old n, h.base⟩
theorem BlkB.next {g : Nat} {cs : Array Value} {T : TypeId} {B : Nat} {W w w' : World} (h : BlkB g cs T B W w) (hb : Below w.heap.size w w') : BlkB g cs T B W w' :=
  ⟨(hb.block g (Array.getElem?_eq_some_iff.1 h.blk).1).trans h.blk, h.old.trans (hb.mono (Nat.le_of_lt (Nat.lt_of_le_of_lt h.base (Array.getElem?_eq_some_iff.1 h.blk).1))), h.base⟩
theorem BlkB.cell {g : Nat} {cs : Array Value} {T : TypeId} {B : Nat} {W w : World} (h : BlkB g cs T B W w) (i : Nat) : w.cell? ⟨g, i, none⟩ = cs[i]? := cell_of_row w g i _ _ _ h.blk
theorem BlkB.fz {g : Nat} {cs : Array Value} {T : TypeId} {B : Nat} {W w : World} (h : BlkB g cs T B W w) (i : Nat) : w.frozen? ⟨g, i, none⟩ = false := frozen_of_row w g i _ _ h.blk

/-- A node of a selector, as a struct. -/
def selV (k : Int) (v : ByteArray) (z : Int) : Value := .agg #[.int .i64 k, .int .i64 0, .string ⟨#[]⟩, .string v, .int .i64 0, .int .i64 0, .int .i64 0, .int .i64 z]

def RidQ (s : ByteArray) (O : ByteArray) (i : Nat) (ok sure : Bool) : Prop := i ≤ s.size ∧
    (sure = true → rdb s = true ∧ ∃ h, Hy s h ∧ ((¬ begN s h ∧ ok = false) ∨
      (begN s h ∧ NmG s 0 O i ∧ (i < s.size → isNm (bAt s i) = false ∧ escAt s i = false) ∧ (ok = true ↔ 0 < i ∧ bAt s i ≠ 92))))
def RcP (s : ByteArray) (w : World) (e : Ending) (w' : World) : Prop :=
  ∃ (x : Value) (i : Int) (ok sure : Bool), e = .returned (.tuple #[x, .int .i64 i, .bool ok, .bool sure]) ∧ Below w.heap.size w w' ∧
    ((¬ (0 < s.size ∧ bAt s 0 = 46) ∧ ok = false ∧ (∃ v z, x = selV 0 v z)) ∨
     (0 < s.size ∧ bAt s 0 = 46 ∧ ∃ (O : ByteArray) (j : Nat), x = selV 3 O 1 ∧ i = ((j + 1 : Nat) : Int) ∧ RidQ (s.extract 1 s.size) O j ok sure))

set_option maxRecDepth 100000 in
set_option maxHeartbeats 8000000 in
theorem sReadClass_any (s : ByteArray) (w : World) (hs : s.size ≤ 1000) : Calls Tryz.prog 4 #[.string s] w (RcP s w) := by
  have HRd : Hid (∀ U, Calls Tryz.prog 6 #[.string s] U (RbP (rdb s) U)) := fun U => rdb_any s U (by omega)
  by_cases h0 : s.size = 0
  · have m0 : s.toList = [] := empty_len.2 h0
    have m1 : s.toList.isEmpty = true := by rw [m0]; rfl
    have H0 := Lib.hid h0
    clear h0
    have HR2 : Hid (∀ U, Calls Tryz.prog 6 #[.string s] U (fun e w' => e = .returned (.bool (rdb s)) ∧ w' = U)) := fun U => (HRd.out U).mono (fun _ _ hh => ⟨hh.1, hh.2.symm⟩)
    have hst := BlkB.made w w.heap.size (Nat.le_refl _) #[.int .i64 0, .int .i64 0, .string ⟨#[]⟩, .string ⟨#[]⟩, .int .i64 0, .int .i64 0, .int .i64 0, .int .i64 0] 23
    go_enter Tryz.func4, Tryz.ntmps4
    go_wp2_with fail
    obtain ⟨W0, hW0⟩ : ∃ W0 : World, W0 = (w.alloc (.cells #[.int .i64 0, .int .i64 0, .string ⟨#[]⟩, .string ⟨#[]⟩, .int .i64 0, .int .i64 0, .int .i64 0, .int .i64 0] 23)) := ⟨_, rfl⟩
    rw [← hW0] at hst ⊢
    have HST := Lib.hid hst
    have k0 : W0.cell? ⟨w.heap.size, 0, none⟩ = some (.int .i64 0) := hst.cell 0
    have f0 := hst.fz 0
    have k1 : W0.cell? ⟨w.heap.size, 1, none⟩ = some (.int .i64 0) := hst.cell 1
    have f1 := hst.fz 1
    have k2 : W0.cell? ⟨w.heap.size, 2, none⟩ = some (.string ⟨#[]⟩) := hst.cell 2
    have f2 := hst.fz 2
    have k3 : W0.cell? ⟨w.heap.size, 3, none⟩ = some (.string ⟨#[]⟩) := hst.cell 3
    have f3 := hst.fz 3
    have k4 : W0.cell? ⟨w.heap.size, 4, none⟩ = some (.int .i64 0) := hst.cell 4
    have f4 := hst.fz 4
    have k5 : W0.cell? ⟨w.heap.size, 5, none⟩ = some (.int .i64 0) := hst.cell 5
    have f5 := hst.fz 5
    have k6 : W0.cell? ⟨w.heap.size, 6, none⟩ = some (.int .i64 0) := hst.cell 6
    have f6 := hst.fz 6
    have k7 : W0.cell? ⟨w.heap.size, 7, none⟩ = some (.int .i64 0) := hst.cell 7
    have f7 := hst.fz 7
    clear hst hW0
    refine wp_region_still_tail 3 (by kernel_rfl) (by kernel_rfl) ?_
    simp only [List.take_succ_cons, List.take_zero, List.drop_succ_cons, List.drop_zero]
    iterate 2 still_step
    still_call (HR2.out _)
    refine wpStill_nil ?_
    change wpList _ _ _ _ _ W0.drew
    go_wp2_with fail
    have HF := (((((((HST.out.set 0 (.int .i64 0)).set 1 (.int .i64 0)).set 2 (.string ⟨#[]⟩)).set 3 (.string ⟨#[]⟩)).set 4 (.int .i64 0)).set 5 (.int .i64 0)).set 6 (.int .i64 0)).set 7 (.int .i64 0)
    refine bodyPost_ret (results_mix4 rfl _ _ w.heap.size _ _ _ _ rfl (HF.drew 1).blk Tryz.underlying23 rfl (by kernel_rfl)) rfl ?_
    exact ⟨_, 0, false, rdb s, rfl, (HF.drew 1).old, .inl ⟨(fun q => by have := H0.out; omega), rfl, _, _, rfl⟩⟩
  · have hlt : 0 < s.size := by omega
    have m1 : s.toList.isEmpty = false := by
      cases hh : s.toList.isEmpty
      · rfl
      · exact absurd (empty_len.1 (List.isEmpty_iff.1 hh)) h0
    have hb := bAt_in hlt
    by_cases h46 : s[0].toNat = 46
    · have m2 : ((s[0].toNat : Int) != 46) = false := by simp; omega
      have H46 : Hid (bAt s 0 = 46) := by rw [Hid, hb]; exact h46
      clear hb h46 h0
      have HId : Hid (∀ U, Calls Tryz.prog 7 #[.string (s.extract 1 s.size)] U (RidP (s.extract 1 s.size) U)) := fun U => sReadIdentifier_any _ U (by rw [ByteArray.size_extract]; omega)
      have hst := BlkB.made w w.heap.size (Nat.le_refl _) #[.int .i64 0, .int .i64 0, .string ⟨#[]⟩, .string ⟨#[]⟩, .int .i64 0, .int .i64 0, .int .i64 0, .int .i64 0] 23
      go_enter Tryz.func4, Tryz.ntmps4
      go_wp2_with fail
      refine (HId.out _).mono ?_
      rintro e1 w2 ⟨O, i, ok, sure, rfl, hb2, hi, hx⟩
      have hst2 := hst.next hb2
      have HST := Lib.hid hst2
      have HX : Hid (RidQ (s.extract 1 s.size) O i ok sure) := ⟨hi, hx⟩
      have hi2 : i ≤ 1000 := by rw [ByteArray.size_extract] at hi; omega
      have k0 : w2.cell? ⟨w.heap.size, 0, none⟩ = some (.int .i64 0) := hst2.cell 0
      have f0 := hst2.fz 0
      have k1 : w2.cell? ⟨w.heap.size, 1, none⟩ = some (.int .i64 0) := hst2.cell 1
      have f1 := hst2.fz 1
      have k2 : w2.cell? ⟨w.heap.size, 2, none⟩ = some (.string ⟨#[]⟩) := hst2.cell 2
      have f2 := hst2.fz 2
      have k3 : w2.cell? ⟨w.heap.size, 3, none⟩ = some (.string ⟨#[]⟩) := hst2.cell 3
      have f3 := hst2.fz 3
      have k4 : w2.cell? ⟨w.heap.size, 4, none⟩ = some (.int .i64 0) := hst2.cell 4
      have f4 := hst2.fz 4
      have k5 : w2.cell? ⟨w.heap.size, 5, none⟩ = some (.int .i64 0) := hst2.cell 5
      have f5 := hst2.fz 5
      have k6 : w2.cell? ⟨w.heap.size, 6, none⟩ = some (.int .i64 0) := hst2.cell 6
      have f6 := hst2.fz 6
      have k7 : w2.cell? ⟨w.heap.size, 7, none⟩ = some (.int .i64 0) := hst2.cell 7
      have f7 := hst2.fz 7
      clear hst hst2 hb2 hi hx
      go_wp2_with fail
      have HF := (((((((HST.out.set 0 (.int .i64 3)).set 1 (.int .i64 0)).set 2 (.string ⟨#[]⟩)).set 3 (.string O)).set 4 (.int .i64 0)).set 5 (.int .i64 0)).set 6 (.int .i64 0)).set 7 (.int .i64 1)
      refine bodyPost_ret (results_mix4 rfl _ _ w.heap.size _ _ _ _ rfl HF.blk Tryz.underlying23 rfl (by kernel_rfl)) rfl ?_
      exact ⟨_, _, ok, sure, rfl, HF.old, .inr ⟨hlt, H46.out, O, i, rfl, by first | rfl | omega, HX.out⟩⟩
    · have m2 : ((s[0].toNat : Int) != 46) = true := by simp; omega
      have HN : Hid (bAt s 0 ≠ 46) := by rw [Hid, hb]; exact h46
      clear hb h46 h0
      have HR2 : Hid (∀ U, Calls Tryz.prog 6 #[.string s] U (fun e w' => e = .returned (.bool (rdb s)) ∧ w' = U)) := fun U => (HRd.out U).mono (fun _ _ hh => ⟨hh.1, hh.2.symm⟩)
      have hst := BlkB.made w w.heap.size (Nat.le_refl _) #[.int .i64 0, .int .i64 0, .string ⟨#[]⟩, .string ⟨#[]⟩, .int .i64 0, .int .i64 0, .int .i64 0, .int .i64 0] 23
      go_enter Tryz.func4, Tryz.ntmps4
      go_wp2_with fail
      obtain ⟨W0, hW0⟩ : ∃ W0 : World, W0 = (w.alloc (.cells #[.int .i64 0, .int .i64 0, .string ⟨#[]⟩, .string ⟨#[]⟩, .int .i64 0, .int .i64 0, .int .i64 0, .int .i64 0] 23)) := ⟨_, rfl⟩
      rw [← hW0] at hst ⊢
      have HST := Lib.hid hst
      have k0 : W0.cell? ⟨w.heap.size, 0, none⟩ = some (.int .i64 0) := hst.cell 0
      have f0 := hst.fz 0
      have k1 : W0.cell? ⟨w.heap.size, 1, none⟩ = some (.int .i64 0) := hst.cell 1
      have f1 := hst.fz 1
      have k2 : W0.cell? ⟨w.heap.size, 2, none⟩ = some (.string ⟨#[]⟩) := hst.cell 2
      have f2 := hst.fz 2
      have k3 : W0.cell? ⟨w.heap.size, 3, none⟩ = some (.string ⟨#[]⟩) := hst.cell 3
      have f3 := hst.fz 3
      have k4 : W0.cell? ⟨w.heap.size, 4, none⟩ = some (.int .i64 0) := hst.cell 4
      have f4 := hst.fz 4
      have k5 : W0.cell? ⟨w.heap.size, 5, none⟩ = some (.int .i64 0) := hst.cell 5
      have f5 := hst.fz 5
      have k6 : W0.cell? ⟨w.heap.size, 6, none⟩ = some (.int .i64 0) := hst.cell 6
      have f6 := hst.fz 6
      have k7 : W0.cell? ⟨w.heap.size, 7, none⟩ = some (.int .i64 0) := hst.cell 7
      have f7 := hst.fz 7
      clear hst hW0
      refine wp_region_still_tail 3 (by kernel_rfl) (by kernel_rfl) ?_
      simp only [List.take_succ_cons, List.take_zero, List.drop_succ_cons, List.drop_zero]
      iterate 2 still_step
      still_call (HR2.out _)
      refine wpStill_nil ?_
      change wpList _ _ _ _ _ W0.drew
      go_wp2_with fail
      have HF := (((((((HST.out.set 0 (.int .i64 0)).set 1 (.int .i64 0)).set 2 (.string ⟨#[]⟩)).set 3 (.string ⟨#[]⟩)).set 4 (.int .i64 0)).set 5 (.int .i64 0)).set 6 (.int .i64 0)).set 7 (.int .i64 0)
      refine bodyPost_ret (results_mix4 rfl _ _ w.heap.size _ _ _ _ rfl (HF.drew 1).blk Tryz.underlying23 rfl (by kernel_rfl)) rfl ?_
      exact ⟨_, 0, false, rdb s, rfl, (HF.drew 1).old, .inl ⟨(fun q => HN.out q.2), rfl, _, _, rfl⟩⟩
end Go.Proofs.YtkdfdfhejibopaaGreatDoor
