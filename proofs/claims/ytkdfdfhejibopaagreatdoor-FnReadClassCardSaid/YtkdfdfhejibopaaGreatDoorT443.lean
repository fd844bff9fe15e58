/- cascadia.ReadClass, Take, selNode, impl.read. -/
import Derived.Test.YtkdfdfhejibopaaGreatDoorT442
namespace Go.Proofs.YtkdfdfhejibopaaGreatDoor
open Go.RowKit
set_option linter.unusedVariables false

theorem PrX.made (s : ByteArray) (w : World) : PrX s w.heap.size 0 (.int .i64 0) (.bool false) w.heap.size w (w.alloc (.cells #[.string s, .int .i64 0, .int .i64 0, .bool false] 52)) := by
  have hb := (Below.refl w.heap.size w).alloc (Nat.le_refl _) (.cells #[.string s, .int .i64 0, .int .i64 0, .bool false] 52)
  exact ⟨heap_alloc_new w _, hb.os, hb.tape, hb.output, hb.size, fun b h1 _ => hb.block b h1, by simp⟩
theorem PrX.below {s : ByteArray} {g i : Nat} {D P : Value} {B : Nat} {W w : World} (h : PrX s g i D P B W w) (hg : B ≤ g) : Below B W w :=
  ⟨h.os, h.tape, h.output, h.size, fun b hb => h.oth b hb (by omega)⟩

def CcP (s : ByteArray) (w : World) (e : Ending) (w' : World) : Prop :=
  (∃ (v x : Value) (k : Nat), ErrV v ∧ e = .returned (.tuple #[x, .int .i64 (k : Int), v]) ∧ Below w.heap.size w w' ∧ ClNo s) ∨
  (∃ (O : ByteArray) (i : Nat), e = .returned (.tuple #[.iface 54 (.agg #[.string O]), .int .i64 (i : Int), .nilIface]) ∧ Below w.heap.size w w' ∧ i ≤ s.size ∧ ClYes s O i)

set_option maxRecDepth 100000 in
set_option maxHeartbeats 8000000 in
theorem cReadClass_any (s : ByteArray) (w : World) (hs : s.size ≤ 1000) : Calls Tryz.prog 9 #[.string s] w (CcP s w) := by
  have HP := Lib.hid (pClass_any s w.heap.size 0 rfl _ _ w.heap.size w _ hs (Nat.zero_le _) (PrX.made s w))
  go_enter Tryz.func9, Tryz.ntmps9
  go_wp2_with fail
  refine HP.out.mono ?_
  rintro e1 w1 (⟨v, c, i, ⟨pp, rfl⟩, rfl, hr, hno⟩ | ⟨O, i, rfl, hr, hi, hyes⟩)
  · have HR := Lib.hid hr
    have HX := Lib.hid hno
    have c1 := (hr.next ((Below.refl w1.heap.size w1).alloc (Nat.le_refl _) (.cells #[.string c] 54))).c1
    clear hr hno
    go_wp2_with fail
    go_quiet (fail)
    go_wp2_with fail
    go_ret3
    exact .inl ⟨_, _, i, ⟨pp, rfl⟩, rfl, below_drewN (((HR.out.below (Nat.le_refl _)).alloc (by have := HR.out.size; omega) _)) _, HX.out⟩
  · have HR := Lib.hid hr
    have HX := Lib.hid hyes
    have c1 := (hr.next ((Below.refl w1.heap.size w1).alloc (Nat.le_refl _) (.cells #[.string O] 54))).c1
    clear hr hyes
    go_wp2_with fail
    go_quiet (fail)
    go_wp2_with fail
    go_ret3
    exact .inr ⟨O, i, rfl, below_drewN (((HR.out.below (Nat.le_refl _)).alloc (by have := HR.out.size; omega) _)) _, hi, HX.out⟩

/-- What Take makes of a class. -/
def partV (k : Int) (v : ByteArray) : Value := .agg #[.int .i64 k, .string ⟨#[]⟩, .string v, .string ⟨#[]⟩, .int .i64 0, .int .i64 0, .bool false, .bool false, .bool false, .bool false, .slice none 0 0]

set_option maxRecDepth 100000 in
set_option maxHeartbeats 8000000 in
theorem take_class (O : ByteArray) (w : World) : Calls Tryz.prog 15 #[.iface 54 (.agg #[.string O])] w fun e w' => e = .returned (partV 2 O) ∧ Below w.heap.size w w' := by
  have ta1 : ∀ w, (Instr.typeAssert (.iface 54 (.agg #[.string O])) 33 65 true).run Tryz.prog w = .ok (.tuple #[.agg #[.string ⟨#[]⟩], .bool false]) w := fun _ => by kernel_rfl
  have ta2 : ∀ w, (Instr.typeAssert (.iface 54 (.agg #[.string O])) 33 54 true).run Tryz.prog w = .ok (.tuple #[.agg #[.string O], .bool true]) w := fun _ => by kernel_rfl
  have h4 : ((w.alloc (.cells #[.int .i64 2, .string ⟨#[]⟩, .string O, .string ⟨#[]⟩, .int .i64 0, .int .i64 0, .bool false, .bool false, .bool false, .bool false, .slice none 0 0] 48)).alloc (.cells #[.string O] 54)).heap[w.heap.size]? = some (.cells #[.int .i64 2, .string ⟨#[]⟩, .string O, .string ⟨#[]⟩, .int .i64 0, .int .i64 0, .bool false, .bool false, .bool false, .bool false, .slice none 0 0] 48 (0, 0)) :=
    (Below.heap_alloc _ _ _ (by simp)).trans (heap_alloc_new w _)
  have H4 := Lib.hid h4
  clear h4
  go_enter Tryz.func15, Tryz.ntmps15
  go_wp2_with fail
  refine bodyPost_ret (results_cell_row rfl _ _ w.heap.size _ _ _ _ rfl H4.out Tryz.underlying48 rfl (by kernel_rfl)) rfl ?_
  exact ⟨rfl, ((Below.refl _ _).alloc (Nat.le_refl _) _).alloc (by simp) _⟩
set_option maxRecDepth 100000 in
set_option maxHeartbeats 8000000 in
theorem selNode_class (O : ByteArray) (w : World) : Calls Tryz.prog 14 #[partV 2 O] w fun e w' => e = .returned (selV 3 O 0) ∧ Below w.heap.size w w' := by
  unfold partV
  have h4 : ∀ A : Obj, ((w.alloc A).alloc (.cells #[.int .i64 3, .int .i64 0, .string ⟨#[]⟩, .string O, .int .i64 0, .int .i64 0, .int .i64 0, .int .i64 0] 23)).heap[w.heap.size + 1]? = some (.cells #[.int .i64 3, .int .i64 0, .string ⟨#[]⟩, .string O, .int .i64 0, .int .i64 0, .int .i64 0, .int .i64 0] 23 (0, 0)) := fun A => by
    have := heap_alloc_new (w.alloc A) (.cells #[.int .i64 3, .int .i64 0, .string ⟨#[]⟩, .string O, .int .i64 0, .int .i64 0, .int .i64 0, .int .i64 0] 23)
    rw [show (w.alloc A).heap.size = w.heap.size + 1 by simp] at this
    exact this
  have H4 := Lib.hid h4
  clear h4
  go_enter Tryz.func14, Tryz.ntmps14
  go_wp2_with fail
  refine bodyPost_ret (results_cell_row rfl _ _ (w.heap.size + 1) _ _ _ _ rfl (H4.out _) Tryz.underlying23 rfl (by kernel_rfl)) rfl ?_
  exact ⟨rfl, ((Below.refl _ _).alloc (Nat.le_refl _) _).alloc (by simp) _⟩

def IcP (s : ByteArray) (w : World) (e : Ending) (w' : World) : Prop :=
  (∃ (x : Value) (k : Int), e = .returned (.tuple #[selV 0 ⟨#[]⟩ 0, .int .i64 k, .bool false]) ∧ Below w.heap.size w w' ∧ ClNo s) ∨
  (∃ (O : ByteArray) (i : Nat), e = .returned (.tuple #[selV 3 O 1, .int .i64 (i : Int), .bool true]) ∧ Below w.heap.size w w' ∧ i ≤ s.size ∧ ClYes s O i)

def RdNo (w : World) (e : Ending) (w' : World) : Prop := e = .returned (.tuple #[selV 0 ⟨#[]⟩ 0, .int .i64 0, .bool false]) ∧ Below w.heap.size w w'
def RdYes (O : ByteArray) (i : Nat) (w : World) (e : Ending) (w' : World) : Prop := e = .returned (.tuple #[selV 3 O 1, .int .i64 (i : Int), .bool true]) ∧ Below w.heap.size w w'

set_option maxRecDepth 100000 in
set_option maxHeartbeats 8000000 in
theorem read_no (x v : Value) (k : Nat) (hv : ErrV v) (w : World) : Calls Tryz.prog 8 #[x, .int .i64 (k : Int), v] w (RdNo w) := by
  obtain ⟨pp, rfl⟩ := hv
  have HST := Lib.hid (BlkB.made w w.heap.size (Nat.le_refl _) #[.int .i64 0, .int .i64 0, .string ⟨#[]⟩, .string ⟨#[]⟩, .int .i64 0, .int .i64 0, .int .i64 0, .int .i64 0] 23)
  go_enter Tryz.func8, Tryz.ntmps8
  go_wp2_with fail
  refine bodyPost_ret (results_mix3 rfl _ _ w.heap.size _ _ _ _ rfl HST.out.blk Tryz.underlying23 rfl (by kernel_rfl)) rfl ?_
  exact ⟨rfl, HST.out.old⟩
set_option maxRecDepth 100000 in
set_option maxHeartbeats 8000000 in
theorem read_yes (O : ByteArray) (i : Nat) (w : World) : Calls Tryz.prog 8 #[.iface 54 (.agg #[.string O]), .int .i64 (i : Int), .nilIface] w (RdYes O i w) := by
  go_enter Tryz.func8, Tryz.ntmps8
  go_wp2_with fail
  refine (take_class O _).mono ?_
  rintro e1 w1 ⟨rfl, hb1⟩
  have hst := BlkB.made w w.heap.size (Nat.le_refl _) #[.int .i64 0, .int .i64 0, .string ⟨#[]⟩, .string ⟨#[]⟩, .int .i64 0, .int .i64 0, .int .i64 0, .int .i64 0] 23
  have hst1 := hst.next hb1
  clear hb1 hst
  go_wp2_with fail
  refine (selNode_class O _).mono ?_
  rintro e1 w2 ⟨rfl, hb2⟩
  have hst2 := hst1.next hb2
  have HST : Hid (∀ X, BlkB w.heap.size #[.int .i64 0, .int .i64 0, .string ⟨#[]⟩, .string ⟨#[]⟩, .int .i64 0, .int .i64 0, .int .i64 0, .int .i64 0] 23 w.heap.size w (w2.alloc X)) := fun X => hst2.next ((Below.refl _ _).alloc (Nat.le_refl _) _)
  have k0 : ∀ X, (w2.alloc X).cell? ⟨w.heap.size, 0, none⟩ = some (.int .i64 0) := fun X => (HST.out X).cell 0
  have f0 : ∀ X, (w2.alloc X).frozen? ⟨w.heap.size, 0, none⟩ = false := fun X => (HST.out X).fz 0
  have k1 : ∀ X, (w2.alloc X).cell? ⟨w.heap.size, 1, none⟩ = some (.int .i64 0) := fun X => (HST.out X).cell 1
  have f1 : ∀ X, (w2.alloc X).frozen? ⟨w.heap.size, 1, none⟩ = false := fun X => (HST.out X).fz 1
  have k2 : ∀ X, (w2.alloc X).cell? ⟨w.heap.size, 2, none⟩ = some (.string ⟨#[]⟩) := fun X => (HST.out X).cell 2
  have f2 : ∀ X, (w2.alloc X).frozen? ⟨w.heap.size, 2, none⟩ = false := fun X => (HST.out X).fz 2
  have k3 : ∀ X, (w2.alloc X).cell? ⟨w.heap.size, 3, none⟩ = some (.string ⟨#[]⟩) := fun X => (HST.out X).cell 3
  have f3 : ∀ X, (w2.alloc X).frozen? ⟨w.heap.size, 3, none⟩ = false := fun X => (HST.out X).fz 3
  have k4 : ∀ X, (w2.alloc X).cell? ⟨w.heap.size, 4, none⟩ = some (.int .i64 0) := fun X => (HST.out X).cell 4
  have f4 : ∀ X, (w2.alloc X).frozen? ⟨w.heap.size, 4, none⟩ = false := fun X => (HST.out X).fz 4
  have k5 : ∀ X, (w2.alloc X).cell? ⟨w.heap.size, 5, none⟩ = some (.int .i64 0) := fun X => (HST.out X).cell 5
  have f5 : ∀ X, (w2.alloc X).frozen? ⟨w.heap.size, 5, none⟩ = false := fun X => (HST.out X).fz 5
  have k6 : ∀ X, (w2.alloc X).cell? ⟨w.heap.size, 6, none⟩ = some (.int .i64 0) := fun X => (HST.out X).cell 6
  have f6 : ∀ X, (w2.alloc X).frozen? ⟨w.heap.size, 6, none⟩ = false := fun X => (HST.out X).fz 6
  have k7 : ∀ X, (w2.alloc X).cell? ⟨w.heap.size, 7, none⟩ = some (.int .i64 0) := fun X => (HST.out X).cell 7
  have f7 : ∀ X, (w2.alloc X).frozen? ⟨w.heap.size, 7, none⟩ = false := fun X => (HST.out X).fz 7
  clear hb2 hst1 hst2
  unfold selV
  go_wp2_with fail
  have HF := ((((((((HST.out (.cells #[.int .i64 3, .int .i64 0, .string ⟨#[]⟩, .string O, .int .i64 0, .int .i64 0, .int .i64 0, .int .i64 1] 23)).set 0 (.int .i64 3)).set 1 (.int .i64 0)).set 2 (.string ⟨#[]⟩)).set 3 (.string O)).set 4 (.int .i64 0)).set 5 (.int .i64 0)).set 6 (.int .i64 0)).set 7 (.int .i64 1)
  refine bodyPost_ret (results_mix3 rfl _ _ w.heap.size _ _ _ _ rfl HF.blk Tryz.underlying23 rfl (by kernel_rfl)) rfl ?_
  exact ⟨rfl, HF.old⟩

set_option maxRecDepth 100000 in
set_option maxHeartbeats 8000000 in
theorem iReadClass_any (s : ByteArray) (w : World) (hs : s.size ≤ 1000) : Calls Tryz.prog 5 #[.string s] w (IcP s w) := by
  have HC := Lib.hid (fun U => cReadClass_any s U hs)
  have hst := BlkB.made w w.heap.size (Nat.le_refl _) #[.int .i64 0, .int .i64 0, .string ⟨#[]⟩, .string ⟨#[]⟩, .int .i64 0, .int .i64 0, .int .i64 0, .int .i64 0] 23
  go_enter Tryz.func5, Tryz.ntmps5
  go_wp2_with fail
  refine (HC.out _).mono ?_
  rintro e1 w1 (⟨v, x, k, hv, rfl, hb, hno⟩ | ⟨O, i, rfl, hb, hi, hyes⟩)
  · have hst1 := hst.next hb
    have HX := Lib.hid hno
    have HRd := Lib.hid (fun U => read_no x v k hv U)
    unfold RdNo selV at HRd
    clear hb hno hst hv
    go_wp2_with fail
    refine (HRd.out _).mono ?_
    rintro e1 w2 ⟨rfl, hb2⟩
    have hst2 := hst1.next hb2
    have HST := Lib.hid hst2
    have k0 : w2.cell? ⟨w.heap.size, 0, none⟩ = some (.int .i64 0) := hst2.cell 0
    have f0 := hst2.fz 0
    have k1 : w2.cell? ⟨w.heap.size, 1, none⟩ = some (.int .i64 0) := hst2.cell 1
    have f1 := hst2.fz 1
    have k2 : w2.cell? ⟨w.heap.size, 2, none⟩ = some (.string ⟨#[]⟩) := hst2.cell 2
    have f2 := hst2.fz 2
    have k3 : w2.cell? ⟨w.heap.size, 3, none⟩ = some (.string ⟨#[]⟩) := hst2.cell 3
    have f3 := hst2.fz 3
    have k4 : w2.cell? ⟨w.heap.size, 4, none⟩ = some (.int .i64 0) := hst2.cell 4
    have f4 := hst2.fz 4
    have k5 : w2.cell? ⟨w.heap.size, 5, none⟩ = some (.int .i64 0) := hst2.cell 5
    have f5 := hst2.fz 5
    have k6 : w2.cell? ⟨w.heap.size, 6, none⟩ = some (.int .i64 0) := hst2.cell 6
    have f6 := hst2.fz 6
    have k7 : w2.cell? ⟨w.heap.size, 7, none⟩ = some (.int .i64 0) := hst2.cell 7
    have f7 := hst2.fz 7
    clear hb2 hst1 hst2
    go_wp2_with fail
    have HF := (((((((HST.out.set 0 (.int .i64 0)).set 1 (.int .i64 0)).set 2 (.string ⟨#[]⟩)).set 3 (.string ⟨#[]⟩)).set 4 (.int .i64 0)).set 5 (.int .i64 0)).set 6 (.int .i64 0)).set 7 (.int .i64 0)
    refine bodyPost_ret (results_mix3 rfl _ _ w.heap.size _ _ _ _ rfl HF.blk Tryz.underlying23 rfl (by kernel_rfl)) rfl ?_
    exact .inl ⟨x, 0, rfl, HF.old, HX.out⟩
  · have hst1 := hst.next hb
    have HX := Lib.hid hyes
    have HRd := Lib.hid (fun U => read_yes O i U)
    unfold RdYes selV at HRd
    clear hb hyes hst
    go_wp2_with fail
    refine (HRd.out _).mono ?_
    rintro e1 w2 ⟨rfl, hb2⟩
    have hst2 := hst1.next hb2
    have HST := Lib.hid hst2
    have k0 : w2.cell? ⟨w.heap.size, 0, none⟩ = some (.int .i64 0) := hst2.cell 0
    have f0 := hst2.fz 0
    have k1 : w2.cell? ⟨w.heap.size, 1, none⟩ = some (.int .i64 0) := hst2.cell 1
    have f1 := hst2.fz 1
    have k2 : w2.cell? ⟨w.heap.size, 2, none⟩ = some (.string ⟨#[]⟩) := hst2.cell 2
    have f2 := hst2.fz 2
    have k3 : w2.cell? ⟨w.heap.size, 3, none⟩ = some (.string ⟨#[]⟩) := hst2.cell 3
    have f3 := hst2.fz 3
    have k4 : w2.cell? ⟨w.heap.size, 4, none⟩ = some (.int .i64 0) := hst2.cell 4
    have f4 := hst2.fz 4
    have k5 : w2.cell? ⟨w.heap.size, 5, none⟩ = some (.int .i64 0) := hst2.cell 5
    have f5 := hst2.fz 5
    have k6 : w2.cell? ⟨w.heap.size, 6, none⟩ = some (.int .i64 0) := hst2.cell 6
    have f6 := hst2.fz 6
    have k7 : w2.cell? ⟨w.heap.size, 7, none⟩ = some (.int .i64 0) := hst2.cell 7
    have f7 := hst2.fz 7
    clear hb2 hst1 hst2
    go_wp2_with fail
    have HF := (((((((HST.out.set 0 (.int .i64 3)).set 1 (.int .i64 0)).set 2 (.string ⟨#[]⟩)).set 3 (.string O)).set 4 (.int .i64 0)).set 5 (.int .i64 0)).set 6 (.int .i64 0)).set 7 (.int .i64 1)
    refine bodyPost_ret (results_mix3 rfl _ _ w.heap.size _ _ _ _ rfl HF.blk Tryz.underlying23 rfl (by kernel_rfl)) rfl ?_
    exact .inr ⟨O, i, rfl, HF.old, hi, HX.out⟩
end Go.Proofs.YtkdfdfhejibopaaGreatDoor
