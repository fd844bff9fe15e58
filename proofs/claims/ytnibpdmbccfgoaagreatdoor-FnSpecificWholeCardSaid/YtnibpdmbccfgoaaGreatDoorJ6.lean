/- FnSpecificWhole: texts joined (joinf.py) -/
import Derived.Test.YtnibpdmbccfgoaaGreatDoorJ1
import Derived.Below
import Derived.Laws.Rows
import Derived.Deep.QuietTactic
import Derived.BigQuiet
import Derived.IntWalk
import Derived.Test.YtnibpdmbccfgoaaGreatDoorT406
import Derived.Deep.RegionHeld3
import Derived.Deep.RegionWith
import Derived.Deep.LoopGhost
import Derived.Test.YtnibpdmbccfgoaaGreatDoorJ5
import Derived.WalkKit
import Derived.WalkSpells
import Derived.WalkLawsBesides
import Derived.Lib.Case
import Derived.Lib.BufferWrite
import Derived.Deep.OwnRows
namespace Go.Proofs.YtnibpdmbccfgoaaGreatDoor
open Go.RowKit
set_option linter.unusedVariables false

def sp3 (x : S3) : Value := .agg #[.int .i64 (x.1 : Int), .int .i64 (x.2.1 : Int), .int .i64 (x.2.2 : Int)]
def S3.lim (x : S3) : Prop := x.1 ≤ 100000 ∧ x.2.1 ≤ 100000 ∧ x.2.2 ≤ 100000
def SpP (x : S3) (w : World) (e : Ending) (w' : World) : Prop := e = .returned (sp3 x) ∧ Below w.heap.size w w'

set_option maxRecDepth 100000 in
set_option maxHeartbeats 4000000 in
theorem spAdd_any (a b c x y z : Nat) (h1 : a ≤ 100000) (h2 : b ≤ 100000) (h3 : c ≤ 100000) (g1 : x ≤ 100000) (g2 : y ≤ 100000) (g3 : z ≤ 100000) (w : World) :
    Calls Tryz.prog 15 #[.agg #[.int .i64 a, .int .i64 b, .int .i64 c], .agg #[.int .i64 x, .int .i64 y, .int .i64 z]] w (SpP (a + x, b + y, c + z) w) := by
  have HN : Hid (∀ (A B : Obj) (C : Array Value), (((w.alloc A).alloc B).alloc (.cells C 41)).heap[w.heap.size + 1 + 1]? = some (.cells C 41 (0, 0))) := fun A B C => by
    have := heap_alloc_new ((w.alloc A).alloc B) (.cells C 41)
    rw [show ((w.alloc A).alloc B).heap.size = w.heap.size + 1 + 1 by simp] at this
    exact this
  have i0 : ∀ w, (Instr.index 41 (.agg #[.int .i64 x, .int .i64 y, .int .i64 z]) (.int .i64 0)).run Tryz.prog w = .ok (.int .i64 x) w := fun _ => by kernel_rfl
  have i1 : ∀ w, (Instr.index 41 (.agg #[.int .i64 x, .int .i64 y, .int .i64 z]) (.int .i64 1)).run Tryz.prog w = .ok (.int .i64 y) w := fun _ => by kernel_rfl
  have i2 : ∀ w, (Instr.index 41 (.agg #[.int .i64 x, .int .i64 y, .int .i64 z]) (.int .i64 2)).run Tryz.prog w = .ok (.int .i64 z) w := fun _ => by kernel_rfl
  go_enter Tryz.func15, Tryz.ntmps15
  go_wp2_with fail
  refine wp_loop_rounds 4 ?_
  rw [rounds_succ]
  go_wp2_with fail
  rw [rounds_succ]
  go_wp2_with fail
  rw [rounds_succ]
  go_wp2_with fail
  rw [rounds_succ]
  go_wp2_with fail
  refine bodyPost_ret (results_cell_row rfl _ _ (w.heap.size + 1 + 1) _ _ _ _ rfl (HN.out _ _ _) Tryz.underlying41 rfl (by kernel_rfl)) rfl ?_
  exact ⟨rfl, (((Below.refl _ _).alloc (Nat.le_refl _) _).alloc (by simp) _).alloc (by simp; omega) _⟩

def LsP (b : Bool) (w : World) (e : Ending) (w' : World) : Prop := e = .returned (.bool b) ∧ Below w.heap.size w w'
theorem ret_bool {a b : Bool} (h : a = b) : Ending.returned (.bool a) = .returned (.bool b) := by rw [h]

set_option maxRecDepth 100000 in
set_option maxHeartbeats 8000000 in
theorem spLess_any (a b c x y z : Nat) (w : World) (h1 : a ≤ 100000) (h2 : b ≤ 100000) (h3 : c ≤ 100000) (g1 : x ≤ 100000) (g2 : y ≤ 100000) (g3 : z ≤ 100000) :
    Calls Tryz.prog 120 #[.agg #[.int .i64 a, .int .i64 b, .int .i64 c], .agg #[.int .i64 x, .int .i64 y, .int .i64 z]] w (LsP (S3.less (a, b, c) (x, y, z)) w) := by
  have HB : Hid (∀ (A B : Obj), Below w.heap.size w ((w.alloc A).alloc B)) := fun A B => ((Below.refl _ _).alloc (Nat.le_refl _) _).alloc (by simp) _
  have hcs : (a < x) ∨ (x < a) ∨ (a ≤ x ∧ x ≤ a ∧ b < y) ∨ (a ≤ x ∧ x ≤ a ∧ y < b) ∨ (a ≤ x ∧ x ≤ a ∧ b ≤ y ∧ y ≤ b ∧ c < z) ∨ (a ≤ x ∧ x ≤ a ∧ b ≤ y ∧ y ≤ b ∧ z < c) ∨ (a ≤ x ∧ x ≤ a ∧ b ≤ y ∧ y ≤ b ∧ c ≤ z ∧ z ≤ c) := by omega
  rcases hcs with h | h | ⟨h, h', k⟩ | ⟨h, h', k⟩ | ⟨h, h', k, k', j⟩ | ⟨h, h', k, k', j⟩ | ⟨h, h', k, k', j, j'⟩
  · have HV : Hid (S3.less (a, b, c) (x, y, z) = true) := decide_eq_true (by dsimp only; omega)
    go_enter Tryz.func120, Tryz.ntmps120
    go_wp2_with fail
    refine wp_loop_rounds 4 ?_
    rw [rounds_succ]
    go_wp2_with fail
    go_quiet (fail)
    go_wp2_with fail
    go_ret
    refine ⟨ret_bool HV.out.symm, ?_⟩
    repeat (first | exact HB.out _ _ | refine below_drewN ?_ _)
  · have HV : Hid (S3.less (a, b, c) (x, y, z) = false) := decide_eq_false (by dsimp only; omega)
    go_enter Tryz.func120, Tryz.ntmps120
    go_wp2_with fail
    refine wp_loop_rounds 4 ?_
    rw [rounds_succ]
    go_wp2_with fail
    go_quiet (fail)
    go_wp2_with fail
    go_quiet (fail)
    go_wp2_with fail
    go_ret
    refine ⟨ret_bool HV.out.symm, ?_⟩
    repeat (first | exact HB.out _ _ | refine below_drewN ?_ _)
  · have HV : Hid (S3.less (a, b, c) (x, y, z) = true) := decide_eq_true (by dsimp only; omega)
    go_enter Tryz.func120, Tryz.ntmps120
    go_wp2_with fail
    refine wp_loop_rounds 4 ?_
    rw [rounds_succ]
    go_wp2_with fail
    go_quiet (fail)
    go_wp2_with fail
    go_quiet (fail)
    go_wp2_with fail
    rw [rounds_succ]
    go_wp2_with fail
    go_quiet (fail)
    go_wp2_with fail
    go_ret
    refine ⟨ret_bool HV.out.symm, ?_⟩
    repeat (first | exact HB.out _ _ | refine below_drewN ?_ _)
  · have HV : Hid (S3.less (a, b, c) (x, y, z) = false) := decide_eq_false (by dsimp only; omega)
    go_enter Tryz.func120, Tryz.ntmps120
    go_wp2_with fail
    refine wp_loop_rounds 4 ?_
    rw [rounds_succ]
    go_wp2_with fail
    go_quiet (fail)
    go_wp2_with fail
    go_quiet (fail)
    go_wp2_with fail
    rw [rounds_succ]
    go_wp2_with fail
    go_quiet (fail)
    go_wp2_with fail
    go_quiet (fail)
    go_wp2_with fail
    go_ret
    refine ⟨ret_bool HV.out.symm, ?_⟩
    repeat (first | exact HB.out _ _ | refine below_drewN ?_ _)
  · have HV : Hid (S3.less (a, b, c) (x, y, z) = true) := decide_eq_true (by dsimp only; omega)
    go_enter Tryz.func120, Tryz.ntmps120
    go_wp2_with fail
    refine wp_loop_rounds 4 ?_
    rw [rounds_succ]
    go_wp2_with fail
    go_quiet (fail)
    go_wp2_with fail
    go_quiet (fail)
    go_wp2_with fail
    rw [rounds_succ]
    go_wp2_with fail
    go_quiet (fail)
    go_wp2_with fail
    go_quiet (fail)
    go_wp2_with fail
    rw [rounds_succ]
    go_wp2_with fail
    go_quiet (fail)
    go_wp2_with fail
    go_ret
    refine ⟨ret_bool HV.out.symm, ?_⟩
    repeat (first | exact HB.out _ _ | refine below_drewN ?_ _)
  · have HV : Hid (S3.less (a, b, c) (x, y, z) = false) := decide_eq_false (by dsimp only; omega)
    go_enter Tryz.func120, Tryz.ntmps120
    go_wp2_with fail
    refine wp_loop_rounds 4 ?_
    rw [rounds_succ]
    go_wp2_with fail
    go_quiet (fail)
    go_wp2_with fail
    go_quiet (fail)
    go_wp2_with fail
    rw [rounds_succ]
    go_wp2_with fail
    go_quiet (fail)
    go_wp2_with fail
    go_quiet (fail)
    go_wp2_with fail
    rw [rounds_succ]
    go_wp2_with fail
    go_quiet (fail)
    go_wp2_with fail
    go_quiet (fail)
    go_wp2_with fail
    go_ret
    refine ⟨ret_bool HV.out.symm, ?_⟩
    repeat (first | exact HB.out _ _ | refine below_drewN ?_ _)
  · have HV : Hid (S3.less (a, b, c) (x, y, z) = false) := decide_eq_false (by dsimp only; omega)
    go_enter Tryz.func120, Tryz.ntmps120
    go_wp2_with fail
    refine wp_loop_rounds 4 ?_
    rw [rounds_succ]
    go_wp2_with fail
    go_quiet (fail)
    go_wp2_with fail
    go_quiet (fail)
    go_wp2_with fail
    rw [rounds_succ]
    go_wp2_with fail
    go_quiet (fail)
    go_wp2_with fail
    go_quiet (fail)
    go_wp2_with fail
    rw [rounds_succ]
    go_wp2_with fail
    go_quiet (fail)
    go_wp2_with fail
    go_quiet (fail)
    go_wp2_with fail
    rw [rounds_succ]
    go_wp2_with fail
    go_ret
    refine ⟨ret_bool HV.out.symm, ?_⟩
    repeat (first | exact HB.out _ _ | refine below_drewN ?_ _)
end Go.Proofs.YtnibpdmbccfgoaaGreatDoor

namespace Go.Proofs.YtnibpdmbccfgoaaGreatDoor
open Go.RowKit
set_option linter.unusedVariables false

/-- A struct of its own, whole; what lies below is as it was. -/
structure BlkB (g : Nat) (cs : Array Value) (T : TypeId) (B : Nat) (W w : World) : Prop where
  blk : w.heap[g]? = some (.cells cs T (0, 0))
  old : Below B W w
  base : B ≤ g
theorem BlkB.made (w : World) (B : Nat) (hB : B ≤ w.heap.size) (cs : Array Value) (T : TypeId) : BlkB w.heap.size cs T B w (w.alloc (.cells cs T)) := ⟨heap_alloc_new w _, (Below.refl _ _).alloc hB _, hB⟩
theorem BlkB.set {g : Nat} {cs : Array Value} {T : TypeId} {B : Nat} {W w : World} (h : BlkB g cs T B W w) (i : Nat) (v : Value) : BlkB g (cs.setIfInBounds i v) T B W (w.setCell ⟨g, i, none⟩ v) :=
  ⟨Lib.heap_setCell_same (i := i) h.blk _, h.old.setCell (p := ⟨g, i, none⟩) h.base _, h.base⟩
theorem BlkB.drew {g : Nat} {cs : Array Value} {T : TypeId} {B : Nat} {W w : World} (h : BlkB g cs T B W w) (n : Nat) : BlkB g cs T B W (w.drewN n) := ⟨h.blk, below_drewN h.old n, h.base⟩
theorem BlkB.next {g : Nat} {cs : Array Value} {T : TypeId} {B : Nat} {W w w' : World} (h : BlkB g cs T B W w) (hb : Below w.heap.size w w') : BlkB g cs T B W w' :=
  ⟨(hb.block g (Array.getElem?_eq_some_iff.1 h.blk).1).trans h.blk, h.old.trans (hb.mono (Nat.le_of_lt (Nat.lt_of_le_of_lt h.base (Array.getElem?_eq_some_iff.1 h.blk).1))), h.base⟩
theorem BlkB.cell {g : Nat} {cs : Array Value} {T : TypeId} {B : Nat} {W w : World} (h : BlkB g cs T B W w) (i : Nat) : w.cell? ⟨g, i, none⟩ = cs[i]? := cell_of_row w g i _ _ _ h.blk
theorem BlkB.fz {g : Nat} {cs : Array Value} {T : TypeId} {B : Nat} {W w : World} (h : BlkB g cs T B W w) (i : Nat) : w.frozen? ⟨g, i, none⟩ = false := frozen_of_row w g i _ _ h.blk

theorem BlkB.far {g : Nat} {cs : Array Value} {T : TypeId} {B : Nat} {W w : World} (h : BlkB g cs T B W w) {p : Addr} (hg : g ≠ p.block) (hB : B ≤ p.block) (v : Value) : BlkB g cs T B W (w.setCell p v) :=
  ⟨by rw [Below.heap_setCell _ _ _ _ hg]; exact h.blk, h.old.setCell hB _, h.base⟩
/-- The blocks from lo up to hi stay. -/
structure Kp (lo hi : Nat) (w U : World) : Prop where
  size : w.heap.size ≤ U.heap.size
  oth : ∀ b, lo ≤ b → b < hi → U.heap[b]? = w.heap[b]?
theorem Kp.of {lo hi : Nat} {w U : World} (h : Below w.heap.size w U) (ht : hi ≤ w.heap.size) : Kp lo hi w U := ⟨h.size, fun b _ hb => h.block b (Nat.lt_of_lt_of_le hb ht)⟩
theorem Kp.trans {lo hi : Nat} {w U V : World} (h : Kp lo hi w U) (h' : Kp lo hi U V) : Kp lo hi w V := ⟨Nat.le_trans h.size h'.size, fun b hb hn => (h'.oth b hb hn).trans (h.oth b hb hn)⟩
theorem Kp.refl (lo hi : Nat) (w : World) : Kp lo hi w w := ⟨Nat.le_refl _, fun _ _ _ => rfl⟩
theorem Kp.less {lo hi lo' hi' : Nat} {w U : World} (h : Kp lo' hi' w U) (h1 : lo' ≤ lo) (h2 : hi ≤ hi') : Kp lo hi w U := ⟨h.size, fun b q1 q2 => h.oth b (Nat.le_trans h1 q1) (Nat.lt_of_lt_of_le q2 h2)⟩
/-- A value of a type with the method, and what the method answers (298: the model's fuel at this program's tables). -/
def Disp (lo hi : Nat) (v : Value) (x : S3) (w : World) : Prop :=
  hi ≤ w.heap.size ∧ ∃ (T : TypeId) (f : Value) (K : FuncId) (r : Value), v = .iface T f ∧ (∀ U, (method 298 T f "Specificity").run Tryz.prog U = .ok (K, r) U) ∧ (∀ xs U, (callFunc K xs).run Tryz.prog U = .ok (.enter K xs) U) ∧ ∀ U, Kp lo hi w U → Calls Tryz.prog K #[r] U (SpP x U)

set_option maxRecDepth 100000 in
set_option maxHeartbeats 4000000 in
theorem spComb_any (lo hi : Nat) (f g : Value) (c : Nat) (x y : S3) (hx : x.lim) (hy : y.lim) (w : World) (hf : Disp lo hi f x w) (hg : Disp lo hi g y w) :
    Calls Tryz.prog 123 #[.agg #[f, .int .u8 (c : Int), g]] w (SpP (S3.add x y) w) := by
  obtain ⟨htf, T, f0, K0, r0, rfl, hm0, hc0, hf⟩ := hf
  obtain ⟨htg, U, g0, K1, r1, rfl, hm1, hc1, hg⟩ := hg
  have HF := Lib.hid hf
  have HG := Lib.hid hg
  clear hf hg
  obtain ⟨a, b, d⟩ := x
  obtain ⟨a', b', d'⟩ := y
  obtain ⟨x1, x2, x3⟩ := hx
  obtain ⟨y1, y2, y3⟩ := hy
  have hb0 : Below w.heap.size w ((w.alloc (.cells #[.iface T f0, .int .u8 (c : Int), .iface U g0] 62)).alloc (.cells #[.int .i64 0, .int .i64 0, .int .i64 0] 41)) := ((Below.refl _ _).alloc (Nat.le_refl _) _).alloc (by simp) _
  have hk0 : BlkB w.heap.size #[.iface T f0, .int .u8 (c : Int), .iface U g0] 62 w.heap.size w ((w.alloc (.cells #[.iface T f0, .int .u8 (c : Int), .iface U g0] 62)).alloc (.cells #[.int .i64 0, .int .i64 0, .int .i64 0] 41)) :=
    (BlkB.made w w.heap.size (Nat.le_refl _) _ _).next ((Below.refl _ _).alloc (Nat.le_refl _) _)
  have hr0 : BlkB (w.heap.size + 1) #[.int .i64 0, .int .i64 0, .int .i64 0] 41 w.heap.size w ((w.alloc (.cells #[.iface T f0, .int .u8 (c : Int), .iface U g0] 62)).alloc (.cells #[.int .i64 0, .int .i64 0, .int .i64 0] 41)) := by
    refine ⟨?_, hb0, by omega⟩
    have := heap_alloc_new (w.alloc (.cells #[.iface T f0, .int .u8 (c : Int), .iface U g0] 62)) (.cells #[.int .i64 0, .int .i64 0, .int .i64 0] 41)
    rw [show (w.alloc (.cells #[.iface T f0, .int .u8 (c : Int), .iface U g0] 62)).heap.size = w.heap.size + 1 by simp] at this
    exact this
  go_enter Tryz.func123, Tryz.ntmps123
  go_wp2_with fail
  obtain ⟨W0, hW0⟩ : ∃ W0 : World, W0 = ((w.alloc (.cells #[.iface T f0, .int .u8 (c : Int), .iface U g0] 62)).alloc (.cells #[.int .i64 0, .int .i64 0, .int .i64 0] 41)) := ⟨_, rfl⟩
  obtain ⟨H, hH⟩ : ∃ H, H = w.heap.size := ⟨_, rfl⟩
  rw [← hW0] at hb0 hk0 hr0 ⊢
  rw [← hH] at hb0 hk0 hr0 ⊢
  refine (HF.out _ (Kp.of (by rw [hH] at hb0; exact hb0) htf)).mono ?_
  rintro e1 w1 ⟨rfl, hb1⟩
  have hb2 := bnext (by rw [hH] at hb0; exact hb0) hb1
  have hk1 := hk0.next hb1
  have hr1 := hr0.next hb1
  have HB2 := Lib.hid hb2
  clear hb0 hk0 hr0 hb1 hb2 hW0
  have HH := Lib.hid hH
  clear hH
  unfold sp3
  have hka : ∀ X, BlkB H #[.iface T f0, .int .u8 (c : Int), .iface U g0] 62 H w (w1.alloc X) := fun X => hk1.next ((Below.refl _ _).alloc (Nat.le_refl _) _)
  have q0 : ∀ X, (w1.alloc X).cell? ⟨H, 0, none⟩ = some (.iface T f0) := fun X => (hka X).cell 0
  have q1 : ∀ X, (w1.alloc X).cell? ⟨H, 1, none⟩ = some (.int .u8 (c : Int)) := fun X => (hka X).cell 1
  have q2 : ∀ X, (w1.alloc X).cell? ⟨H, 2, none⟩ = some (.iface U g0) := fun X => (hka X).cell 2
  have hsz : H + 1 < w1.heap.size := (Array.getElem?_eq_some_iff.1 hr1.blk).1
  clear hka
  have HK1 := Lib.hid hk1
  have HR1 := Lib.hid hr1
  clear hk1 hr1
  go_wp2_with fail
  obtain ⟨W1, hW1⟩ : ∃ W1 : World, W1 = (w1.alloc (.cells #[.int .i64 a, .int .i64 b, .int .i64 d] 41)) := ⟨_, rfl⟩
  obtain ⟨J, hJ⟩ : ∃ J, J = w1.heap.size := ⟨_, rfl⟩
  have hsB : BlkB J #[.int .i64 a, .int .i64 b, .int .i64 d] 41 0 W1 W1 := by rw [hW1, hJ]; exact ⟨heap_alloc_new w1 _, Below.refl _ _, Nat.zero_le _⟩
  have hkB : BlkB H #[.iface T f0, .int .u8 (c : Int), .iface U g0] 62 0 W1 W1 := by
    have := HK1.out.next ((Below.refl _ _).alloc (Nat.le_refl _) (.cells #[.int .i64 a, .int .i64 b, .int .i64 d] 41))
    rw [← hW1] at this
    exact ⟨this.blk, Below.refl _ _, Nat.zero_le _⟩
  have hrB : BlkB (H + 1) #[.int .i64 0, .int .i64 0, .int .i64 0] 41 0 W1 W1 := by
    have := HR1.out.next ((Below.refl _ _).alloc (Nat.le_refl _) (.cells #[.int .i64 a, .int .i64 b, .int .i64 d] 41))
    rw [← hW1] at this
    exact ⟨this.blk, Below.refl _ _, Nat.zero_le _⟩
  have hW1b : Below w.heap.size w W1 := by
    have := bnext HB2.out ((Below.refl _ _).alloc (Nat.le_refl _) (.cells #[.int .i64 a, .int .i64 b, .int .i64 d] 41))
    rw [← hW1] at this; exact this
  rw [← hW1, ← hJ]
  have HSB := Lib.hid hsB
  have HKB := Lib.hid hkB
  have HRB := Lib.hid hrB
  have HWB := Lib.hid hW1b
  have HHJ : Hid (H + 1 < J) := by rw [Hid, hJ]; exact hsz
  clear q0 q1 q2 hsz hW1 hJ HK1 HR1 HB2
  have q2 : W1.cell? ⟨H, 2, none⟩ = some (.iface U g0) := hkB.cell 2
  have t0 : W1.cell? ⟨J, 0, none⟩ = some (.int .i64 a) := hsB.cell 0
  have t1 : W1.cell? ⟨J, 1, none⟩ = some (.int .i64 b) := hsB.cell 1
  have t2 : W1.cell? ⟨J, 2, none⟩ = some (.int .i64 d) := hsB.cell 2
  clear hsB hkB hrB hW1b
  have HG2 : Hid (∀ V, Below W1.heap.size W1 V → Calls Tryz.prog K1 #[r1] V (SpP (a', b', d') V)) := fun V hV => HG.out V (Kp.of (bnext HWB.out hV) htg)
  have HAd : Hid (∀ V, Calls Tryz.prog 15 #[.agg #[.int .i64 a, .int .i64 b, .int .i64 d], .agg #[.int .i64 a', .int .i64 b', .int .i64 d']] V (SpP (a + a', b + b', d + d') V)) := fun V => spAdd_any a b d a' b' d' x1 x2 x3 y1 y2 y3 V
  unfold SpP sp3 at HG2 HAd
  have HCell : Hid (∀ V, Below W1.heap.size W1 V → BlkB J #[.int .i64 a, .int .i64 b, .int .i64 d] 41 0 W1 V) := fun V hV => ⟨(HSB.out.next hV).blk, Below.mono hV (Nat.zero_le _), Nat.zero_le _⟩
  go_region_with (first | (refine (HG2.out _ ((Below.refl _ _).drew)).mono ?_; rintro e1 w2 ⟨rfl, hb2⟩; have hb2' := bnext ((Below.refl W1.heap.size W1).drew) hb2; have s0 : w2.cell? ⟨J, 0, none⟩ = some (.int .i64 a) := (HCell.out _ hb2').cell 0; have s1 : w2.cell? ⟨J, 1, none⟩ = some (.int .i64 b) := (HCell.out _ hb2').cell 1; have s2 : w2.cell? ⟨J, 2, none⟩ = some (.int .i64 d) := (HCell.out _ hb2').cell 2; have HB2 := Lib.hid hb2'; clear hb2 hb2') | (refine (HAd.out _).mono ?_; rintro e1 w3 ⟨rfl, hb3⟩; have hb3' := bnext HB2.out hb3; have z0 := (HCell.out _ hb3').fz 0; have z1 := (HCell.out _ hb3').fz 1; have z2 := (HCell.out _ hb3').fz 2; have s0 : w3.cell? ⟨J, 0, none⟩ = some (.int .i64 a) := (HCell.out _ hb3').cell 0; have s1 : w3.cell? ⟨J, 1, none⟩ = some (.int .i64 b) := (HCell.out _ hb3').cell 1; have s2 : w3.cell? ⟨J, 2, none⟩ = some (.int .i64 d) := (HCell.out _ hb3').cell 2; have HB3 := Lib.hid hb3'; clear hb3 hb3'))
  all_goals
    have hJg : H + 1 ≠ J := by have := HHJ.out; omega
    have e0 := HCell.out _ HB3.out
    have e1 := ((e0.set 0 (.int .i64 ((a : Int) + (a' : Int)))).set 1 (.int .i64 ((b : Int) + (b' : Int)))).set 2 (.int .i64 ((d : Int) + (d' : Int)))
    have e2 := (((HRB.out.next HB3.out).far (p := ⟨J, 0, none⟩) hJg (Nat.zero_le _) (.int .i64 ((a : Int) + (a' : Int)))).far (p := ⟨J, 1, none⟩) hJg (Nat.zero_le _) (.int .i64 ((b : Int) + (b' : Int)))).far (p := ⟨J, 2, none⟩) hJg (Nat.zero_le _) (.int .i64 ((d : Int) + (d' : Int)))
    have hwJ : w.heap.size ≤ J := by have := HHJ.out; have := HH.out; omega
    have e3 := (((bnext HWB.out HB3.out).setCell (p := ⟨J, 0, none⟩) hwJ (.int .i64 ((a : Int) + (a' : Int)))).setCell (p := ⟨J, 1, none⟩) hwJ (.int .i64 ((b : Int) + (b' : Int)))).setCell (p := ⟨J, 2, none⟩) hwJ (.int .i64 ((d : Int) + (d' : Int)))
    obtain ⟨V, hV⟩ : ∃ V : World, V = (((w3.setCell ⟨J, 0, none⟩ (.int .i64 ((a : Int) + (a' : Int)))).setCell ⟨J, 1, none⟩ (.int .i64 ((b : Int) + (b' : Int)))).setCell ⟨J, 2, none⟩ (.int .i64 ((d : Int) + (d' : Int)))) := ⟨_, rfl⟩
    rw [← hV] at e1 e2 e3 ⊢
    have v0 : V.cell? ⟨J, 0, none⟩ = some (.int .i64 ((a : Int) + (a' : Int))) := e1.cell 0
    have v1 : V.cell? ⟨J, 1, none⟩ = some (.int .i64 ((b : Int) + (b' : Int))) := e1.cell 1
    have v2 : V.cell? ⟨J, 2, none⟩ = some (.int .i64 ((d : Int) + (d' : Int))) := e1.cell 2
    have u0 : V.cell? ⟨H + 1, 0, none⟩ = some (.int .i64 0) := e2.cell 0
    have u1 : V.cell? ⟨H + 1, 1, none⟩ = some (.int .i64 0) := e2.cell 1
    have u2 : V.cell? ⟨H + 1, 2, none⟩ = some (.int .i64 0) := e2.cell 2
    have y0 := e2.fz 0
    have y1 := e2.fz 1
    have y2 := e2.fz 2
    have E2 := Lib.hid e2
    have E3 := Lib.hid e3
    clear e0 e1 e2 e3 hV q2 t0 t1 t2 s0 s1 s2 z0 z1 z2
    go_wp2_with fail
    have HF := ((E2.out.set 0 (.int .i64 ((a : Int) + (a' : Int)))).set 1 (.int .i64 ((b : Int) + (b' : Int)))).set 2 (.int .i64 ((d : Int) + (d' : Int)))
    have hwH : w.heap.size ≤ H + 1 := by have := HH.out; omega
    refine bodyPost_ret (results_cell_row rfl _ _ (H + 1) _ _ _ _ rfl HF.blk Tryz.underlying41 rfl (by kernel_rfl)) rfl ?_
    exact ⟨rfl, ((E3.out.setCell (p := ⟨H + 1, 0, none⟩) hwH _).setCell (p := ⟨H + 1, 1, none⟩) hwH _).setCell (p := ⟨H + 1, 2, none⟩) hwH _⟩
end Go.Proofs.YtnibpdmbccfgoaaGreatDoor

namespace Go.Proofs.YtnibpdmbccfgoaaGreatDoor
open Go.RowKit

def lowS (s : ByteArray) : ByteArray := ⟨(s.data.toList.map Lib.lowerB).toArray⟩

/-- What stands at place j when the first k bytes are turned. -/
def mixB (s : ByteArray) (k j : Nat) : UInt8 := if j < k then Lib.lowerB (s.data.toList.getD j 0) else s.data.toList.getD j 0

def MixAt (s : ByteArray) (B k : Nat) (w : World) : Prop :=
  (∀ j, j < s.size → w.cell? ⟨B, j, none⟩ = some (.int .u8 ((mixB s k j).toNat : Int))) ∧ (∀ j, j < s.size → w.frozen? ⟨B, j, none⟩ = false)

theorem mixAt_new (s : ByteArray) (w : World) (c : Nat) : MixAt s w.heap.size 0 ((w.alloc (.cells (bytesRow s c) 5 ((bytesRow s c).size, (bytesRow s c).size + 1))).drew) := by
  have hrow : ∀ j, j < s.size → j < (bytesRow s c).size := by intro j hj; simp [bytesRow]; have : s.data.size = s.size := rfl; omega
  refine ⟨fun j hj => ?_, fun j hj => ?_⟩
  · show (w.alloc _).cell? _ = _
    rw [World.cell?_alloc_mark]
    have h : j < s.data.size := hj
    simp [bytesRow, Array.getElem?_append, hj, mixB]
  · show (w.alloc _).frozen? _ = _
    rw [World.frozen?_alloc_mark]
    have := hrow j hj
    simp; omega

theorem mixB_step (s : ByteArray) (k j : Nat) : mixB s (k + 1) j = if j = k then Lib.lowerB (s.data.toList.getD j 0) else mixB s k j := by
  unfold mixB
  by_cases h : j = k
  · subst h; simp
  · rw [if_neg h]
    by_cases h2 : j < k
    · rw [if_pos h2, if_pos (by omega)]
    · rw [if_neg h2, if_neg (by omega)]

theorem mixAt_skip {s : ByteArray} {B k : Nat} {w : World} (h : MixAt s B k w) (hk : Lib.isUpperB (mixB s k k) = false) : MixAt s B (k + 1) w := by
  refine ⟨fun j hj => ?_, h.2⟩
  rw [h.1 j hj, mixB_step]
  by_cases e : j = k
  · subst e
    rw [if_pos rfl]
    have : mixB s j j = s.data.toList.getD j 0 := by simp [mixB]
    rw [this] at hk ⊢
    rw [Lib.lowerB_of_not _ hk]
  · rw [if_neg e]

theorem mixAt_put {s : ByteArray} {B k : Nat} {w : World} (h : MixAt s B k w) (hlt : k < s.size) (hk : Lib.isUpperB (mixB s k k) = true) :
    MixAt s B (k + 1) (w.setCell ⟨B, k, none⟩ (.int .u8 ((mixB s k k).toNat + 32 : Int))) := by
  refine ⟨fun j hj => ?_, fun j hj => by rw [World.frozen?_setCell]; exact h.2 j hj⟩
  rw [mixB_step]
  by_cases e : j = k
  · subst e
    rw [if_pos rfl, World.cell?_setCell_same _ _ _ (by rw [h.1 j hj])]
    have e2 : mixB s j j = s.data.toList.getD j 0 := by simp [mixB]
    rw [e2] at hk ⊢
    rw [Lib.lowerB_int _ hk]
  · rw [if_neg e, World.cell?_setCell_other _ _ _ _ (by simp)]
    exact h.1 j hj

theorem mixAt_back {P : Program} {src dst e : TypeId} {s : ByteArray} {B k : Nat} {w : World} (h : MixAt s B k w) (hk : s.size ≤ k) (cap : Nat)
    (hs : P.underlying src = some (.slice e)) (he : P.underlying e = some (.int .u8)) (hd : P.underlying dst = some .string) :
    (convert src dst (.slice (some ⟨B, 0, none⟩) s.size cap)).run P w = .ok (.string (lowS s)) w := by
  have hl : (s.data.toList.map Lib.lowerB).length = s.size := by simp
  have := run_convert_bytes_back (P := P) w src dst e ⟨B, 0, none⟩ cap (s.data.toList.map Lib.lowerB) hs he hd (by
    intro j hj
    rw [hl] at hj
    have h3 : s.data[j]? = some s.data[j] := Array.getElem?_eq_getElem hj
    rw [Addr.add_lit, Nat.zero_add]
    rw [h.1 j hj]
    simp [mixB, show j < k by omega]
    rw [h3]; rfl)
  rw [hl] at this
  exact this

set_option maxHeartbeats 400000 in
theorem specLower_any (s : ByteArray) (w : World) (hs : s.size ≤ 2147483647) :
    Calls Tryz.prog 26 #[.string s] w fun e w' => e = .returned (.string (lowS s)) ∧ Below w.heap.size w w' := by
  have hconv := fun w => run_bytes_of_string (P := Tryz.prog) w 9 70 5 s Tryz.underlying9 Tryz.underlying70 Tryz.underlying5
  go_enter Tryz.func26, Tryz.ntmps26
  go_wp2
  go_loopw [4] (fun i wr => ∃ k : Nat, k ≤ s.size ∧ i = .int .i64 k ∧ MixAt s w.heap.size k wr ∧ w.heap.size < wr.heap.size ∧ Below w.heap.size w wr) (fun i _ => s.size - (intOf i).toNat)
  case atStart => exact ⟨0, Nat.zero_le _, rfl, mixAt_new s w _, by simp, ((Below.refl _ _).alloc (Nat.le_refl _) _).drew⟩
  case round =>
    obtain ⟨k, hk, rfl, hmix, hsz, hb⟩ := hrel
    by_cases hlt : k < s.size
    · have hc : wr.cell? ⟨w.heap.size, k, none⟩ = some (.int .u8 ((mixB s k k).toNat : Int)) := hmix.1 k hlt
      have hf : wr.frozen? ⟨w.heap.size, k, none⟩ = false := hmix.2 k hlt
      go_wp2
      all_goals go_roundw
      case rel =>
        refine ⟨k + 1, by omega, by go_num, mixAt_put hmix hlt (by rw [Lib.isUpperB_int]; simp; omega), by simpa using hsz, hb.setCell (Nat.le_refl _) _⟩
      case measure => simp [intOf]; omega
      all_goals first
        | (refine ⟨k + 1, by omega, by go_num, mixAt_skip hmix (by rw [Lib.isUpperB_int]; simp; omega), hsz, hb⟩)
        | (simp [intOf]; omega)
    · have hback := mixAt_back hmix (by omega) (grownCap w s.size 0 5) Tryz.underlying70 Tryz.underlying5 Tryz.underlying9
      go_wp2
      go_ret
      exact ⟨rfl, hb⟩

theorem Tryz.infoU8 : (Tryz.prog.info? 5).map (fun i => (i.zero, i.size, i.bytes)) = some (some (.int .u8 0), 1, 1) := by kernel_rfl
theorem Tryz.sizeU8 : (Tryz.prog.info? 5).map (·.size) = some 1 := by kernel_rfl

/-- The row that 'make' and 'copy' leave: the text's bytes. -/
theorem mixAt_copied (s : ByteArray) (w : World) (k : Nat) (hk : ∀ j, j < k → Lib.isUpperB (s.data.toList.getD j 0) = false) (g : Nat) (cur : Array Value) (hg : w.heap[g]? = some (.cells cur 5 (0, 0))) (hn : cur.size = s.size) :
    MixAt s g k (w.setRow g (cur.toList.take 0 ++ Lib.byteCells s.data.toList ++ cur.toList.drop (0 + s.size)).toArray) := by
  have hrow : (w.setRow g (cur.toList.take 0 ++ Lib.byteCells s.data.toList ++ cur.toList.drop (0 + s.size)).toArray).heap[g]? = some (.cells (Lib.byteCells s.data.toList).toArray 5 (0, 0)) := by
    rw [setRow_heap w g cur _ 5 _ hg]
    congr 2
    have : cur.toList.drop (0 + s.size) = [] := by apply List.drop_eq_nil_of_le; simp; omega
    rw [this]; simp
  refine ⟨fun j hj => ?_, fun j _ => ?_⟩
  · rw [cell_of_row _ g j _ 5 (0, 0) hrow]
    have h3 : s.data[j]? = some s.data[j] := Array.getElem?_eq_getElem hj
    have hm : mixB s k j = s.data.toList.getD j 0 := by
      unfold mixB
      by_cases h : j < k
      · rw [if_pos h, Lib.lowerB_of_not _ (hk j h)]
      · rw [if_neg h]
    rw [hm]
    simp [Lib.byteCells, h3]
  · exact frozen_of_row _ g j _ 5 hrow

theorem getD_byte (s : ByteArray) (k : Nat) (h : k < s.size) : s.data.toList.getD k 0 = s[k] := by
  have h3 : s.data[k]? = some s.data[k] := Array.getElem?_eq_getElem h
  simp [h3]; rfl

theorem lowS_same (s : ByteArray) (h : ∀ j, j < s.size → Lib.isUpperB (s.data.toList.getD j 0) = false) : lowS s = s := by
  have e : s.data.toList.map Lib.lowerB = s.data.toList := by
    apply List.ext_getElem
    · simp
    · intro j h1 h2
      have hj : j < s.size := by simpa using h2
      have := h j hj
      rw [getD_byte s j hj] at this
      rw [List.getElem_map, Lib.lowerB_of_not]
      exact this
  unfold lowS
  rw [e]

def LowRel (s : ByteArray) (B k : Nat) (b : Value) (w : World) : Prop :=
  (b = .slice none 0 0 ∧ ∀ j, j < k → Lib.isUpperB (s.data.toList.getD j 0) = false) ∨
  (∃ g, b = .slice (some ⟨g, 0, none⟩) s.size s.size ∧ B ≤ g ∧ g < w.heap.size ∧ MixAt s g k w)

set_option maxHeartbeats 400000 in
theorem toLower_any (s : ByteArray) (w : World) (hs : s.size ≤ 2147483647) :
    Calls Tryz.prog 51 #[.string s] w fun e w' => e = .returned (.string (lowS s)) ∧ Below w.heap.size w w' := by
  have hmk := run_make_row' (P := Tryz.prog) 70 5 (.int .u8 0) 1 Tryz.underlying70 Tryz.infoU8 rfl .i64 .i64 s.size (by omega) (by omega)
  have heq := fun w a l c => Lib.run_eql_slice_nil (P := Tryz.prog) w 70 5 a l c 0 0 Tryz.underlying70
  go_enter Tryz.func51, Tryz.ntmps51
  go_wp2
  go_loopw [3, 4] (fun b i wr => ∃ k : Nat, k ≤ s.size ∧ i = .int .i64 k ∧ LowRel s w.heap.size k b wr ∧ Below w.heap.size w wr) (fun _ i _ => s.size - (intOf i).toNat)
  case atStart => exact ⟨0, Nat.zero_le _, rfl, .inl ⟨rfl, by simp⟩, Below.refl _ _⟩
  case round =>
    obtain ⟨k, hk, rfl, hr, hb⟩ := hrel
    by_cases hlt : k < s.size
    · have hsk : mixB s k k = s[k] := by unfold mixB; rw [if_neg (by omega)]; exact getD_byte s k hlt
      rcases hr with ⟨rfl, hno⟩ | ⟨g, rfl, hB, hg, hmix⟩
      · by_cases hup : Lib.isUpperB s[k] = true
        · have hcp := Lib.run_copy_row_string (P := Tryz.prog) (wr.alloc (.cells (madeCells #[.int .u8 0] s.size) 5)) 70 9 3 5 wr.heap.size 0 s.size s.size s (madeCells #[.int .u8 0] s.size) 5 Tryz.underlying70 Tryz.sizeU8 (heap_alloc_new wr _) (Nat.le_refl _) (by rw [size_madeCells]; omega)
          have hmix := mixAt_copied s (wr.alloc (.cells (madeCells #[.int .u8 0] s.size) 5)) k hno wr.heap.size _ (heap_alloc_new wr _) (size_madeCells _ _)
          have hb2 : Below w.heap.size w ((wr.alloc (.cells (madeCells #[.int .u8 0] s.size) 5)).setRow wr.heap.size ((madeCells #[.int .u8 0] s.size).toList.take 0 ++ Lib.byteCells s.data.toList ++ (madeCells #[.int .u8 0] s.size).toList.drop (0 + s.size)).toArray) :=
            (hb.alloc hb.size _).trans ⟨rfl, rfl, rfl, by simp, fun j hj => setRow_other _ _ _ _ (by have := hb.size; omega)⟩
          have hsz2 : wr.heap.size < ((wr.alloc (.cells (madeCells #[.int .u8 0] s.size) 5)).setRow wr.heap.size ((madeCells #[.int .u8 0] s.size).toList.take 0 ++ Lib.byteCells s.data.toList ++ (madeCells #[.int .u8 0] s.size).toList.drop (0 + s.size)).toArray).heap.size := by simp
          generalize (wr.alloc (.cells (madeCells #[.int .u8 0] s.size) 5)).setRow wr.heap.size ((madeCells #[.int .u8 0] s.size).toList.take 0 ++ Lib.byteCells s.data.toList ++ (madeCells #[.int .u8 0] s.size).toList.drop (0 + s.size)).toArray = w2 at hcp hmix hb2 hsz2
          have hc := hmix.1 k hlt
          have hf := hmix.2 k hlt
          rw [hsk] at hc
          have h1 : (65 : Int) ≤ (s[k].toNat : Int) := by rw [Lib.isUpperB_int] at hup; simp at hup; omega
          have h2 : (s[k].toNat : Int) ≤ 90 := by rw [Lib.isUpperB_int] at hup; simp at hup; omega
          go_wp2
          go_roundw
          case rel => exact ⟨k + 1, by omega, by go_num, .inr ⟨wr.heap.size, rfl, hb.size, by simpa using hsz2, hsk ▸ mixAt_put hmix hlt (by rw [hsk]; exact hup)⟩, hb2.setCell hb.size _⟩
          case measure => simp [intOf]; omega
        · have hno2 : ∀ j, j < k + 1 → Lib.isUpperB (s.data.toList.getD j 0) = false := by
            intro j hj
            by_cases e : j = k
            · subst e; rw [getD_byte s j hlt]; simpa using hup
            · exact hno j (by omega)
          rw [Lib.isUpperB_int] at hup
          simp at hup
          go_wp2
          all_goals first | omega | skip
          all_goals go_roundw
          all_goals first
            | exact ⟨k + 1, by omega, by go_num, .inl ⟨rfl, hno2⟩, hb⟩
            | (simp [intOf]; omega)
      · have hc := hmix.1 k hlt
        have hf := hmix.2 k hlt
        rw [hsk] at hc
        go_wp2
        all_goals go_roundw
        all_goals first
          | exact ⟨k + 1, by omega, by go_num, .inr ⟨g, rfl, hB, by simpa using hg, hsk ▸ mixAt_put hmix hlt (by rw [hsk, Lib.isUpperB_int]; simp; omega)⟩, hb.setCell hB _⟩
          | exact ⟨k + 1, by omega, by go_num, .inr ⟨g, rfl, hB, hg, mixAt_skip hmix (by rw [hsk, Lib.isUpperB_int]; simp; omega)⟩, hb⟩
          | (simp [intOf]; omega)
    · rcases hr with ⟨rfl, hno⟩ | ⟨g, rfl, hB, hg, hmix⟩
      · go_wp2
        go_ret
        exact ⟨by rw [lowS_same s (fun j hj => hno j (by omega))]; rfl, hb⟩
      · have hback := mixAt_back hmix (by omega) s.size Tryz.underlying70 Tryz.underlying5 Tryz.underlying9
        go_wp2
        go_ret
        exact ⟨rfl, hb⟩
end Go.Proofs.YtnibpdmbccfgoaaGreatDoor
