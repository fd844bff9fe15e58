/- FnSpecificWhole: texts joined (joinf.py) -/
import Derived.Test.YtnibpdmbccfgoaaGreatDoorJ13
import Derived.Defers
import Derived.Laws.OwnMore
namespace Go.Proofs.YtnibpdmbccfgoaaGreatDoor
open Go.RowKit
set_option linter.unusedVariables false

/-- What stands behind a selector of a group. -/
inductive GrpR (s : ByteArray) (g : Nat) (D P : Value) (e : Nat) : Nat → List S3 → Prop
  | done : e ≤ s.size → (e < s.size → bAt s e ≠ 44) → GrpR s g D P e e []
  | more {m m2 : Nat} {x : S3} {l : List S3} : m < s.size → bAt s m = 44 → SelTo s g D P (m + 1) m2 x → m < m2 → m2 ≤ s.size → GrpR s g D P e m2 l → GrpR s g D P e m (x :: l)
/-- A group from k up to e. -/
def GrpTo (s : ByteArray) (g : Nat) (D P : Value) (e k : Nat) (sps : List S3) : Prop := ∃ m x l, SelTo s g D P k m x ∧ k < m ∧ m ≤ s.size ∧ GrpR s g D P e m l ∧ sps = x :: l
theorem GrpTo.one {s : ByteArray} {g : Nat} {D P : Value} {e k : Nat} {x : S3} (h : SelTo s g D P k e x) (hk : k < e) (he : e ≤ s.size) (hn : e < s.size → bAt s e ≠ 44) : GrpTo s g D P e k [x] :=
  ⟨e, x, [], h, hk, he, .done he hn, rfl⟩
theorem GrpTo.cons {s : ByteArray} {g : Nat} {D P : Value} {e k m : Nat} {x : S3} {l : List S3} (h : SelTo s g D P k m x) (hm : m < s.size) (h44 : bAt s m = 44) (hk : k < m) (hr : GrpTo s g D P e (m + 1) l) : GrpTo s g D P e k (x :: l) := by
  obtain ⟨m2, y, l', h1, h2, h3, h4, rfl⟩ := hr
  exact ⟨m, x, _, h, hk, by omega, .more hm h44 h1 (by omega) h3 h4, rfl⟩

theorem PrX.setD {s : ByteArray} {g i : Nat} {D P : Value} {B : Nat} {W w : World} (h : PrX s g i D P B W w) (D' : Value) : PrX s g i D' P B W (w.setCell ⟨g, 2, none⟩ D') :=
  ⟨Lib.heap_setCell_same (i := 2) h.blk _, h.os, h.tape, h.output, by simpa [World.setCell] using h.size,
    fun b h1 h2 => by rw [Below.heap_setCell _ _ _ _ (fun q => h2 q)]; exact h.oth b h1 h2, by simpa [World.setCell] using h.base⟩
theorem PrX.c2 {s : ByteArray} {g i : Nat} {D P : Value} {B : Nat} {W w : World} (h : PrX s g i D P B W w) : w.cell? ⟨g, 2, none⟩ = some D := by rw [cell_of_row w g 2 _ _ _ h.blk]; rfl
/-- The deferred closure takes the depth back. -/
theorem back_any (s : ByteArray) (H g i d : Nat) (P : Value) (B : Nat) (W w : World) (u : FrameMode) (hbox : w.cell? ⟨H, 0, none⟩ = some (.pointer (some ⟨g, 0, none⟩))) (h : PrX s g i (.int .i64 ((d : Int) + 1)) P B W w) (hd : d ≤ 1000) :
    CallsD Tryz.prog 64 #[.pointer (some ⟨H, 0, none⟩)] u w fun e u' w' => u' = u ∧ (e = .returned (.tuple #[]) ∧ w' = w.setCell ⟨g, 2, none⟩ (.int .i64 (d : Int))) := by
  have c2 := h.c2
  have f2 := h.fz 2
  clear h
  go_enter_d Tryz.func64, Tryz.ntmps64
  go_wp2_with fail
  go_end0
  exact ⟨rfl, rfl⟩

/-- The parameter's own cell. -/
def BoxG (g H : Nat) (w : World) : Prop := w.heap[H]? = some (.cells #[.pointer (some ⟨g, 0, none⟩)] 49 (0, 0))
theorem BoxG.cell {g H : Nat} {w : World} (h : BoxG g H w) : w.cell? ⟨H, 0, none⟩ = some (.pointer (some ⟨g, 0, none⟩)) := by rw [cell_of_row w H 0 _ _ _ h]; rfl
theorem BoxG.lt {g H : Nat} {w : World} (h : BoxG g H w) : H < w.heap.size := (Array.getElem?_eq_some_iff.1 h).1
theorem BoxG.set {g H b i : Nat} {w : World} (h : BoxG g H w) (hb : ¬ b = H) (v : Value) : BoxG g H (w.setCell ⟨b, i, none⟩ v) := by
  unfold BoxG
  rw [Below.heap_setCell _ _ _ _ (fun q => hb q.symm)]
  exact h
theorem BoxG.below {g H : Nat} {w U : World} (h : BoxG g H w) (hb : Below w.heap.size w U) : BoxG g H U := (hb.block H h.lt).trans h

/-- The group's row, behind the deferred closure. -/
theorem grp_row {g : Nat} {N : Nat} {w : World} {vs : List Value} {sps : List S3} {p : Option Addr} {cp : Nat} (hG : Grow N (.slice p vs.length cp) vs sps w) (hgN : g < N) (v : Value) : RowS N (w.setCell ⟨g, 2, none⟩ v).heap.size vs sps p (w.setCell ⟨g, 2, none⟩ v) :=
  (hG.keep (by simp [World.setCell]) (fun b h1 h2 => Below.heap_setCell _ _ _ _ (fun q => by have q : b = g := q; omega))).row

set_option maxRecDepth 100000 in
set_option maxHeartbeats 8000000 in
theorem pGrp_to (s : ByteArray) (g k e : Nat) (sps : List S3) (d : Nat) (P : Value) (hs : s.size ≤ 100000) (hk : k ≤ s.size) (hd : d ≤ 1000) (hq : GrpTo s g (.int .i64 ((d + 1 : Nat) : Int)) P e k sps) : GrpY s g k e sps (.int .i64 (d : Int)) P := by
  intro N V U hgN hP
  obtain ⟨m, x, l, hsel, hkm, hms, hgr, rfl⟩ := hq
  have HP := Lib.hid hP
  have hbase := hP.base
  have hgU : g < U.heap.size := Nat.lt_of_lt_of_le hgN hbase
  have HSel : Hid (∀ (N : Nat) (V U : World), g < N → PrX s g k (.int .i64 ((d + 1 : Nat) : Int)) P N V U → Calls Tryz.prog 20 #[.pointer (some ⟨g, 0, none⟩)] U (SqY x s m g (.int .i64 ((d + 1 : Nat) : Int)) P N V)) := fun N V U hg hU => pSel_to s g k m x (.int .i64 ((d + 1 : Nat) : Int)) P N V U hs hk hsel hg hU
  have HGr := Lib.hid hgr
  have hmf : ∀ (fn : Fn) (first cap : Array Value) (w : World), (Instr.makeFunc fn first cap).run Tryz.prog w = .ok (.func fn first cap) w := fun _ _ _ _ => rfl
  clear hsel hgr hP
  go_enter_defers Tryz.func55, Tryz.ntmps55
  go_upto_region 1 with fail
  obtain ⟨H, hH⟩ : ∃ H, H = U.heap.size := ⟨_, rfl⟩
  refine wp_gen (R := fun U1 => PrX s g k (.int .i64 (d : Int)) P N V U1 ∧ BoxG g H U1) ⟨HP.out.next ((Below.refl _ _).alloc (Nat.le_refl _) _), by rw [hH]; exact heap_alloc_new U _⟩ ?_
  rintro U1 ⟨hU1, hB1⟩
  have hHg : ¬ H = g := by omega
  have hgH : ¬ g = H := fun q => hHg q.symm
  have HH : Hid (N ≤ H) := by rw [hH]; exact hbase
  rw [← hH]
  clear hH HP hbase hgU
  have b0 := hB1.cell
  have c2 := hU1.c2
  have f2 := hU1.fz 2
  have HU1 := Lib.hid hU1
  have HB1 := Lib.hid hB1
  clear hU1 hB1
  have g1 : decide ((d : Int) > 1000) = false := decide_eq_false (by omega)
  go_wp2_with fail
  refine calls_gen (R := fun U2 => PrX s g k (.int .i64 ((d + 1 : Nat) : Int)) P N V U2 ∧ BoxG g H U2) ⟨?_, ?_⟩ ?_
  · exact HU1.out.setD _
  · exact HB1.out.set hgH _
  rintro U2 ⟨hU2, hB2⟩
  refine (HSel.out U2.heap.size U2 U2 (Nat.lt_of_lt_of_le hgN hU2.base) (PrX.of hU2.blk)).mono ?_
  rintro e1 w1 ⟨v, rfl, hr1, hD1⟩
  obtain ⟨T0, f0, rfl⟩ : ∃ T0 f0, v = .iface T0 f0 := by
    obtain ⟨_, T1, f1, _, _, e1, _⟩ := hD1
    exact ⟨T1, f1, e1⟩
  have HP1 : Hid (PrX s g m (.int .i64 ((d + 1 : Nat) : Int)) P N V w1) := hr1.comp hU2 hU2.base
  have HB3 : Hid (BoxG g H w1) := (hr1.oth H hB2.lt hHg).trans hB2
  have HD1 := Lib.hid hD1
  have HN2 : Hid (N ≤ U2.heap.size) := hU2.base
  have HN1 : Hid (N ≤ w1.heap.size) := Nat.le_trans hU2.base hr1.size
  clear hr1 hD1 hU2 hB2 b0 c2 f2 HU1 HB1 HSel g1
  go_wp2_with fail
  have HP2 : Hid (PrX s g m (.int .i64 ((d + 1 : Nat) : Int)) P N V (w1.alloc (.cells #[.iface T0 f0] 36))) := HP1.out.next ((Below.refl _ _).alloc (Nat.le_refl _) _)
  have HB4 : Hid (BoxG g H (w1.alloc (.cells #[.iface T0 f0] 36))) := HB3.out.below ((Below.refl _ _).alloc (Nat.le_refl _) _)
  have HG0 : Hid (Grow N (.slice (some ⟨w1.heap.size, 0, none⟩) 1 1) [.iface T0 f0] [x] (w1.alloc (.cells #[.iface T0 f0] 36))) :=
    ⟨World.ownsRow_lit w1 #[.iface T0 f0] 1 HN1.out (by unfold maxLen; omega) rfl, rfl, fun i h1 h2 => by
      have hi0 : i = 0 := by simp at h1; omega
      subst hi0
      exact ⟨_, _, HN2.out, HD1.out.next (Kp.of ((Below.refl _ _).alloc (Nat.le_refl _) _) (Nat.le_refl _)), fun b hb => by cases hb; exact .inr (Nat.le_refl _)⟩⟩
  have HO0 : Hid (∀ b, (Value.slice (some ⟨w1.heap.size, 0, none⟩) 1 1).ownBlock = some b → H < b) := fun b hb => by cases hb; exact HB3.out.lt
  clear HP1 HB3 HD1
  go_loopg [6] (s.size - m) (fun gk v6 wr => ∃ (sv : Value) (vs : List Value) (ds r : List S3) (m : Nat), sv = v6 ∧ gk = s.size - m ∧ Hid (PrX s g m (.int .i64 ((d + 1 : Nat) : Int)) P N V wr) ∧ Hid (BoxG g H wr) ∧ Hid (Grow N sv vs ds wr) ∧ Hid (∀ b, sv.ownBlock = some b → H < b) ∧ Hid (GrpR s g (.int .i64 ((d + 1 : Nat) : Int)) P e m r) ∧ Hid (x :: l = ds ++ r) ∧ vs.length ≤ m ∧ m ≤ s.size)
  case atStart => exact ⟨_, _, _, l, m, rfl, rfl, HP2.out, HB4.out, HG0.out, HO0.out, HGr.out, rfl, by simp; omega, hms⟩
  case round =>
    obtain ⟨sv, vs, ds, r, m, rfl, rfl, HP, HB, HG, HO, HR, HE, hvm, hms⟩ := hrel
    have c0 := HP.out.c0
    have c1 := HP.out.c1
    have f1 := HP.out.fz 1
    have b0 := HB.out.cell
    have hsP := HP.out.base
    rcases HR.out with ⟨hle, hstop⟩ | @⟨_, m2, y, r, hlt, h44, hsel, hmm, hm2, hrest⟩
    · have HD : Hid (ds = x :: l) := by have := HE.out; rw [List.append_nil] at this; exact this.symm
      obtain ⟨p, cp, rfl⟩ : ∃ p cp, sv = .slice p vs.length cp := by
        rcases HG.out.own.2 with ⟨e1, e2⟩ | ⟨g1, cap, cur, e1, _⟩
        · exact ⟨none, 0, by rw [e1, e2]⟩
        · exact ⟨_, _, e1⟩
      by_cases hlt : e < s.size
      · have hb := bAt_in hlt
        have hno := hstop hlt
        rw [hb] at hno
        have m44 : ((s[e].toNat : Int) != 44) = true := by simp; omega
        clear hb hno hstop
        go_wp2_with fail
        go_quiet (fail)
        go_wp2_with fail
        go_quiet (fail)
        go_wp2_with fail
        refine leaves_cons (f := 64) (args := #[.pointer (some ⟨H, 0, none⟩)]) (by simp) (by simp [go_sem]) ?_
        refine (back_any s H g e d P N V _ .returning ?_ ?_ hd).mono ?_
        · exact (HB.out.below (by repeat (first | exact Below.refl _ _ | refine below_drewN ?_ _))).cell
        · exact (show PrX s g e (.int .i64 ((d + 1 : Nat) : Int)) P N V _ by repeat (first | exact HP.out | refine PrX.drew ?_ _))
        rintro e1 u' w'' ⟨rfl, rfl, rfl⟩
        exact ⟨_, results_tmp2 rfl _ _ _, vs, p, cp, rfl, PrX.setD (D := .int .i64 ((d + 1 : Nat) : Int)) (by repeat (first | exact HP.out | refine PrX.drew ?_ _)) _, by rw [← HD.out]; exact grp_row (HG.out.below (by repeat (first | exact Below.refl _ _ | refine below_drewN ?_ _))) hgN _, by omega⟩
      · clear hstop
        go_wp2_with fail
        go_quiet (fail)
        go_wp2_with fail
        refine leaves_cons (f := 64) (args := #[.pointer (some ⟨H, 0, none⟩)]) (by simp) (by simp [go_sem]) ?_
        refine (back_any s H g e d P N V _ .returning ?_ ?_ hd).mono ?_
        · exact (HB.out.below (by repeat (first | exact Below.refl _ _ | refine below_drewN ?_ _))).cell
        · exact (show PrX s g e (.int .i64 ((d + 1 : Nat) : Int)) P N V _ by repeat (first | exact HP.out | refine PrX.drew ?_ _))
        rintro e1 u' w'' ⟨rfl, rfl, rfl⟩
        exact ⟨_, results_tmp2 rfl _ _ _, vs, p, cp, rfl, PrX.setD (D := .int .i64 ((d + 1 : Nat) : Int)) (by repeat (first | exact HP.out | refine PrX.drew ?_ _)) _, by rw [← HD.out]; exact grp_row (HG.out.below (by repeat (first | exact Below.refl _ _ | refine below_drewN ?_ _))) hgN _, by omega⟩
    · have hb := bAt_in hlt
      rw [hb] at h44
      have m44 : ((s[m].toNat : Int) != 44) = false := by simp; omega
      have HSel2 : Hid (∀ (N : Nat) (V U : World), g < N → PrX s g (m + 1) (.int .i64 ((d + 1 : Nat) : Int)) P N V U → Calls Tryz.prog 20 #[.pointer (some ⟨g, 0, none⟩)] U (SqY y s m2 g (.int .i64 ((d + 1 : Nat) : Int)) P N V)) := fun N V U hg hU => pSel_to s g (m + 1) m2 y (.int .i64 ((d + 1 : Nat) : Int)) P N V U hs hlt hsel hg hU
      have HS : Hid (∀ U x, x = ((m + 1 : Nat) : Int) → PrX s g m (.int .i64 ((d + 1 : Nat) : Int)) P N V U → PrX s g (m + 1) (.int .i64 ((d + 1 : Nat) : Int)) P N V (U.setCell ⟨g, 1, none⟩ (.int .i64 x))) := fun U x hx h => h.setI _ _ hx
      have HRest := Lib.hid hrest
      clear hb h44 hsel hrest HR
      go_wp2_with fail
      go_quiet (fail)
      go_wp2_with fail
      go_quiet (fail)
      go_wp2_with fail
      refine calls_gen (R := fun U3 => PrX s g (m + 1) (.int .i64 ((d + 1 : Nat) : Int)) P N V U3 ∧ BoxG g H U3 ∧ Grow N sv vs ds U3) ⟨HS.out _ _ (by omega) (by repeat (first | exact HP.out | refine PrX.drew ?_ _)), ?_, ?_⟩ ?_
      · exact (HB.out.below (by repeat (first | exact Below.refl _ _ | refine below_drewN ?_ _))).set hgH _
      · exact (HG.out.below (by repeat (first | exact Below.refl _ _ | refine below_drewN ?_ _))).keep (by simp [World.setCell]) (fun b h1 h2 => Below.heap_setCell _ _ _ _ (fun q => by have q : b = g := q; omega))
      rintro U3 ⟨hU3, hB3, hG3⟩
      refine (HSel2.out U3.heap.size U3 U3 (Nat.lt_of_lt_of_le hgN hU3.base) (PrX.of hU3.blk)).mono ?_
      rintro e2 w2 ⟨v, rfl, hr2, htv, T, f, K, r0, rfl, hm', hc', hh'⟩
      have HG2 := Lib.hid (hG3.move hr2 hgN)
      have HP3 := Lib.hid (hr2.comp hU3 hU3.base)
      have HB5 : Hid (BoxG g H w2) := (hr2.oth H hB3.lt hHg).trans hB3
      have hb2 := HP3.out.base
      have HU3 : Hid (N ≤ U3.heap.size) := hU3.base
      have HDv : Hid (Disp U3.heap.size w2.heap.size (.iface T f) y w2) := ⟨htv, T, f, K, r0, rfl, hm', hc', hh'⟩
      have HUo : Hid (∀ b, sv.ownBlock = some b → b < U3.heap.size) := fun b hb => (hG3.own.lt b hb).2
      clear hm' hc' hh' hG3 htv hr2 hU3 hB3 c0 c1 f1 b0 HP HB HG
      obtain ⟨i0, hinf, hz0, hz1, hz2⟩ := info_parts Tryz.infoSel
      go_wp2_with (at_builtin; go_must (refine wpList_append_own_at _ rfl _ _ 98 rfl N 36 i0 .nilIface 1 16 Tryz.underlying98 hinf hz0 hz1 hz2 rfl (by decide) _ _ _ rfl (HG2.out.own.alloc _) ⟨w2.heap.size, 0, none⟩ 1 1 [.iface T f] rfl rfl (cell_one_new _ _ _) (by intro u hu; simp at hu; subst hu; rfl) (by unfold maxLen; omega) (by omega) (by simp; omega) ?_))
      intro v' w4 hown' hgrow _ hat
      have HG4 : Hid (Grow N v' (vs ++ [.iface T f]) (ds ++ [y]) w4) := Grow.push (HG2.out.below ((Below.refl _ _).alloc (Nat.le_refl _) _)) HU3.out (HDv.out.next (Kp.of ((Below.refl _ _).alloc (Nat.le_refl _) _) (Nat.le_refl _))) (fun b hb => .inl (HUo.out b hb)) hown' hgrow (by simpa using hat)
      have HP4 : Hid (PrX s g m2 (.int .i64 ((d + 1 : Nat) : Int)) P N V w4) := (HP3.out.next ((Below.refl _ _).alloc (Nat.le_refl _) _)).grown hgrow (fun b hb => (HG2.out.own.lt b hb).1) hgN
      have HB7 : Hid (BoxG g H w4) := (hgrow.block H (by have := HB5.out.lt; simp; omega) (fun q => by have := HO.out H q.symm; omega)).trans (HB5.out.below ((Below.refl _ _).alloc (Nat.le_refl _) _))
      have HO4 : Hid (∀ b, v'.ownBlock = some b → H < b) := fun b hb => by
        rcases hat with q | q
        · exact HO.out b (q ▸ hb)
        · rw [q] at hb
          have := HB5.out.lt
          simp at hb
          omega
      clear hown' hgrow hat
      go_wp2_with fail
      go_roundg (s.size - m2)
      case measure => omega
      case rel => exact ⟨_, _, _, _, m2, rfl, rfl, HP4.out, HB7.out, HG4.out, HO4.out, HRest.out, by rw [Hid, HE.out, List.append_assoc]; rfl, by simp; omega, hm2⟩
end Go.Proofs.YtnibpdmbccfgoaaGreatDoor

namespace Go.Proofs.YtnibpdmbccfgoaaGreatDoor
open Go.RowKit
set_option linter.unusedVariables false

/-! Sums. -/
def wt (x : S3) : Nat := x.1 + x.2.1 + x.2.2
theorem wt_add (x y : S3) : wt (S3.add x y) = wt x + wt y := by
  show (x.1 + y.1) + (x.2.1 + y.2.1) + (x.2.2 + y.2.2) = (x.1 + x.2.1 + x.2.2) + (y.1 + y.2.1 + y.2.2); omega
theorem wt_max (x y : S3) : wt (S3.max x y) ≤ wt x + wt y := by unfold S3.max; split <;> omega
theorem wt_lim {x : S3} (h : wt x ≤ 100000) : x.lim := by
  have h : x.1 + x.2.1 + x.2.2 ≤ 100000 := h
  exact ⟨by omega, by omega, by omega⟩
theorem add_zero3 (x : S3) : S3.add x (0, 0, 0) = x := rfl
theorem zero_add3 (x : S3) : S3.add (0, 0, 0) x = x := by
  obtain ⟨a, b, c⟩ := x
  show (0 + a, 0 + b, 0 + c) = _
  rw [Nat.zero_add, Nat.zero_add, Nat.zero_add]
theorem max_zero3 (x : S3) : S3.max (0, 0, 0) x = x := by
  obtain ⟨a, b, c⟩ := x
  unfold S3.max
  split
  · rfl
  · rename_i hl
    unfold S3.less at hl
    rw [decide_eq_true_eq] at hl
    have hl : ¬ (0 < a ∨ (0 = a ∧ (0 < b ∨ (0 = b ∧ 0 < c)))) := hl
    obtain rfl : a = 0 := by omega
    obtain rfl : b = 0 := by omega
    obtain rfl : c = 0 := by omega
    rfl
theorem sumS_all (l : List S3) : sumS l l.length = l.foldl S3.add (0, 0, 0) := by unfold sumS; rw [List.take_length]
theorem maxS_all (l : List S3) : maxS l l.length = l.foldl S3.max (0, 0, 0) := by unfold maxS; rw [List.take_length]
theorem foldl_add_wt : ∀ (l : List S3) (a : S3), wt (l.foldl S3.add a) = wt a + (l.map wt).sum
  | [], a => by simp
  | x :: l, a => by
    rw [List.foldl_cons, foldl_add_wt l, wt_add, List.map_cons, List.sum_cons, Nat.add_assoc]
theorem foldl_max_wt : ∀ (l : List S3) (a : S3), wt (l.foldl S3.max a) ≤ wt a + (l.map wt).sum
  | [], a => by simp
  | x :: l, a => by
    rw [List.foldl_cons, List.map_cons, List.sum_cons]
    have := foldl_max_wt l (S3.max a x)
    have := wt_max a x
    omega
theorem simS_wt (k : Int) : wt (simS k) ≤ 1 := by
  unfold simS; split
  · decide
  · split
    · decide
    · split <;> decide
theorem spOf_wt (x : Sn) (l : List S3) : wt (spOf x l) ≤ (l.map wt).sum + 1 := by
  unfold spOf
  split
  · have := foldl_max_wt l (0, 0, 0)
    have e : wt (0, 0, 0) = 0 := rfl
    omega
  · split
    · have := foldl_add_wt l (0, 0, 0)
      have e : wt (0, 0, 0) = 0 := rfl
      omega
    · have := simS_wt x.kind
      omega
mutual
theorem ST.sp_wt : ∀ t : ST, wt t.sp ≤ t.flat.length
  | .nd x ks => by
    show wt (spOf x ks.sps) ≤ (x :: ks.flat).length
    have h1 := spOf_wt x ks.sps
    have h2 := SK.sps_wt ks
    rw [List.length_cons]; omega
theorem SK.sps_wt : ∀ ks : SK, (ks.sps.map wt).sum ≤ ks.flat.length
  | .nil => Nat.le_refl _
  | .cons t ks => by
    show ((t.sp :: ks.sps).map wt).sum ≤ (t.flat ++ ks.flat).length
    rw [List.map_cons, List.sum_cons, List.length_append]
    have := ST.sp_wt t
    have := SK.sps_wt ks
    omega
end
theorem ST.sp_lim {t : ST} (h : t.flat.length ≤ 1000) : t.sp.lim := wt_lim (by have := t.sp_wt; omega)
theorem SK.flat_le : ∀ {ks : SK} {u : ST}, u ∈ ks.list → u.flat.length ≤ ks.flat.length
  | .nil, u, h => by cases h
  | .cons t ks, u, h => by
    show _ ≤ (t.flat ++ ks.flat).length
    rw [List.length_append]
    rcases List.mem_cons.1 h with rfl | q
    · omega
    · have := SK.flat_le q; omega
theorem ST.kid_lt {t u : ST} (h : u ∈ t.kids.list) : u.flat.length < t.flat.length := by
  rw [t.flat_cons, List.length_cons]
  have := SK.flat_le h
  omega

/-! What each reads as. -/
def Fl (s : ByteArray) (e : Nat) : Prop := e ≤ s.size ∧ (e < s.size → bAt s e = 32 ∨ bAt s e = 44 ∨ bAt s e = 41)
theorem Fl.stop {s : ByteArray} {e : Nat} (h : Fl s e) : NmStop s e := ⟨h.1, fun q => by rcases h.2 q with c | c | c <;> rw [c] <;> decide⟩
theorem Fl.mk {s : ByteArray} {e : Nat} (h : Fl s e) (q : e < s.size) : ¬ isMk (bAt s e) := by
  intro c; unfold isMk at c; rcases h.2 q with r | r | r <;> omega
def SimR (t : ST) : Prop := ∀ (s : ByteArray) (g d : Nat) (P : Value) (k : Nat), s.size ≤ 100000 → d + t.flat.length ≤ 1000 → Txt s k t.wr → NmStop s (k + t.wr.length) → Sim1 s g (.int .i64 (d : Int)) P k (k + t.wr.length) t.sp
def SeqR (t : ST) : Prop := ∀ (s : ByteArray) (g d : Nat) (P : Value) (k : Nat), s.size ≤ 100000 → d + t.flat.length ≤ 1000 → Txt s k t.wr → Fl s (k + t.wr.length) → ∃ ds, SeqTo s g (.int .i64 (d : Int)) P k (k + t.wr.length) ds ∧ sumS ds ds.length = t.sp
def CpxR (t : ST) : Prop := ∀ (s : ByteArray) (g d : Nat) (P : Value) (k k0 e : Nat) (y : S3), s.size ≤ 100000 → d + t.flat.length ≤ 1000 → Txt s k t.wr → Fl s (k + t.wr.length) → Sk s k0 k → TailTo s g (.int .i64 (d : Int)) P e y (k + t.wr.length) t.sp → SelTo s g (.int .i64 (d : Int)) P k0 e y
def mkB (a : UInt8) : Prop := isMk a.toNat
/-- What a selector begins with. -/
def fstB (a : UInt8) : Prop := 33 ≤ a.toNat ∧ a.toNat ≠ 47 ∧ a.toNat ≠ 43 ∧ a.toNat ≠ 62 ∧ a.toNat ≠ 126 ∧ a.toNat ≠ 44 ∧ a.toNat ≠ 41
theorem mk_fst {a : UInt8} (h : mkB a) : fstB a := by unfold mkB isMk at h; unfold fstB; omega
theorem ST.wr_simple {t : ST} (h0 : NOk t) (h1 : 1 ≤ t.top.kind) (h2 : t.top.kind ≤ 17) : t.wr = simL t.top ∧ t.sp = simS t.top.kind := by
  rw [t.wr_eq, t.sp_eq]
  unfold wrOf spOf
  rw [if_neg (by omega), if_neg (by omega), if_neg (by omega), if_neg (by omega), if_neg (by omega), if_neg (by omega)]
  exact ⟨rfl, rfl⟩
theorem ST.wr_rel {t u : ST} (h1 : 18 ≤ t.top.kind) (h2 : t.top.kind ≤ 20) (hu : t.kids.list = [u]) : t.wr = 58 :: (wdRel t.top.kind ++ (40 :: (u.wr ++ [41]))) ∧ t.sp = u.sp := by
  rw [t.wr_eq, t.sp_eq, hu]
  unfold wrOf spOf
  rw [if_neg (by omega), if_neg (by omega), if_neg (by omega), if_pos (by omega), if_pos (by omega)]
  refine ⟨rfl, ?_⟩
  show S3.max (0, 0, 0) u.sp = u.sp
  exact max_zero3 _
theorem ST.wr_comb {t u v : ST} (h1 : t.top.kind = 22) (hu : t.kids.list = [u, v]) : t.wr = u.wr ++ (sepL t.top.op ++ v.wr) ∧ t.sp = S3.add u.sp v.sp := by
  rw [t.wr_eq, t.sp_eq, hu]
  unfold wrOf spOf
  rw [if_neg (by omega), if_pos h1, if_neg (by omega), if_pos (.inl h1)]
  refine ⟨rfl, ?_⟩
  show S3.add (S3.add (0, 0, 0) u.sp) v.sp = _
  rw [zero_add3]
theorem ST.wr_grp {t : ST} (h1 : t.top.kind = 23) : t.wr = joinL (t.kids.list.map ST.wr) ∧ t.sp = (t.kids.list.map ST.sp).foldl S3.max (0, 0, 0) := by
  rw [t.wr_eq, t.sp_eq]
  unfold wrOf spOf
  rw [if_pos h1, if_pos (.inl h1), List.map_map]
  exact ⟨rfl, rfl⟩
theorem ST.wr_cmp {t : ST} (h1 : t.top.kind = 21) : t.wr = cmpL (t.kids.list.map (fun u => (u.top.kind, u.wr))) ∧ t.sp = (t.kids.list.map ST.sp).foldl S3.add (0, 0, 0) := by
  rw [t.wr_eq, t.sp_eq]
  unfold wrOf spOf
  rw [if_neg (by omega), if_neg (by omega), if_pos h1, if_neg (by omega), if_pos (.inr h1)]
  exact ⟨rfl, rfl⟩
/-- The first byte of a simple selector with a mark. -/
theorem sim_first {t : ST} (h0 : NOk t) (h1 : 3 ≤ t.top.kind) (h2 : t.top.kind ≤ 20) : ∃ a L, t.wr = a :: L ∧ mkB a := by
  by_cases c : t.top.kind ≤ 17
  · rw [(ST.wr_simple h0 (by omega) c).1]
    unfold simL
    rw [if_neg (by omega), if_neg (by omega)]
    by_cases c3 : t.top.kind = 3
    · rw [if_pos c3]; exact ⟨_, _, rfl, .inr (.inl rfl)⟩
    rw [if_neg c3]
    by_cases c4 : t.top.kind = 4
    · rw [if_pos c4]; exact ⟨_, _, rfl, .inl rfl⟩
    rw [if_neg c4]
    by_cases c5 : t.top.kind = 5
    · rw [if_pos c5]; unfold attL
      split
      · exact ⟨_, _, rfl, .inr (.inr (.inl rfl))⟩
      · exact ⟨_, _, rfl, .inr (.inr (.inl rfl))⟩
    rw [if_neg c5]
    have hm : mkB 58 := .inr (.inr (.inr rfl))
    split
    · exact ⟨_, _, rfl, hm⟩
    · split
      · exact ⟨_, _, rfl, hm⟩
      · split
        · exact ⟨_, _, rfl, hm⟩
        · split
          · exact ⟨_, _, rfl, hm⟩
          · split
            · exact ⟨_, _, rfl, hm⟩
            · exact ⟨_, _, rfl, hm⟩
  · rcases h0.2.1 with ⟨q, _⟩ | ⟨_, _, u, hu, _⟩ | ⟨q, _⟩ | ⟨q, _⟩ | ⟨_, q, _⟩
    · omega
    · rw [(ST.wr_rel (by omega) h2 hu).1]; exact ⟨_, _, rfl, .inr (.inr (.inr rfl))⟩
    · omega
    · omega
    · omega
/-- Simple selectors one behind the other. -/
theorem sims_read {s : ByteArray} {g : Nat} {D P : Value} (e : Nat) (hfl : Fl s e) : ∀ (l : List ST) (k : Nat), (∀ u ∈ l, NOk u ∧ 3 ≤ u.top.kind ∧ u.top.kind ≤ 20 ∧ ∀ k, Txt s k u.wr → NmStop s (k + u.wr.length) → Sim1 s g D P k (k + u.wr.length) u.sp) →
    Txt s k (l.flatMap ST.wr) → k + (l.flatMap ST.wr).length = e → Sims s g D P e k (l.map ST.sp) ∧ (k = e ∨ (k < s.size ∧ isMk (bAt s k)))
  | [], k, _, h, he => by
    have he : k = e := he
    subst he
    exact ⟨.nil hfl.1 (hfl.mk), .inl rfl⟩
  | u :: l, k, hl, h, he => by
    rw [List.flatMap_cons] at h he
    obtain ⟨h1, h2⟩ := h.app
    obtain ⟨q1, q2, q3, q4⟩ := hl u (List.mem_cons_self ..)
    obtain ⟨ih, hn⟩ := sims_read e hfl l _ (fun v hv => hl v (List.mem_cons_of_mem _ hv)) h2 (by rw [← he, List.length_append]; omega)
    obtain ⟨a, L, hw, hm⟩ := sim_first q1 q2 q3
    have hlen : 0 < u.wr.length := by rw [hw]; simp
    have hfst : k < s.size ∧ bAt s k = a.toNat := by
      have h1' := h1
      rw [hw] at h1'
      exact ⟨h1'.cons.1, h1'.cons.2.1⟩
    have hstop : NmStop s (k + u.wr.length) := by
      rcases hn with r | ⟨r, r2⟩
      · rw [r]; exact hfl.stop
      · exact ⟨by omega, fun _ => by unfold isMk at r2; rcases r2 with c | c | c | c <;> rw [c] <;> decide⟩
    exact ⟨.cons hfst.1 (by omega) h1.le (q4 k h1 hstop) ih, .inr ⟨hfst.1, by rw [hfst.2]; exact hm⟩⟩
/-- A compound's text. -/
def restL (l : List (Int × List UInt8)) : List UInt8 := (l.filter (fun y => decide (y.1 ≠ 1))).flatMap Prod.snd
theorem cmp_fold : ∀ (l : List (Int × List UInt8)) (f r : List UInt8), (∀ y ∈ l, y.1 ≠ 2) → ∃ F, l.foldl cmpStep (f, r) = (F, r ++ restL l) ∧ (F = f ∨ (f = [] ∧ F = [42]))
  | [], f, r, _ => ⟨f, by simp [restL], .inl rfl⟩
  | y :: l, f, r, h => by
    have hy := h y (List.mem_cons_self ..)
    have hl := fun z hz => h z (List.mem_cons_of_mem _ hz)
    rw [List.foldl_cons]
    by_cases c : y.1 = 1
    · have hr : restL (y :: l) = restL l := by unfold restL; rw [List.filter_cons, if_neg (by simpa using c)]
      rw [hr]
      by_cases cf : f = []
      · have e : cmpStep (f, r) y = ([42], r) := by unfold cmpStep; rw [if_neg hy, if_pos c]; simp [cf]
        rw [e]
        obtain ⟨F, h1, h2⟩ := cmp_fold l [42] r hl
        refine ⟨F, h1, .inr ⟨cf, ?_⟩⟩
        rcases h2 with h2 | ⟨h2, _⟩
        · exact h2
        · cases h2
      · have e : cmpStep (f, r) y = (f, r) := by unfold cmpStep; rw [if_neg hy, if_pos c]; simp [cf]
        rw [e]
        exact cmp_fold l f r hl
    · have hr : restL (y :: l) = y.2 ++ restL l := by unfold restL; rw [List.filter_cons, if_pos (by simpa using c), List.flatMap_cons]
      have e : cmpStep (f, r) y = (f, r ++ y.2) := by unfold cmpStep; rw [if_neg hy, if_neg c]
      rw [e, hr, ← List.append_assoc]
      exact cmp_fold l f (r ++ y.2) hl
theorem restL_list (l : List ST) : restL (l.map (fun u => (u.top.kind, u.wr))) = (l.filter (fun u => decide (u.top.kind ≠ 1))).flatMap ST.wr := by
  unfold restL
  rw [List.filter_map, List.flatMap_map]; rfl
theorem sum_filter : ∀ (l : List ST) (a : S3), (∀ u ∈ l, u.top.kind = 1 → u.sp = (0, 0, 0)) → ((l.filter (fun u => decide (u.top.kind ≠ 1))).map ST.sp).foldl S3.add a = (l.map ST.sp).foldl S3.add a
  | [], a, _ => rfl
  | u :: l, a, h => by
    have ih := fun a => sum_filter l a (fun v hv => h v (List.mem_cons_of_mem _ hv))
    rw [List.filter_cons]
    by_cases c : u.top.kind = 1
    · rw [if_neg (by simpa using c), ih, List.map_cons, List.foldl_cons, h u (List.mem_cons_self ..) c, add_zero3]
    · rw [if_pos (by simpa using c), List.map_cons, List.foldl_cons, ih, List.map_cons, List.foldl_cons]
end Go.Proofs.YtnibpdmbccfgoaaGreatDoor
