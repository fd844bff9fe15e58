/- FnSpecificWhole: texts joined (joinf.py) -/
import Derived.Test.YtnibpdmbccfgoaaGreatDoorJ6
namespace Go.Proofs.YtnibpdmbccfgoaaGreatDoor
open Go.RowKit
set_option linter.unusedVariables false

def sumS (l : List S3) (k : Nat) : S3 := (l.take k).foldl S3.add (0, 0, 0)
theorem sumS_succ {l : List S3} {k : Nat} (h : k < l.length) : sumS l (k + 1) = S3.add (sumS l k) l[k] := by
  unfold sumS
  rw [List.take_succ_eq_append_getElem h, List.foldl_append]; rfl
theorem add_lim {x y : S3} (h : (S3.add x y).lim) : x.lim ∧ y.lim := by
  obtain ⟨h1, h2, h3⟩ := h
  have h1 : x.1 + y.1 ≤ 100000 := h1
  have h2 : x.2.1 + y.2.1 ≤ 100000 := h2
  have h3 : x.2.2 + y.2.2 ≤ 100000 := h3
  exact ⟨⟨by omega, by omega, by omega⟩, ⟨by omega, by omega, by omega⟩⟩
theorem sumS_lim {l : List S3} (h : (sumS l l.length).lim) : ∀ d k, k + d = l.length → (sumS l k).lim
  | 0, k, e => by rw [Nat.add_zero] at e; rw [e]; exact h
  | d + 1, k, e => by
    have ih := sumS_lim h d (k + 1) (by omega)
    rw [sumS_succ (by omega)] at ih
    exact (add_lim ih).1
theorem sumS_at {l : List S3} (h : (sumS l l.length).lim) {k : Nat} (hk : k < l.length) : (l[k]).lim := by
  have := sumS_lim h (l.length - (k + 1)) (k + 1) (by omega)
  rw [sumS_succ hk] at this
  exact (add_lim this).2

/-- Values in a row, each with the method. -/
structure RowS (lo hi : Nat) (vs : List Value) (sps : List S3) (p : Option Addr) (w : World) : Prop where
  top : hi ≤ w.heap.size
  len : sps.length = vs.length
  row : ∀ i (h : i < vs.length), ∃ b o, p = some ⟨b, o, none⟩ ∧ (lo ≤ b ∧ b < hi) ∧ w.cell? ⟨b, o + i, none⟩ = some vs[i]
  disp : ∀ i (h : i < vs.length) (h2 : i < sps.length), Disp lo hi vs[i] sps[i] w
theorem Kp.cell {lo hi : Nat} {w U : World} (h : Kp lo hi w U) {b : Nat} (hb : lo ≤ b ∧ b < hi) (i : Nat) {v : Value} (hc : w.cell? ⟨b, i, none⟩ = some v) : U.cell? ⟨b, i, none⟩ = some v := by
  have e := h.oth b hb.1 hb.2
  rw [← hc]
  unfold World.cell?
  rw [e]
theorem Disp.next {lo hi : Nat} {v : Value} {x : S3} {w U : World} (h : Disp lo hi v x w) (hb : Kp lo hi w U) : Disp lo hi v x U := by
  obtain ⟨ht, T, f, K, r, e, hm, hc, hh⟩ := h
  exact ⟨Nat.le_trans ht hb.size, T, f, K, r, e, hm, hc, fun V hV => hh V (hb.trans hV)⟩
theorem Disp.more {lo hi lo' hi' : Nat} {v : Value} {x : S3} {w : World} (h : Disp lo hi v x w) (h1 : lo' ≤ lo) (h2 : hi ≤ hi') (h3 : hi' ≤ w.heap.size) : Disp lo' hi' v x w := by
  obtain ⟨ht, T, f, K, r, e, hm, hc, hh⟩ := h
  exact ⟨h3, T, f, K, r, e, hm, hc, fun V hV => hh V (hV.less h1 h2)⟩
theorem RowS.next {lo hi : Nat} {vs : List Value} {sps : List S3} {p : Option Addr} {w U : World} (h : RowS lo hi vs sps p w) (hb : Kp lo hi w U) : RowS lo hi vs sps p U :=
  ⟨Nat.le_trans h.top hb.size, h.len, fun i hi => by
    obtain ⟨b, o, e, hn, hc⟩ := h.row i hi
    exact ⟨b, o, e, hn, hb.cell hn _ hc⟩, fun i h1 h2 => (h.disp i h1 h2).next hb⟩
theorem BlkB.self {g : Nat} {cs : Array Value} {T : TypeId} {B : Nat} {W w : World} (h : BlkB g cs T B W w) : BlkB g cs T 0 w w := ⟨h.blk, Below.refl _ _, Nat.zero_le _⟩

set_option maxRecDepth 100000 in
set_option maxHeartbeats 8000000 in
theorem spCompound_any (lo hi : Nat) (vs : List Value) (sps : List S3) (n : Nat) (hn : vs.length = n) (p : Option Addr) (cp : Nat) (hl : n ≤ 100000) (w : World) (hr : RowS lo hi vs sps p w) (hlim : (sumS sps sps.length).lim) :
    Calls Tryz.prog 144 #[.agg #[.slice p n cp, .string ⟨#[]⟩]] w (SpP (sumS sps sps.length) w) := by
  have HR := Lib.hid hr
  have HLim := Lib.hid hlim
  have HLen : Hid (sps.length = n) := hr.len.trans hn
  have HN := Lib.hid hn
  clear hr hlim hn
  have hb0 : Below w.heap.size w (((w.alloc (.cells #[.slice p n cp, .string ⟨#[]⟩] 93)).alloc (.cells #[.int .i64 0, .int .i64 0, .int .i64 0] 41)).alloc (.cells #[.int .i64 0, .int .i64 0, .int .i64 0] 41)) := (((Below.refl _ _).alloc (Nat.le_refl _) _).alloc (by simp) _).alloc (by simp; omega) _
  have hk0 : BlkB w.heap.size #[.slice p n cp, .string ⟨#[]⟩] 93 w.heap.size w (((w.alloc (.cells #[.slice p n cp, .string ⟨#[]⟩] 93)).alloc (.cells #[.int .i64 0, .int .i64 0, .int .i64 0] 41)).alloc (.cells #[.int .i64 0, .int .i64 0, .int .i64 0] 41)) :=
    ((BlkB.made w w.heap.size (Nat.le_refl _) _ _).next ((Below.refl _ _).alloc (Nat.le_refl _) _)).next ((Below.refl _ _).alloc (Nat.le_refl _) _)
  have hr0 : BlkB (w.heap.size + 1) #[.int .i64 0, .int .i64 0, .int .i64 0] 41 w.heap.size w (((w.alloc (.cells #[.slice p n cp, .string ⟨#[]⟩] 93)).alloc (.cells #[.int .i64 0, .int .i64 0, .int .i64 0] 41)).alloc (.cells #[.int .i64 0, .int .i64 0, .int .i64 0] 41)) := by
    refine ⟨?_, hb0, by omega⟩
    have := heap_alloc_new (w.alloc (.cells #[.slice p n cp, .string ⟨#[]⟩] 93)) (.cells #[.int .i64 0, .int .i64 0, .int .i64 0] 41)
    rw [show (w.alloc (.cells #[.slice p n cp, .string ⟨#[]⟩] 93)).heap.size = w.heap.size + 1 by simp] at this
    exact (Below.heap_alloc _ _ _ (by simp)).trans this
  have hj0 : BlkB (w.heap.size + 1 + 1) #[.int .i64 0, .int .i64 0, .int .i64 0] 41 w.heap.size w (((w.alloc (.cells #[.slice p n cp, .string ⟨#[]⟩] 93)).alloc (.cells #[.int .i64 0, .int .i64 0, .int .i64 0] 41)).alloc (.cells #[.int .i64 0, .int .i64 0, .int .i64 0] 41)) := by
    refine ⟨?_, hb0, by omega⟩
    have := heap_alloc_new ((w.alloc (.cells #[.slice p n cp, .string ⟨#[]⟩] 93)).alloc (.cells #[.int .i64 0, .int .i64 0, .int .i64 0] 41)) (.cells #[.int .i64 0, .int .i64 0, .int .i64 0] 41)
    rw [show ((w.alloc (.cells #[.slice p n cp, .string ⟨#[]⟩] 93)).alloc (.cells #[.int .i64 0, .int .i64 0, .int .i64 0] 41)).heap.size = w.heap.size + 1 + 1 by simp] at this
    exact this
  go_enter Tryz.func144, Tryz.ntmps144
  go_wp2_with fail
  obtain ⟨W0, hW0⟩ : ∃ W0 : World, W0 = (((w.alloc (.cells #[.slice p n cp, .string ⟨#[]⟩] 93)).alloc (.cells #[.int .i64 0, .int .i64 0, .int .i64 0] 41)).alloc (.cells #[.int .i64 0, .int .i64 0, .int .i64 0] 41)) := ⟨_, rfl⟩
  rw [← hW0] at hb0 hk0 hr0 hj0 ⊢
  have HB0 := Lib.hid hb0
  obtain ⟨J, hJ⟩ : ∃ J, J = w.heap.size + 1 + 1 := ⟨_, rfl⟩
  obtain ⟨R, hR⟩ : ∃ R, R = w.heap.size + 1 := ⟨_, rfl⟩
  obtain ⟨H, hH⟩ : ∃ H, H = w.heap.size := ⟨_, rfl⟩
  rw [← hJ] at hj0 ⊢
  rw [← hR] at hr0 ⊢
  rw [← hH] at hk0 ⊢
  have HK0 := Lib.hid hk0.self
  have HR0 := Lib.hid hr0.self
  have HJ0 := Lib.hid hj0.self
  have HJ : Hid (J = w.heap.size + 2) := hJ
  have HRr : Hid (R = w.heap.size + 1) := hR
  have HH : Hid (H = w.heap.size) := hH
  have hRJ : R ≠ J := by omega
  have hHJ : H ≠ J := by omega
  clear hb0 hk0 hr0 hj0 hW0 hJ hR hH
  go_loopg [9] n (fun gk v9 wr => ∃ k : Nat, gk = n - k ∧ v9 = .int .i64 (k : Int) ∧ k ≤ n ∧ Hid (∃ cs, cs = #[.int .i64 ((sumS sps k).1 : Int), .int .i64 ((sumS sps k).2.1 : Int), .int .i64 ((sumS sps k).2.2 : Int)] ∧ BlkB J cs 41 0 wr wr) ∧ Hid (BlkB H #[.slice p n cp, .string ⟨#[]⟩] 93 0 wr wr) ∧ Hid (BlkB R #[.int .i64 0, .int .i64 0, .int .i64 0] 41 0 wr wr) ∧ Hid (Below w.heap.size w wr))
  case atStart => exact ⟨0, rfl, rfl, Nat.zero_le _, ⟨_, rfl, HJ0.out⟩, HK0.out, HR0.out, HB0.out⟩
  case round =>
    obtain ⟨k, rfl, rfl, hk, HSB, HKB, HRB, HWB⟩ := hrel
    clear HK0 HR0 HJ0 HB0
    obtain ⟨cs, rfl, hsB⟩ := HSB.out
    obtain ⟨⟨a, b, d⟩, hs⟩ : ∃ x, x = sumS sps k := ⟨_, rfl⟩
    rw [← hs] at hsB
    have HS0 := Lib.hid hs
    have hsl : S3.lim (a, b, d) := by rw [hs]; exact sumS_lim HLim.out (sps.length - k) k (by have := HLen.out; omega)
    obtain ⟨x1, x2, x3⟩ := hsl
    have x1 : a ≤ 100000 := x1
    have x2 : b ≤ 100000 := x2
    have x3 : d ≤ 100000 := x3
    have HSB2 : Hid (BlkB J #[.int .i64 a, .int .i64 b, .int .i64 d] 41 0 wr wr) := hsB
    clear HSB hs
    by_cases hlt : k < n
    · have hkv : k < vs.length := by rw [HN.out]; exact hlt
      have hks : k < sps.length := by rw [HLen.out]; exact hlt
      obtain ⟨bb, oo, rfl, _, hcell⟩ := (HR.out.next (Kp.of HWB.out HR.out.top)).row k hkv
      have hdisp := (HR.out.next (Kp.of HWB.out HR.out.top)).disp k hkv hks
      obtain ⟨⟨a', b', d'⟩, hy⟩ : ∃ y, y = sps[k] := ⟨_, rfl⟩
      have hyl : S3.lim (a', b', d') := by rw [hy]; exact sumS_at HLim.out hks
      have HSucc : Hid (sumS sps (k + 1) = (a + a', b + b', d + d')) := by rw [Hid, sumS_succ hks, ← HS0.out, ← hy]; rfl
      rw [← hy] at hdisp
      obtain ⟨htd, U, g0, K1, r1, hv, hm1, hc1, hg⟩ := hdisp
      rw [hv] at hcell
      obtain ⟨y1, y2, y3⟩ := hyl
      have y1 : a' ≤ 100000 := y1
      have y2 : b' ≤ 100000 := y2
      have y3 : d' ≤ 100000 := y3
      have HG2 := Lib.hid hg
      have HAd : Hid (∀ V, Calls Tryz.prog 15 #[.agg #[.int .i64 a, .int .i64 b, .int .i64 d], .agg #[.int .i64 a', .int .i64 b', .int .i64 d']] V (SpP (a + a', b + b', d + d') V)) := fun V => spAdd_any a b d a' b' d' x1 x2 x3 y1 y2 y3 V
      unfold SpP sp3 at HG2 HAd
      have t0 : wr.cell? ⟨J, 0, none⟩ = some (.int .i64 a) := HSB2.out.cell 0
      have t1 : wr.cell? ⟨J, 1, none⟩ = some (.int .i64 b) := HSB2.out.cell 1
      have t2 : wr.cell? ⟨J, 2, none⟩ = some (.int .i64 d) := HSB2.out.cell 2
      have HCell : Hid (∀ V, Below wr.heap.size wr V → BlkB J #[.int .i64 a, .int .i64 b, .int .i64 d] 41 0 wr V) := fun V hV => ⟨(HSB2.out.next hV).blk, Below.mono hV (Nat.zero_le _), Nat.zero_le _⟩
      clear hv hg hy hsB
      go_wp2_with fail
      go_region_with (first | (refine (HG2.out _ (Kp.of ((Below.refl _ _).drew) htd)).mono ?_; rintro e1 w2 ⟨rfl, hb2⟩; have hb2' := bnext ((Below.refl wr.heap.size wr).drew) hb2; have s0 : w2.cell? ⟨J, 0, none⟩ = some (.int .i64 a) := (HCell.out _ hb2').cell 0; have s1 : w2.cell? ⟨J, 1, none⟩ = some (.int .i64 b) := (HCell.out _ hb2').cell 1; have s2 : w2.cell? ⟨J, 2, none⟩ = some (.int .i64 d) := (HCell.out _ hb2').cell 2; have HB2 := Lib.hid hb2'; clear hb2 hb2') | (refine (HAd.out _).mono ?_; rintro e1 w3 ⟨rfl, hb3⟩; have hb3' := bnext HB2.out hb3; have z0 := (HCell.out _ hb3').fz 0; have z1 := (HCell.out _ hb3').fz 1; have z2 := (HCell.out _ hb3').fz 2; have s0 : w3.cell? ⟨J, 0, none⟩ = some (.int .i64 a) := (HCell.out _ hb3').cell 0; have s1 : w3.cell? ⟨J, 1, none⟩ = some (.int .i64 b) := (HCell.out _ hb3').cell 1; have s2 : w3.cell? ⟨J, 2, none⟩ = some (.int .i64 d) := (HCell.out _ hb3').cell 2; have HB3 := Lib.hid hb3'; clear hb3 hb3'))
      all_goals
        have e0 := HCell.out _ HB3.out
        have e1 := ((e0.set 0 (.int .i64 ((a : Int) + (a' : Int)))).set 1 (.int .i64 ((b : Int) + (b' : Int)))).set 2 (.int .i64 ((d : Int) + (d' : Int)))
        have e2 := (((HRB.out.next HB3.out).far (p := ⟨J, 0, none⟩) hRJ (Nat.zero_le _) (.int .i64 ((a : Int) + (a' : Int)))).far (p := ⟨J, 1, none⟩) hRJ (Nat.zero_le _) (.int .i64 ((b : Int) + (b' : Int)))).far (p := ⟨J, 2, none⟩) hRJ (Nat.zero_le _) (.int .i64 ((d : Int) + (d' : Int)))
        have e4 := (((HKB.out.next HB3.out).far (p := ⟨J, 0, none⟩) hHJ (Nat.zero_le _) (.int .i64 ((a : Int) + (a' : Int)))).far (p := ⟨J, 1, none⟩) hHJ (Nat.zero_le _) (.int .i64 ((b : Int) + (b' : Int)))).far (p := ⟨J, 2, none⟩) hHJ (Nat.zero_le _) (.int .i64 ((d : Int) + (d' : Int)))
        have hwJ : w.heap.size ≤ J := by have := HJ.out; omega
        have e3 := (((bnext HWB.out HB3.out).setCell (p := ⟨J, 0, none⟩) hwJ (.int .i64 ((a : Int) + (a' : Int)))).setCell (p := ⟨J, 1, none⟩) hwJ (.int .i64 ((b : Int) + (b' : Int)))).setCell (p := ⟨J, 2, none⟩) hwJ (.int .i64 ((d : Int) + (d' : Int)))
        obtain ⟨V, hV⟩ : ∃ V : World, V = (((w3.setCell ⟨J, 0, none⟩ (.int .i64 ((a : Int) + (a' : Int)))).setCell ⟨J, 1, none⟩ (.int .i64 ((b : Int) + (b' : Int)))).setCell ⟨J, 2, none⟩ (.int .i64 ((d : Int) + (d' : Int)))) := ⟨_, rfl⟩
        rw [← hV] at e1 e2 e3 e4 ⊢
        have E1 := Lib.hid e1
        have E2 := Lib.hid e2
        have E3 := Lib.hid e3
        have E4 := Lib.hid e4
        clear e0 e1 e2 e3 e4 hV t0 t1 t2 s0 s1 s2 z0 z1 z2 hcell
        go_wp2_with fail
        go_roundg (n - (k + 1))
        case measure => omega
        case rel => exact ⟨k + 1, rfl, by go_num, hlt, ⟨_, rfl, by rw [HSucc.out]; exact E1.out.self⟩, E4.out.self, E2.out.self, E3.out⟩
    · have HE : Hid ((a, b, d) = sumS sps sps.length) := by rw [Hid, HS0.out, HLen.out]; congr 1; omega
      have t0 : wr.cell? ⟨J, 0, none⟩ = some (.int .i64 a) := HSB2.out.cell 0
      have t1 : wr.cell? ⟨J, 1, none⟩ = some (.int .i64 b) := HSB2.out.cell 1
      have t2 : wr.cell? ⟨J, 2, none⟩ = some (.int .i64 d) := HSB2.out.cell 2
      have u0 : wr.cell? ⟨R, 0, none⟩ = some (.int .i64 0) := HRB.out.cell 0
      have u1 : wr.cell? ⟨R, 1, none⟩ = some (.int .i64 0) := HRB.out.cell 1
      have u2 : wr.cell? ⟨R, 2, none⟩ = some (.int .i64 0) := HRB.out.cell 2
      have y0 := HRB.out.fz 0
      have y1 := HRB.out.fz 1
      have y2 := HRB.out.fz 2
      have q1 : wr.cell? ⟨H, 1, none⟩ = some (.string ⟨#[]⟩) := HKB.out.cell 1
      clear hsB
      go_wp2_with fail
      have HF := ((HRB.out.set 0 (.int .i64 (a : Int))).set 1 (.int .i64 (b : Int))).set 2 (.int .i64 (d : Int))
      have hwH : w.heap.size ≤ R := by have := HRr.out; omega
      refine bodyPost_ret (results_cell_row rfl _ _ R _ _ _ _ rfl HF.blk Tryz.underlying41 rfl (by kernel_rfl)) rfl ?_
      exact ⟨by rw [← HE.out]; rfl, ((HWB.out.setCell (p := ⟨R, 0, none⟩) hwH _).setCell (p := ⟨R, 1, none⟩) hwH _).setCell (p := ⟨R, 2, none⟩) hwH _⟩
end Go.Proofs.YtnibpdmbccfgoaaGreatDoor

namespace Go.Proofs.YtnibpdmbccfgoaaGreatDoor
open Go.RowKit
set_option linter.unusedVariables false

def maxS (l : List S3) (k : Nat) : S3 := (l.take k).foldl S3.max (0, 0, 0)
theorem maxS_succ {l : List S3} {k : Nat} (h : k < l.length) : maxS l (k + 1) = S3.max (maxS l k) l[k] := by
  unfold maxS
  rw [List.take_succ_eq_append_getElem h, List.foldl_append]; rfl
theorem max_lim {x y : S3} (hx : x.lim) (hy : y.lim) : (S3.max x y).lim := by
  unfold S3.max
  split
  · exact hy
  · exact hx
theorem maxS_lim {l : List S3} (h : ∀ i (hi : i < l.length), (l[i]).lim) : ∀ k, k ≤ l.length → (maxS l k).lim
  | 0, _ => ⟨Nat.zero_le _, Nat.zero_le _, Nat.zero_le _⟩
  | k + 1, hk => by rw [maxS_succ hk]; exact max_lim (maxS_lim h k (by omega)) (h k hk)

set_option maxRecDepth 100000 in
set_option maxHeartbeats 8000000 in
theorem spRel_any (lo hi : Nat) (nm : ByteArray) (vs : List Value) (sps : List S3) (n : Nat) (hn : vs.length = n) (p : Option Addr) (cp : Nat) (hl : n ≤ 100000) (w : World) (hr : RowS lo hi vs sps p w) (hlim : ∀ i (hi : i < sps.length), (sps[i]).lim) :
    Calls Tryz.prog 150 #[.agg #[.string nm, .slice p n cp]] w (SpP (maxS sps sps.length) w) := by
  have HR := Lib.hid hr
  have HLim := Lib.hid hlim
  have HLen : Hid (sps.length = n) := hr.len.trans hn
  have HN := Lib.hid hn
  clear hr hlim hn
  have hb0 : Below w.heap.size w (((w.alloc (.cells #[.string nm, .slice p n cp] 102)).alloc (.cells #[.int .i64 0, .int .i64 0, .int .i64 0] 41)).alloc (.cells #[.int .i64 0, .int .i64 0, .int .i64 0] 41)) := (((Below.refl _ _).alloc (Nat.le_refl _) _).alloc (by simp) _).alloc (by simp; omega) _
  have hk0 : BlkB w.heap.size #[.string nm, .slice p n cp] 102 w.heap.size w (((w.alloc (.cells #[.string nm, .slice p n cp] 102)).alloc (.cells #[.int .i64 0, .int .i64 0, .int .i64 0] 41)).alloc (.cells #[.int .i64 0, .int .i64 0, .int .i64 0] 41)) :=
    ((BlkB.made w w.heap.size (Nat.le_refl _) _ _).next ((Below.refl _ _).alloc (Nat.le_refl _) _)).next ((Below.refl _ _).alloc (Nat.le_refl _) _)
  have hr0 : BlkB (w.heap.size + 1) #[.int .i64 0, .int .i64 0, .int .i64 0] 41 w.heap.size w (((w.alloc (.cells #[.string nm, .slice p n cp] 102)).alloc (.cells #[.int .i64 0, .int .i64 0, .int .i64 0] 41)).alloc (.cells #[.int .i64 0, .int .i64 0, .int .i64 0] 41)) := by
    refine ⟨?_, hb0, by omega⟩
    have := heap_alloc_new (w.alloc (.cells #[.string nm, .slice p n cp] 102)) (.cells #[.int .i64 0, .int .i64 0, .int .i64 0] 41)
    rw [show (w.alloc (.cells #[.string nm, .slice p n cp] 102)).heap.size = w.heap.size + 1 by simp] at this
    exact (Below.heap_alloc _ _ _ (by simp)).trans this
  have hj0 : BlkB (w.heap.size + 1 + 1) #[.int .i64 0, .int .i64 0, .int .i64 0] 41 w.heap.size w (((w.alloc (.cells #[.string nm, .slice p n cp] 102)).alloc (.cells #[.int .i64 0, .int .i64 0, .int .i64 0] 41)).alloc (.cells #[.int .i64 0, .int .i64 0, .int .i64 0] 41)) := by
    refine ⟨?_, hb0, by omega⟩
    have := heap_alloc_new ((w.alloc (.cells #[.string nm, .slice p n cp] 102)).alloc (.cells #[.int .i64 0, .int .i64 0, .int .i64 0] 41)) (.cells #[.int .i64 0, .int .i64 0, .int .i64 0] 41)
    rw [show ((w.alloc (.cells #[.string nm, .slice p n cp] 102)).alloc (.cells #[.int .i64 0, .int .i64 0, .int .i64 0] 41)).heap.size = w.heap.size + 1 + 1 by simp] at this
    exact this
  go_enter Tryz.func150, Tryz.ntmps150
  go_wp2_with fail
  obtain ⟨W0, hW0⟩ : ∃ W0 : World, W0 = (((w.alloc (.cells #[.string nm, .slice p n cp] 102)).alloc (.cells #[.int .i64 0, .int .i64 0, .int .i64 0] 41)).alloc (.cells #[.int .i64 0, .int .i64 0, .int .i64 0] 41)) := ⟨_, rfl⟩
  rw [← hW0] at hb0 hk0 hr0 hj0 ⊢
  have HB0 := Lib.hid hb0
  obtain ⟨J, hJ⟩ : ∃ J, J = w.heap.size + 1 + 1 := ⟨_, rfl⟩
  obtain ⟨R, hR⟩ : ∃ R, R = w.heap.size + 1 := ⟨_, rfl⟩
  obtain ⟨H, hH⟩ : ∃ H, H = w.heap.size := ⟨_, rfl⟩
  rw [← hJ] at hj0 ⊢
  rw [← hR] at hr0 ⊢
  rw [← hH] at hk0 ⊢
  have HK0 := Lib.hid hk0.self
  have HR0 := Lib.hid hr0.self
  have HJ0 := Lib.hid hj0.self
  have HJ : Hid (J = w.heap.size + 2) := hJ
  have HRr : Hid (R = w.heap.size + 1) := hR
  have HH : Hid (H = w.heap.size) := hH
  have hRJ : R ≠ J := by omega
  have hHJ : H ≠ J := by omega
  clear hb0 hk0 hr0 hj0 hW0 hJ hR hH
  go_loopg [10] n (fun gk v9 wr => ∃ k : Nat, gk = n - k ∧ v9 = .int .i64 (k : Int) ∧ k ≤ n ∧ Hid (∃ cs, cs = #[.int .i64 ((maxS sps k).1 : Int), .int .i64 ((maxS sps k).2.1 : Int), .int .i64 ((maxS sps k).2.2 : Int)] ∧ BlkB J cs 41 0 wr wr) ∧ Hid (BlkB H #[.string nm, .slice p n cp] 102 0 wr wr) ∧ Hid (BlkB R #[.int .i64 0, .int .i64 0, .int .i64 0] 41 0 wr wr) ∧ Hid (Below w.heap.size w wr))
  case atStart => exact ⟨0, rfl, rfl, Nat.zero_le _, ⟨_, rfl, HJ0.out⟩, HK0.out, HR0.out, HB0.out⟩
  case round =>
    obtain ⟨k, rfl, rfl, hk, HSB, HKB, HRB, HWB⟩ := hrel
    clear HK0 HR0 HJ0 HB0
    obtain ⟨cs, rfl, hsB⟩ := HSB.out
    obtain ⟨⟨a, b, d⟩, hs⟩ : ∃ x, x = maxS sps k := ⟨_, rfl⟩
    rw [← hs] at hsB
    have HS0 := Lib.hid hs
    have hsl : S3.lim (a, b, d) := by rw [hs]; exact maxS_lim HLim.out k (by have := HLen.out; omega)
    obtain ⟨x1, x2, x3⟩ := hsl
    have x1 : a ≤ 100000 := x1
    have x2 : b ≤ 100000 := x2
    have x3 : d ≤ 100000 := x3
    have HSB2 : Hid (BlkB J #[.int .i64 a, .int .i64 b, .int .i64 d] 41 0 wr wr) := hsB
    clear HSB hs
    by_cases hlt : k < n
    · have hkv : k < vs.length := by rw [HN.out]; exact hlt
      have hks : k < sps.length := by rw [HLen.out]; exact hlt
      obtain ⟨bb, oo, rfl, _, hcell⟩ := (HR.out.next (Kp.of HWB.out HR.out.top)).row k hkv
      have hdisp := (HR.out.next (Kp.of HWB.out HR.out.top)).disp k hkv hks
      obtain ⟨⟨a', b', d'⟩, hy⟩ : ∃ y, y = sps[k] := ⟨_, rfl⟩
      have hyl : S3.lim (a', b', d') := by rw [hy]; exact HLim.out k hks
      have HSucc : Hid (maxS sps (k + 1) = S3.max (a, b, d) (a', b', d')) := by rw [Hid, maxS_succ hks, ← HS0.out, ← hy]
      rw [← hy] at hdisp
      obtain ⟨htd, U, g0, K1, r1, hv, hm1, hc1, hg⟩ := hdisp
      rw [hv] at hcell
      obtain ⟨y1, y2, y3⟩ := hyl
      have y1 : a' ≤ 100000 := y1
      have y2 : b' ≤ 100000 := y2
      have y3 : d' ≤ 100000 := y3
      have HG2 := Lib.hid hg
      have HAd : Hid (∀ V, Calls Tryz.prog 120 #[.agg #[.int .i64 a, .int .i64 b, .int .i64 d], .agg #[.int .i64 a', .int .i64 b', .int .i64 d']] V (LsP (S3.less (a, b, d) (a', b', d')) V)) := fun V => spLess_any a b d a' b' d' V x1 x2 x3 y1 y2 y3
      unfold SpP sp3 at HG2
      unfold LsP at HAd
      have HCell : Hid (∀ V, Below wr.heap.size wr V → BlkB J #[.int .i64 a, .int .i64 b, .int .i64 d] 41 0 wr V) := fun V hV => ⟨(HSB2.out.next hV).blk, Below.mono hV (Nat.zero_le _), Nat.zero_le _⟩
      clear hv hg hy hsB
      go_wp2_with fail
      refine (HG2.out _ (Kp.of (Below.refl _ _) htd)).mono ?_
      rintro e1 w2 ⟨rfl, hb2⟩
      have HB2 := Lib.hid hb2
      clear hb2
      have hb3 : ∀ X, Below wr.heap.size wr (w2.alloc X) := fun X => bnext HB2.out ((Below.refl _ _).alloc (Nat.le_refl _) _)
      have s0 : ∀ X, (w2.alloc X).cell? ⟨J, 0, none⟩ = some (.int .i64 a) := fun X => (HCell.out _ (hb3 X)).cell 0
      have s1 : ∀ X, (w2.alloc X).cell? ⟨J, 1, none⟩ = some (.int .i64 b) := fun X => (HCell.out _ (hb3 X)).cell 1
      have s2 : ∀ X, (w2.alloc X).cell? ⟨J, 2, none⟩ = some (.int .i64 d) := fun X => (HCell.out _ (hb3 X)).cell 2
      clear hb3
      go_wp2_with fail
      refine (HAd.out _).mono ?_
      rintro e1 w3 ⟨rfl, hb3⟩
      obtain ⟨X, hX⟩ : ∃ X : World, X = w2.alloc (.cells #[.int .i64 a', .int .i64 b', .int .i64 d'] 41) := ⟨_, rfl⟩
      obtain ⟨Q, hQ⟩ : ∃ Q, Q = w2.heap.size := ⟨_, rfl⟩
      have hsQ : BlkB Q #[.int .i64 a', .int .i64 b', .int .i64 d'] 41 0 X X := by rw [hQ, hX]; exact ⟨heap_alloc_new w2 _, Below.refl _ _, Nat.zero_le _⟩
      have hbX : Below wr.heap.size wr X := by rw [hX]; exact bnext HB2.out ((Below.refl _ _).alloc (Nat.le_refl _) _)
      rw [← hX] at hb3
      have hsJ := HCell.out _ (bnext hbX hb3)
      have hb4 := bnext hbX hb3
      have hq3 := (hsQ.next hb3).self
      have HX := Lib.hid hX
      clear hX s0 s1 s2 hsQ hbX hb3
      have t0 : w3.cell? ⟨Q, 0, none⟩ = some (.int .i64 a') := hq3.cell 0
      have t1 : w3.cell? ⟨Q, 1, none⟩ = some (.int .i64 b') := hq3.cell 1
      have t2 : w3.cell? ⟨Q, 2, none⟩ = some (.int .i64 d') := hq3.cell 2
      have s0 : w3.cell? ⟨J, 0, none⟩ = some (.int .i64 a) := hsJ.cell 0
      have s1 : w3.cell? ⟨J, 1, none⟩ = some (.int .i64 b) := hsJ.cell 1
      have s2 : w3.cell? ⟨J, 2, none⟩ = some (.int .i64 d) := hsJ.cell 2
      have z0 := hsJ.fz 0
      have z1 := hsJ.fz 1
      have z2 := hsJ.fz 2
      rw [← hQ]
      have HQ := Lib.hid hQ
      have HB4 := Lib.hid hb4
      have HSJ := Lib.hid hsJ.self
      have HRB3 : Hid (BlkB R #[.int .i64 0, .int .i64 0, .int .i64 0] 41 0 w3 w3) := (HRB.out.next hb4).self
      have HKB3 := Lib.hid (HKB.out.next hb4).self
      have HWB3 : Hid (Below w.heap.size w w3) := bnext HWB.out hb4
      clear hQ hb4 hq3 hsJ
      rcases hls : S3.less (a, b, d) (a', b', d') with _ | _
      · have HL : Hid (maxS sps (k + 1) = (a, b, d)) := by rw [Hid, HSucc.out]; unfold S3.max; rw [if_neg (by rw [hls]; exact Bool.noConfusion)]
        clear hls
        go_wp2_with fail
        go_roundg (n - (k + 1))
        case measure => omega
        case rel => exact ⟨k + 1, rfl, by go_num, hlt, ⟨_, rfl, by rw [HL.out]; exact HSJ.out⟩, HKB3.out, HRB3.out, HWB3.out⟩
      · have HL : Hid (maxS sps (k + 1) = (a', b', d')) := by rw [Hid, HSucc.out]; unfold S3.max; rw [if_pos hls]
        clear hls
        go_wp2_with fail
        have e1 := ((HSJ.out.set 0 (.int .i64 (a' : Int))).set 1 (.int .i64 (b' : Int))).set 2 (.int .i64 (d' : Int))
        have e2 := ((HRB3.out.far (p := ⟨J, 0, none⟩) hRJ (Nat.zero_le _) (.int .i64 (a' : Int))).far (p := ⟨J, 1, none⟩) hRJ (Nat.zero_le _) (.int .i64 (b' : Int))).far (p := ⟨J, 2, none⟩) hRJ (Nat.zero_le _) (.int .i64 (d' : Int))
        have e4 := ((HKB3.out.far (p := ⟨J, 0, none⟩) hHJ (Nat.zero_le _) (.int .i64 (a' : Int))).far (p := ⟨J, 1, none⟩) hHJ (Nat.zero_le _) (.int .i64 (b' : Int))).far (p := ⟨J, 2, none⟩) hHJ (Nat.zero_le _) (.int .i64 (d' : Int))
        have hwJ : w.heap.size ≤ J := by have := HJ.out; omega
        have e3 := ((HWB3.out.setCell (p := ⟨J, 0, none⟩) hwJ (.int .i64 (a' : Int))).setCell (p := ⟨J, 1, none⟩) hwJ (.int .i64 (b' : Int))).setCell (p := ⟨J, 2, none⟩) hwJ (.int .i64 (d' : Int))
        go_roundg (n - (k + 1))
        case measure => omega
        case rel => exact ⟨k + 1, rfl, by go_num, hlt, ⟨_, rfl, by rw [HL.out]; exact e1.self⟩, e4.self, e2.self, e3⟩
    · have HE : Hid ((a, b, d) = maxS sps sps.length) := by rw [Hid, HS0.out, HLen.out]; congr 1; omega
      have t0 : wr.cell? ⟨J, 0, none⟩ = some (.int .i64 a) := HSB2.out.cell 0
      have t1 : wr.cell? ⟨J, 1, none⟩ = some (.int .i64 b) := HSB2.out.cell 1
      have t2 : wr.cell? ⟨J, 2, none⟩ = some (.int .i64 d) := HSB2.out.cell 2
      have u0 : wr.cell? ⟨R, 0, none⟩ = some (.int .i64 0) := HRB.out.cell 0
      have u1 : wr.cell? ⟨R, 1, none⟩ = some (.int .i64 0) := HRB.out.cell 1
      have u2 : wr.cell? ⟨R, 2, none⟩ = some (.int .i64 0) := HRB.out.cell 2
      have y0 := HRB.out.fz 0
      have y1 := HRB.out.fz 1
      have y2 := HRB.out.fz 2
      clear hsB
      go_wp2_with fail
      have HF := ((HRB.out.set 0 (.int .i64 (a : Int))).set 1 (.int .i64 (b : Int))).set 2 (.int .i64 (d : Int))
      have hwH : w.heap.size ≤ R := by have := HRr.out; omega
      refine bodyPost_ret (results_cell_row rfl _ _ R _ _ _ _ rfl HF.blk Tryz.underlying41 rfl (by kernel_rfl)) rfl ?_
      exact ⟨by rw [← HE.out]; rfl, ((HWB.out.setCell (p := ⟨R, 0, none⟩) hwH _).setCell (p := ⟨R, 1, none⟩) hwH _).setCell (p := ⟨R, 2, none⟩) hwH _⟩
end Go.Proofs.YtnibpdmbccfgoaaGreatDoor

namespace Go.Proofs.YtnibpdmbccfgoaaGreatDoor
open Go.RowKit
set_option linter.unusedVariables false

set_option maxRecDepth 100000 in
theorem spTag_any (t : ByteArray) (w : World) : Calls Tryz.prog 128 #[.agg #[.string t]] w (SpP (0, 0, 1) w) := by
  have HN : Hid (∀ (A : Obj) (C : Array Value), ((w.alloc A).alloc (.cells C 41)).heap[w.heap.size + 1]? = some (.cells C 41 (0, 0))) := fun A C => by
    have := heap_alloc_new (w.alloc A) (.cells C 41)
    rw [show (w.alloc A).heap.size = w.heap.size + 1 by simp] at this
    exact this
  have HB : Hid (∀ (A B : Obj), Below w.heap.size w ((w.alloc A).alloc B)) := fun A B => ((Below.refl _ _).alloc (Nat.le_refl _) _).alloc (by simp) _
  go_enter Tryz.func128, Tryz.ntmps128
  go_wp2_with fail
  refine bodyPost_ret (results_cell_row rfl _ _ (w.heap.size + 1) _ _ _ _ rfl (HN.out _ _) Tryz.underlying41 rfl (by kernel_rfl)) rfl ?_
  exact ⟨rfl, HB.out _ _⟩
theorem cTag : ∀ xs U, (callFunc 128 xs).run Tryz.prog U = .ok (.enter 128 xs) U := fun _ _ => by kernel_rfl
theorem dispTag (t : ByteArray) (lo hi : Nat) (w : World) (ht : hi ≤ w.heap.size) : Disp lo hi (.iface 75 (.agg #[.string t])) (0, 0, 1) w :=
  ⟨ht, _, _, 128, .agg #[.string t], rfl, fun _ => by kernel_rfl, cTag, fun U _ => spTag_any t U⟩
set_option maxRecDepth 100000 in
theorem spId_any (t : ByteArray) (w : World) : Calls Tryz.prog 132 #[.agg #[.string t]] w (SpP (1, 0, 0) w) := by
  have HN : Hid (∀ (A : Obj) (C : Array Value), ((w.alloc A).alloc (.cells C 41)).heap[w.heap.size + 1]? = some (.cells C 41 (0, 0))) := fun A C => by
    have := heap_alloc_new (w.alloc A) (.cells C 41)
    rw [show (w.alloc A).heap.size = w.heap.size + 1 by simp] at this
    exact this
  have HB : Hid (∀ (A B : Obj), Below w.heap.size w ((w.alloc A).alloc B)) := fun A B => ((Below.refl _ _).alloc (Nat.le_refl _) _).alloc (by simp) _
  go_enter Tryz.func132, Tryz.ntmps132
  go_wp2_with fail
  refine bodyPost_ret (results_cell_row rfl _ _ (w.heap.size + 1) _ _ _ _ rfl (HN.out _ _) Tryz.underlying41 rfl (by kernel_rfl)) rfl ?_
  exact ⟨rfl, HB.out _ _⟩
theorem cId : ∀ xs U, (callFunc 132 xs).run Tryz.prog U = .ok (.enter 132 xs) U := fun _ _ => by kernel_rfl
theorem dispId (t : ByteArray) (lo hi : Nat) (w : World) (ht : hi ≤ w.heap.size) : Disp lo hi (.iface 79 (.agg #[.string t])) (1, 0, 0) w :=
  ⟨ht, _, _, 132, .agg #[.string t], rfl, fun _ => by kernel_rfl, cId, fun U _ => spId_any t U⟩
set_option maxRecDepth 100000 in
theorem spCls_any (t : ByteArray) (w : World) : Calls Tryz.prog 136 #[.agg #[.string t]] w (SpP (0, 1, 0) w) := by
  have HN : Hid (∀ (A : Obj) (C : Array Value), ((w.alloc A).alloc (.cells C 41)).heap[w.heap.size + 1]? = some (.cells C 41 (0, 0))) := fun A C => by
    have := heap_alloc_new (w.alloc A) (.cells C 41)
    rw [show (w.alloc A).heap.size = w.heap.size + 1 by simp] at this
    exact this
  have HB : Hid (∀ (A B : Obj), Below w.heap.size w ((w.alloc A).alloc B)) := fun A B => ((Below.refl _ _).alloc (Nat.le_refl _) _).alloc (by simp) _
  go_enter Tryz.func136, Tryz.ntmps136
  go_wp2_with fail
  refine bodyPost_ret (results_cell_row rfl _ _ (w.heap.size + 1) _ _ _ _ rfl (HN.out _ _) Tryz.underlying41 rfl (by kernel_rfl)) rfl ?_
  exact ⟨rfl, HB.out _ _⟩
theorem cCls : ∀ xs U, (callFunc 136 xs).run Tryz.prog U = .ok (.enter 136 xs) U := fun _ _ => by kernel_rfl
theorem dispCls (t : ByteArray) (lo hi : Nat) (w : World) (ht : hi ≤ w.heap.size) : Disp lo hi (.iface 83 (.agg #[.string t])) (0, 1, 0) w :=
  ⟨ht, _, _, 136, .agg #[.string t], rfl, fun _ => by kernel_rfl, cCls, fun U _ => spCls_any t U⟩
set_option maxRecDepth 100000 in
theorem spAtt_any (k v o : ByteArray) (b : Bool) (w : World) : Calls Tryz.prog 140 #[.agg #[.string k, .string v, .string o, .bool b]] w (SpP (0, 1, 0) w) := by
  have HN : Hid (∀ (A : Obj) (C : Array Value), ((w.alloc A).alloc (.cells C 41)).heap[w.heap.size + 1]? = some (.cells C 41 (0, 0))) := fun A C => by
    have := heap_alloc_new (w.alloc A) (.cells C 41)
    rw [show (w.alloc A).heap.size = w.heap.size + 1 by simp] at this
    exact this
  have HB : Hid (∀ (A B : Obj), Below w.heap.size w ((w.alloc A).alloc B)) := fun A B => ((Below.refl _ _).alloc (Nat.le_refl _) _).alloc (by simp) _
  go_enter Tryz.func140, Tryz.ntmps140
  go_wp2_with fail
  refine bodyPost_ret (results_cell_row rfl _ _ (w.heap.size + 1) _ _ _ _ rfl (HN.out _ _) Tryz.underlying41 rfl (by kernel_rfl)) rfl ?_
  exact ⟨rfl, HB.out _ _⟩
theorem cAtt : ∀ xs U, (callFunc 140 xs).run Tryz.prog U = .ok (.enter 140 xs) U := fun _ _ => by kernel_rfl
theorem dispAtt (k v o : ByteArray) (b : Bool) (lo hi : Nat) (w : World) (ht : hi ≤ w.heap.size) : Disp lo hi (.iface 87 (.agg #[.string k, .string v, .string o, .bool b])) (0, 1, 0) w :=
  ⟨ht, _, _, 140, .agg #[.string k, .string v, .string o, .bool b], rfl, fun _ => by kernel_rfl, cAtt, fun U _ => spAtt_any k v o b U⟩
set_option maxRecDepth 100000 in
theorem spPsu_any (w : World) : Calls Tryz.prog 153 #[.agg #[]] w (SpP (0, 1, 0) w) := by
  have HN : Hid (∀ (A : Obj) (C : Array Value), ((w.alloc A).alloc (.cells C 41)).heap[w.heap.size + 1]? = some (.cells C 41 (0, 0))) := fun A C => by
    have := heap_alloc_new (w.alloc A) (.cells C 41)
    rw [show (w.alloc A).heap.size = w.heap.size + 1 by simp] at this
    exact this
  have HB : Hid (∀ (A B : Obj), Below w.heap.size w ((w.alloc A).alloc B)) := fun A B => ((Below.refl _ _).alloc (Nat.le_refl _) _).alloc (by simp) _
  go_enter Tryz.func153, Tryz.ntmps153
  go_wp2_with fail
  refine bodyPost_ret (results_cell_row rfl _ _ (w.heap.size + 1) _ _ _ _ rfl (HN.out _ _) Tryz.underlying41 rfl (by kernel_rfl)) rfl ?_
  exact ⟨rfl, HB.out _ _⟩
theorem cPsu : ∀ xs U, (callFunc 153 xs).run Tryz.prog U = .ok (.enter 153 xs) U := fun _ _ => by kernel_rfl
theorem dispCon (v : ByteArray) (b : Bool) (lo hi : Nat) (w : World) (ht : hi ≤ w.heap.size) : Disp lo hi (.iface 106 (.agg #[.string v, .bool b])) (0, 1, 0) w :=
  ⟨ht, _, _, 153, .agg #[], rfl, fun _ => by kernel_rfl, cPsu, fun U _ => spPsu_any U⟩
theorem dispNth (a b : Int) (l o : Bool) (lo hi : Nat) (w : World) (ht : hi ≤ w.heap.size) : Disp lo hi (.iface 110 (.agg #[.int .i64 a, .int .i64 b, .bool l, .bool o])) (0, 1, 0) w :=
  ⟨ht, _, _, 153, .agg #[], rfl, fun _ => by kernel_rfl, cPsu, fun U _ => spPsu_any U⟩
theorem dispOnl (o : Bool) (lo hi : Nat) (w : World) (ht : hi ≤ w.heap.size) : Disp lo hi (.iface 112 (.agg #[.bool o])) (0, 1, 0) w :=
  ⟨ht, _, _, 153, .agg #[], rfl, fun _ => by kernel_rfl, cPsu, fun U _ => spPsu_any U⟩
theorem dispInp (lo hi : Nat) (w : World) (ht : hi ≤ w.heap.size) : Disp lo hi (.iface 114 (.agg #[])) (0, 1, 0) w :=
  ⟨ht, _, _, 153, .agg #[], rfl, fun _ => by kernel_rfl, cPsu, fun U _ => spPsu_any U⟩
theorem dispEmp (lo hi : Nat) (w : World) (ht : hi ≤ w.heap.size) : Disp lo hi (.iface 115 (.agg #[])) (0, 1, 0) w :=
  ⟨ht, _, _, 153, .agg #[], rfl, fun _ => by kernel_rfl, cPsu, fun U _ => spPsu_any U⟩
theorem dispRoo (lo hi : Nat) (w : World) (ht : hi ≤ w.heap.size) : Disp lo hi (.iface 116 (.agg #[])) (0, 1, 0) w :=
  ⟨ht, _, _, 153, .agg #[], rfl, fun _ => by kernel_rfl, cPsu, fun U _ => spPsu_any U⟩
theorem dispLin (lo hi : Nat) (w : World) (ht : hi ≤ w.heap.size) : Disp lo hi (.iface 117 (.agg #[])) (0, 1, 0) w :=
  ⟨ht, _, _, 153, .agg #[], rfl, fun _ => by kernel_rfl, cPsu, fun U _ => spPsu_any U⟩
theorem dispLan (v : ByteArray) (lo hi : Nat) (w : World) (ht : hi ≤ w.heap.size) : Disp lo hi (.iface 119 (.agg #[.string v])) (0, 1, 0) w :=
  ⟨ht, _, _, 153, .agg #[], rfl, fun _ => by kernel_rfl, cPsu, fun U _ => spPsu_any U⟩
theorem dispEna (lo hi : Nat) (w : World) (ht : hi ≤ w.heap.size) : Disp lo hi (.iface 120 (.agg #[])) (0, 1, 0) w :=
  ⟨ht, _, _, 153, .agg #[], rfl, fun _ => by kernel_rfl, cPsu, fun U _ => spPsu_any U⟩
theorem dispDis (lo hi : Nat) (w : World) (ht : hi ≤ w.heap.size) : Disp lo hi (.iface 121 (.agg #[])) (0, 1, 0) w :=
  ⟨ht, _, _, 153, .agg #[], rfl, fun _ => by kernel_rfl, cPsu, fun U _ => spPsu_any U⟩
theorem dispChe (lo hi : Nat) (w : World) (ht : hi ≤ w.heap.size) : Disp lo hi (.iface 122 (.agg #[])) (0, 1, 0) w :=
  ⟨ht, _, _, 153, .agg #[], rfl, fun _ => by kernel_rfl, cPsu, fun U _ => spPsu_any U⟩
theorem cComb : ∀ xs U, (callFunc 123 xs).run Tryz.prog U = .ok (.enter 123 xs) U := fun _ _ => by kernel_rfl
theorem cComp : ∀ xs U, (callFunc 144 xs).run Tryz.prog U = .ok (.enter 144 xs) U := fun _ _ => by kernel_rfl
theorem cRel : ∀ xs U, (callFunc 150 xs).run Tryz.prog U = .ok (.enter 150 xs) U := fun _ _ => by kernel_rfl
theorem dispComb (lo hi : Nat) (f g : Value) (c : Nat) (x y : S3) (hx : x.lim) (hy : y.lim) (w : World) (hf : Disp lo hi f x w) (hg : Disp lo hi g y w) :
    Disp lo hi (.iface 62 (.agg #[f, .int .u8 (c : Int), g])) (S3.add x y) w :=
  ⟨hf.1, _, _, 123, .agg #[f, .int .u8 (c : Int), g], rfl, fun _ => by kernel_rfl, cComb, fun U hU => spComb_any lo hi f g c x y hx hy U (hf.next hU) (hg.next hU)⟩
theorem dispComp (lo hi : Nat) (vs : List Value) (sps : List S3) (p : Option Addr) (cp : Nat) (hl : vs.length ≤ 100000) (w : World) (hr : RowS lo hi vs sps p w) (hlim : (sumS sps sps.length).lim) :
    Disp lo hi (.iface 93 (.agg #[.slice p vs.length cp, .string ⟨#[]⟩])) (sumS sps sps.length) w :=
  ⟨hr.top, _, _, 144, .agg #[.slice p vs.length cp, .string ⟨#[]⟩], rfl, fun _ => by kernel_rfl, cComp, fun U hU => spCompound_any lo hi vs sps _ rfl p cp hl U (hr.next hU) hlim⟩
theorem dispRel (lo hi : Nat) (nm : ByteArray) (vs : List Value) (sps : List S3) (p : Option Addr) (cp : Nat) (hl : vs.length ≤ 100000) (w : World) (hr : RowS lo hi vs sps p w) (hlim : ∀ i (hi : i < sps.length), (sps[i]).lim) :
    Disp lo hi (.iface 102 (.agg #[.string nm, .slice p vs.length cp])) (maxS sps sps.length) w :=
  ⟨hr.top, _, _, 150, .agg #[.string nm, .slice p vs.length cp], rfl, fun _ => by kernel_rfl, cRel, fun U hU => spRel_any lo hi nm vs sps _ rfl p cp hl U (hr.next hU) hlim⟩
end Go.Proofs.YtnibpdmbccfgoaaGreatDoor
