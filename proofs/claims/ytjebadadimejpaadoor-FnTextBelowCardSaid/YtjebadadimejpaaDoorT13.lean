/- A right tree grows: the walk. -/
import Derived.Test.YtjebadadimejpaaDoorT12
namespace Go.Proofs.YtjebadadimejpaaDoor
open Go.RowKit
set_option linter.unusedVariables false

/-- The list of nodes, from a on up to k filled. -/
def Filled (bl : Nat → Nat) (a k : Nat) (cur cur' : Array Value) : Prop :=
  cur'.size = cur.size ∧ ∀ j, j < cur.size → cur'[j]? = if a ≤ j ∧ j < k then some (ptrTo bl (some j)) else cur[j]?

/-- What has grown from a on, up to k. -/
structure Grew (t : List Nd) (a k L : Nat) (cur : Array Value) (w wr : World) (bl : Nat → Nat) (st : Nat → Dn) (cur' : Array Value) : Prop where
  dom : Dom wr w.heap.size (fun i => a ≤ i ∧ i < k) bl st
  kin : Kin t a k st
  row : wr.heap[L]? = some (.cells cur' 39 (0, 0))
  fill : Filled bl a k cur cur'
  frame : w.grownBy wr (some L)

def GrowPost (t : List Nd) (a L : Nat) (cur : Array Value) (w : World) (e : Ending) (w' : World) : Prop :=
  e = .returned (.tuple #[]) ∧ ∃ bl st cur', Grew t a (a + sz t a) L cur w w' bl st cur'

def GrowRel (t : List Nd) (a L : Nat) (cur : Array Value) (w : World) (x : Value) (wr : World) : Prop :=
  ∃ (k : Nat) (bl : Nat → Nat) (st : Nat → Dn) (cur' : Array Value), a + 1 ≤ k ∧ k ≤ a + sz t a ∧ x = .int .i64 k ∧ Lam t (a + 1) k ∧ Grew t a k L cur w wr bl st cur'

theorem grown_below {w w' : World} {L B : Nat} (h : w.grownBy w' (some L)) (hB : B ≤ L) (hL : B ≤ w.heap.size) : Below B w w' :=
  ⟨h.os, h.tape, h.output, h.size, fun k hk => h.block k (by omega) (fun e => by cases e; omega)⟩

theorem Lam.node_at {t : List Nd} {lo hi k : Nat} (h : Lam t lo hi) (hk : lo ≤ k) (hkt : k < hi) : Lam t k (k + sz t k) := by
  obtain ⟨a1, a2, a3, a4⟩ := h k hk hkt
  intro i hi1 hi2
  obtain ⟨b1, b2, b3, b4⟩ := h i (by omega) (by omega)
  refine ⟨b1, b2, ?_, b4⟩
  by_cases e : i = k
  · subst e; exact Nat.le_refl _
  · exact a4 i (by omega) hi2

set_option maxRecDepth 100000 in
set_option maxHeartbeats 2000000 in
theorem grow_any (ad : Option Addr) (c : Nat) (t : List Nd) (hR : RightP t) (B0 L : Nat) (d : Nat) : ∀ (a : Nat) (I : Int) (cur : Array Value) (w : World), I = a → a < t.length → sz t a ≤ d → NSl w B0 ad t → B0 ≤ L → L < w.heap.size →
    w.heap[L]? = some (.cells cur 39 (0, 0)) → cur.size = t.length →
    Calls Tryd.prog 25 #[.slice ad t.length c, .int .i64 I, .slice (some ⟨L, 0, none⟩) t.length t.length] w (GrowPost t a L cur w) := by
  induction d with
  | zero =>
    rintro a I cur w rfl ha hd
    have := (hR.lam a (by omega) ha).2.1
    omega
  | succ d ih =>
    rintro a I cur w rfl ha hd h hBL hLw hcur hcs
    have hle := hR.le
    have hla := hR.lam a (by omega) ha
    have hl1 := hla.2.1
    have hl2 := hla.2.2.1
    obtain ⟨b, o, rfl, hbB, hc⟩ := h.at_ (by omega)
    obtain ⟨g1, g2, g3, g4, g5, hok⟩ := hc a ha
    rw [size_at ha hla.1] at g5
    have HOK := Lib.hid (hok.more (show B0 ≤ w.heap.size by omega))
    have HC := Lib.hid hc
    have HH := Lib.hid h
    have HI := Lib.hid ih
    have HR := Lib.hid hR
    have HCur := Lib.hid hcur
    have HCS := Lib.hid hcs
    clear hcs hla hok hc h ih hR hcur
    go_enter Tryd.func25, Tryd.ntmps25
    go_wp2_with fail
    refine (alone_any t a ha HR.out _ HOK.out _ (size_at ha (HR.out.lam a (by omega) ha).1).symm).mono ?_
    rintro e w1 ⟨g, aa, ac, rfl, hg, hblk, hown, hb⟩
    have hL1 : w1.heap[L]? = some (.cells cur 39 (0, 0)) := (hb.block L hLw).trans HCur.out
    have hgl : g < w1.heap.size := (Array.getElem?_eq_some_iff.1 hblk).1
    have hca : a < cur.size := by rw [HCS.out]; exact ha
    have cL := cell_of_row w1 L a _ _ _ hL1
    rw [Array.getElem?_eq_getElem hca] at cL
    have fL := frozen_of_row w1 L a _ _ hL1
    have hgr : w.grownBy (w1.setCell ⟨L, a, none⟩ (.pointer (some ⟨g, 0, none⟩))) (some L) :=
      ⟨hb.os, hb.tape, hb.output, by simpa [World.setCell] using hb.size, fun q hq hqL => (Below.heap_setCell _ _ _ _ (fun e => hqL (by rw [e]))).trans (hb.block q hq)⟩
    have hG : Grew t a (a + 1) L cur w (w1.setCell ⟨L, a, none⟩ (.pointer (some ⟨g, 0, none⟩))) (fun _ => g) (fun _ => ⟨none, none, none, none, none, typOf t[a].kind, datOf t[a], atsOf t[a]⟩) (cur.setIfInBounds a (.pointer (some ⟨g, 0, none⟩))) := by
      refine ⟨⟨fun i hi => ⟨hg, aa, ac, ?_, ?_⟩, fun i j hi hj _ => by omega⟩, kin_one t a _ ⟨by rw [getD_at ha], by rw [getD_at ha], by rw [getD_at ha]⟩ rfl rfl rfl rfl rfl, heap_setCell_same w1 L a _ _ _ hL1, ⟨by simp, fun j hj => ?_⟩, hgr⟩
      · rw [Below.heap_setCell _ _ _ _ (show g ≠ L by omega)]; exact hblk
      · exact own_setCell (own_base hown (by omega)) (fun e => by have := (hown.lt _ e).1; simp at this; omega) _
      · by_cases e : j = a
        · subst e
          rw [if_pos (by omega)]
          simp [ptrTo, hj]
        · rw [if_neg (by omega)]
          rw [Array.getElem?_setIfInBounds_ne (by omega)]
    have HG := Lib.hid hG
    have g5a : (w1.setCell ⟨L, a, none⟩ (.pointer (some ⟨g, 0, none⟩))).cell? ⟨b, o + a * 5 + 4, none⟩ = some (.int .i64 (sz t a : Int)) :=
      ((grown_below hgr hBL (by omega)).cell (p := ⟨b, _, none⟩) hbB).trans g5
    clear hG hgr hL1 hblk hown hb hgl
    generalize hcv : cur[a] = cv at cL
    clear hcv
    go_wp2_with fail
    go_loopw [6] (fun x wr => GrowRel t a L cur w x wr) (fun x _ => a + sz t a - (intOf x).toNat)
    case atStart => exact ⟨a + 1, _, _, _, by omega, by omega, by go_num, Lam.empty _ _, HG.out⟩
    case round =>
      clear cL fL g5a HG
      obtain ⟨k, bl, st, cur', hk1, hk2, rfl, hlam, hG⟩ := hrel
      have HLam := Lib.hid hlam
      clear hlam
      have hbel := grown_below hG.frame hBL (by omega)
      have g5' := (hbel.cell (p := ⟨b, _, none⟩) hbB).trans g5
      have hwsz := hG.frame.size
      by_cases hlt : k < a + sz t a
      · have hkt : k < t.length := by omega
        have hlk := HR.out.lam k (by omega) hkt
        have hl3 := hlk.2.1
        have hl4 : k + sz t k ≤ a + sz t a := (HR.out.lam a (by omega) ha).2.2.2 k (by omega) hlt
        have g6 := (HC.out k hkt).2.2.2.2.1
        rw [size_at hkt hlk.1] at g6
        have HG := Lib.hid hG
        have HBEL := Lib.hid hbel
        clear hlk hG hbel
        go_wp2_with fail
        refine (HI.out k _ cur' _ rfl hkt (by omega) (HH.out.below HBEL.out) hBL (by omega) HG.out.row (HG.out.fill.1.trans HCS.out)).mono ?_
        rintro e w1 ⟨rfl, bl2, st2, cur2, hG2⟩
        have hlk2 : Lam t k (k + sz t k) := HR.out.lam.node_at (Nat.zero_le k) hkt
        have hD : Dom w1 w.heap.size (fun i => a ≤ i ∧ i < k + sz t k) (joinF k bl bl2) (joinF k st st2) := by
          refine Dom.join (by omega) (HG.out.dom.kept (fun q hq1 hq2 => hG2.frame.block q hq2 (fun e => by cases e; omega))) hG2.dom hwsz (fun i hi1 hi2 => HG.out.dom.lt ⟨hi1, hi2⟩) (kin_in HLam.out HG.out.kin) (kin_in (hlk2.from_ (by omega)) hG2.kin)
        have hK := kin_step (by omega) HLam.out hl3 HG.out.kin hG2.kin
        have hcur2 : cur2.size = t.length := hG2.fill.1.trans (HG.out.fill.1.trans HCS.out)
        have hcs2 : cur'.size = t.length := HG.out.fill.1.trans HCS.out
        have c1 : w1.cell? ⟨L, a, none⟩ = some (.pointer (some ⟨joinF k bl bl2 a, 0, none⟩)) := by
          rw [cell_of_row w1 L a _ _ _ hG2.row, hG2.fill.2 a (by omega), if_neg (by omega), HG.out.fill.2 a hca, if_pos (by omega), joinF_lo (by omega)]; rfl
        have c2 : w1.cell? ⟨L, k, none⟩ = some (.pointer (some ⟨joinF k bl bl2 k, 0, none⟩)) := by
          rw [cell_of_row w1 L k _ _ _ hG2.row, hG2.fill.2 k (by omega), if_pos (by omega), joinF_hi (Nat.le_refl _)]; rfl
        have hA := append_any w1.drew w.heap.size (fun i => a ≤ i ∧ i < k + sz t k) (joinF k bl bl2) (joinF k st st2) (hD.kept (fun _ _ _ => rfl)) a k ⟨Nat.le_refl _, by omega⟩ ⟨by omega, by omega⟩ (by omega)
          (by rw [joinF_hi (Nat.le_refl _)]; exact ((hG2.kin k (Nat.le_refl _) (by omega)).1.root rfl).1) (by rw [joinF_hi (Nat.le_refl _)]; exact ((hG2.kin k (Nat.le_refl _) (by omega)).1.root rfl).2.1) (by rw [joinF_hi (Nat.le_refl _)]; exact ((hG2.kin k (Nat.le_refl _) (by omega)).1.root rfl).2.2)
          (fun q hq => by
            rw [joinF_lo (by omega)] at hq
            have h2 := (HG.out.kin a (Nat.le_refl _) (by omega)).1
            by_cases h1 : 1 < extK t a k a
            · obtain ⟨m, m1, m2, _⟩ := h2.lst1 h1
              rw [m1] at hq; cases hq
              have h3 := m2.2.1
              have h4 := m2.2.2.1
              rw [extK_root] at h4
              exact ⟨⟨by omega, by omega⟩, by omega, by omega⟩
            · rw [h2.lst0 h1] at hq; cases hq)
        have HA := Lib.hid hA
        have HD := Lib.hid hD
        have HK := Lib.hid hK
        have HG2 := Lib.hid hG2
        clear hA hD hK hG2 hlk2 hcur2 hcs2
        go_wp2_with fail
        go_still_tail 8, (by kernel_rfl)
        change wpList _ _ _ _ _ w1.drew
        go_wp2_with fail
        refine HA.out.mono ?_
        rintro e w2 ⟨rfl, hD2, hO⟩
        have hblk : ∀ i, (a ≤ i ∧ i < k + sz t k) → w.heap.size ≤ joinF k bl bl2 i := fun i hi => (HD.out.node i hi).1
        have hfr : w.grownBy w2 (some L) := by
          refine ⟨hO.os.trans (HG2.out.frame.os.trans HG.out.frame.os), hO.tape.trans (HG2.out.frame.tape.trans HG.out.frame.tape), hO.output.trans (HG2.out.frame.output.trans HG.out.frame.output), ?_, fun q hq hqL => ?_⟩
          · have := HG2.out.frame.size; have := hO.size; rw [this]; show _ ≤ w1.heap.size; omega
          · rw [hO.block q (fun i hi e => by have := hblk i hi; omega)]
            exact (HG2.out.frame.block q (by omega) hqL).trans (HG.out.frame.block q hq hqL)
        have hG3 : Grew t a (k + sz t k) L cur w w2 (joinF k bl bl2) (appSt (joinF k st st2) a k) cur2 := by
          refine ⟨hD2, HK.out, ?_, ⟨HG2.out.fill.1.trans HG.out.fill.1, fun j hj => ?_⟩, hfr⟩
          · rw [hO.block L (fun i hi e => by have := hblk i hi; omega)]; exact HG2.out.row
          · rw [HG2.out.fill.2 j (by rw [HG.out.fill.1]; exact hj)]
            by_cases e1 : k ≤ j ∧ j < k + sz t k
            · rw [if_pos e1, if_pos (by omega)]
              simp [ptrTo, joinF_hi e1.1]
            · rw [if_neg e1, HG.out.fill.2 j hj]
              by_cases e2 : a ≤ j ∧ j < k
              · rw [if_pos e2, if_pos (by omega)]
                simp [ptrTo, joinF_lo e2.2]
              · rw [if_neg e2, if_neg (by omega)]
        have g6' := ((grown_below hfr hBL (by omega)).cell (p := ⟨b, _, none⟩) hbB).trans g6
        have HG3 := Lib.hid hG3
        have HL3 : Hid (Lam t (a + 1) (k + sz t k)) := HLam.out.snoc (HR.out.lam.node_at (Nat.zero_le k) hkt)
        clear hD2 hO hblk hfr hG3
        go_wp2_with fail
        go_roundw
        case rel => exact ⟨k + sz t k, _, _, _, by omega, by omega, by go_num, HL3.out, HG3.out⟩
        case measure => simp [intOf]; omega
      · go_wp2_with fail
        go_end0
        have e : k = a + sz t a := by omega
        subst e
        exact ⟨rfl, bl, st, cur', hG⟩
end Go.Proofs.YtjebadadimejpaaDoor
