/- The reader's methods, whatever it holds: here, taken, digits, comment, spaces. -/
import Derived.Test.YtkdfdfhejibopaaDoorT422
import Derived.Test.YtkdfdfhejibopaaDoorT405
import Derived.Deep.LoopGhost
namespace Go.Proofs.YtkdfdfhejibopaaDoor
open Go.RowKit
set_option linter.unusedVariables false

/-- The reader in memory, whole, refused or not, sure or not; what lies below is as it was. -/
structure RdB (s : ByteArray) (g k : Nat) (bd u : Bool) (B : Nat) (W w : World) : Prop where
  blk : w.heap[g]? = some (.cells #[.string s, .int .i64 (k : Int), .bool bd, .bool u, .bool false] 34 (0, 0))
  old : Below B W w
  base : B ≤ g
theorem RdB.rd {s : ByteArray} {g k : Nat} {bd u : Bool} {B : Nat} {W w : World} (h : RdB s g k bd u B W w) : RdAt s g k w :=
  ⟨by rw [cell_of_row w g 0 _ _ _ h.blk]; rfl, by rw [cell_of_row w g 1 _ _ _ h.blk]; rfl⟩
theorem RdB.c2 {s : ByteArray} {g k : Nat} {bd u : Bool} {B : Nat} {W w : World} (h : RdB s g k bd u B W w) : w.cell? ⟨g, 2, none⟩ = some (.bool bd) := by rw [cell_of_row w g 2 _ _ _ h.blk]; rfl
theorem RdB.c3 {s : ByteArray} {g k : Nat} {bd u : Bool} {B : Nat} {W w : World} (h : RdB s g k bd u B W w) : w.cell? ⟨g, 3, none⟩ = some (.bool u) := by rw [cell_of_row w g 3 _ _ _ h.blk]; rfl
theorem RdB.fz {s : ByteArray} {g k : Nat} {bd u : Bool} {B : Nat} {W w : World} (h : RdB s g k bd u B W w) (j : Nat) : w.frozen? ⟨g, j, none⟩ = false := frozen_of_row w g j _ _ h.blk
theorem RdB.set {s : ByteArray} {g k : Nat} {bd u : Bool} {B : Nat} {W w : World} (h : RdB s g k bd u B W w) (k' : Nat) : RdB s g k' bd u B W (w.setCell ⟨g, 1, none⟩ (.int .i64 (k' : Int))) :=
  ⟨Lib.heap_setCell_same (i := 1) h.blk _, h.old.setCell (p := ⟨g, 1, none⟩) h.base _, h.base⟩
theorem RdB.setI {s : ByteArray} {g k : Nat} {bd u : Bool} {B : Nat} {W w : World} (h : RdB s g k bd u B W w) (k' : Nat) (x : Int) (hx : x = (k' : Int)) : RdB s g k' bd u B W (w.setCell ⟨g, 1, none⟩ (.int .i64 x)) := by
  rw [hx]; exact h.set k'
theorem RdB.setB {s : ByteArray} {g k : Nat} {bd u : Bool} {B : Nat} {W w : World} (h : RdB s g k bd u B W w) (b : Bool) : RdB s g k b u B W (w.setCell ⟨g, 2, none⟩ (.bool b)) :=
  ⟨Lib.heap_setCell_same (i := 2) h.blk _, h.old.setCell (p := ⟨g, 2, none⟩) h.base _, h.base⟩
theorem RdB.setU {s : ByteArray} {g k : Nat} {bd u : Bool} {B : Nat} {W w : World} (h : RdB s g k bd u B W w) (b : Bool) : RdB s g k bd b B W (w.setCell ⟨g, 3, none⟩ (.bool b)) :=
  ⟨Lib.heap_setCell_same (i := 3) h.blk _, h.old.setCell (p := ⟨g, 3, none⟩) h.base _, h.base⟩
theorem RdB.drew {s : ByteArray} {g k : Nat} {bd u : Bool} {B : Nat} {W w : World} (h : RdB s g k bd u B W w) (n : Nat) : RdB s g k bd u B W (w.drewN n) := ⟨h.blk, below_drewN h.old n, h.base⟩
theorem RdB.next {s : ByteArray} {g k : Nat} {bd u : Bool} {B : Nat} {W w w' : World} (h : RdB s g k bd u B W w) (hb : Below w.heap.size w w') : RdB s g k bd u B W w' :=
  ⟨(hb.block g (Array.getElem?_eq_some_iff.1 h.blk).1).trans h.blk, h.old.trans (hb.mono (Nat.le_of_lt (Nat.lt_of_le_of_lt h.base (Array.getElem?_eq_some_iff.1 h.blk).1))), h.base⟩
theorem RdB.made (s : ByteArray) (w : World) : RdB s w.heap.size 0 false false w.heap.size w (w.alloc (.cells #[.string s, .int .i64 0, .bool false, .bool false, .bool false] 34)) :=
  ⟨heap_alloc_new w _, (Below.refl _ _).alloc (Nat.le_refl _) _, Nat.le_refl _⟩

/-- Whether a text stands at a place. -/
def hereT (s t : ByteArray) (k : Nat) : Bool := decide (k + t.size ≤ s.size ∧ s.extract k (k + t.size) = t)

set_option maxRecDepth 100000 in
set_option maxHeartbeats 2000000 in
theorem hereG_any (s t : ByteArray) (ht : t.size ≤ 10) (g k : Nat) (w : World) (hs : s.size ≤ 1000) (hk : k ≤ s.size) (h : RdAt s g k w) :
    Calls Tryd.prog 34 #[.pointer (some ⟨g, 0, none⟩), .string t] w (RdN (.bool (hereT s t k)) w) := by
  obtain ⟨c0, c1⟩ := h
  have hw : IntKind.i64.wrap ((k : Int) + (t.size : Int)) = (k : Int) + (t.size : Int) := IntWalk.i64_in _ ⟨by omega, by omega⟩
  by_cases hlt : k + t.size ≤ s.size
  · have hd : decide ((k : Int) + (t.size : Int) ≤ (s.size : Int)) = true := decide_eq_true (by omega)
    have HV : Hid (decide (s.extract k (k + t.size) = t) = hereT s t k) := by
      rw [Hid]; unfold hereT
      exact decide_eq_decide.2 ⟨fun q => ⟨hlt, q⟩, fun q => q.2⟩
    go_enter Tryd.func34, Tryd.ntmps34
    go_wp2_with fail
    go_quiet (fail)
    go_wp2_with fail
    go_ret
    exact ⟨by rw [← HV.out, ← tl_beq]; rfl, _, by first | rfl | rw [World.drewN_drewN]⟩
  · have hd : decide ((k : Int) + (t.size : Int) ≤ (s.size : Int)) = false := decide_eq_false (by omega)
    have HV : Hid (hereT s t k = false) := by
      rw [Hid]; unfold hereT
      exact decide_eq_false (fun q => hlt q.1)
    go_enter Tryd.func34, Tryd.ntmps34
    go_wp2_with fail
    go_quiet (fail)
    go_wp2_with fail
    go_ret
    exact ⟨by rw [HV.out]; rfl, _, by first | rfl | rw [World.drewN_drewN]⟩

def TkB (b : Bool) (s : ByteArray) (g k : Nat) (bd u : Bool) (B : Nat) (W : World) (e : Ending) (w' : World) : Prop := e = .returned (.bool b) ∧ RdB s g k bd u B W w'

set_option maxRecDepth 100000 in
set_option maxHeartbeats 2000000 in
theorem takenG_no (s t : ByteArray) (ht : t.size ≤ 10) (g k : Nat) (bd u : Bool) (B : Nat) (W w : World) (hs : s.size ≤ 1000) (hk : k ≤ s.size) (h : RdB s g k bd u B W w) (hn : hereT s t k = false) :
    Calls Tryd.prog 28 #[.pointer (some ⟨g, 0, none⟩), .string t] w (TkB false s g k bd u B W) := by
  have HH := Lib.hid (hereG_any s t ht g k w hs hk h.rd)
  rw [hn] at HH
  have HR := Lib.hid h
  clear h hn
  go_enter Tryd.func28, Tryd.ntmps28
  go_wp2_with fail
  refine HH.out.mono ?_
  rintro e w1 ⟨rfl, q, rfl⟩
  have HR1 := Lib.hid (HR.out.drew q)
  go_wp2_with fail
  go_ret
  exact ⟨rfl, HR1.out⟩

set_option maxRecDepth 100000 in
set_option maxHeartbeats 2000000 in
theorem takenG_yes (s t : ByteArray) (ht : t.size ≤ 10) (g k : Nat) (bd u : Bool) (B : Nat) (W w : World) (hs : s.size ≤ 1000) (hk : k ≤ s.size) (h : RdB s g k bd u B W w) (hn : hereT s t k = true) :
    Calls Tryd.prog 28 #[.pointer (some ⟨g, 0, none⟩), .string t] w (TkB true s g (k + t.size) bd u B W) := by
  have HH := Lib.hid (hereG_any s t ht g k w hs hk h.rd)
  rw [hn] at HH
  have HR := Lib.hid h
  obtain ⟨c0, c1⟩ := h.rd
  have f1 := h.fz 1
  clear h hn
  go_enter Tryd.func28, Tryd.ntmps28
  go_wp2_with fail
  refine HH.out.mono ?_
  rintro e w1 ⟨rfl, q, rfl⟩
  have HS := Lib.hid (HR.out.drew q)
  go_wp2_with fail
  go_ret
  exact ⟨rfl, HS.out.setI _ _ (by omega)⟩

/-- One byte, two bytes. -/
theorem here1 {s : ByteArray} {b : UInt8} {k : Nat} : hereT s ⟨#[b]⟩ k = decide (k < s.size ∧ bAt s k = b.toNat) := by
  unfold hereT
  refine decide_eq_decide.2 ?_
  have hsz : (ByteArray.mk #[b]).size = 1 := rfl
  rw [hsz]
  constructor
  · rintro ⟨q1, q2⟩
    refine ⟨by omega, ?_⟩
    have e := bAt_extract (s := s) (a := k) (b := k + 1) (x := 0) (by omega) q1
    rw [q2, Nat.add_zero] at e
    rw [← e]
    rfl
  · rintro ⟨q1, q2⟩
    refine ⟨by omega, ?_⟩
    apply ByteArray.ext
    apply Array.ext
    · have : (s.extract k (k + 1)).data.size = (s.extract k (k + 1)).size := rfl
      rw [this, ByteArray.size_extract, Nat.min_eq_left (by omega)]
      show k + 1 - k = 1
      omega
    · intro i h1 h2
      have h3 : i < 1 := h2
      obtain rfl : i = 0 := by omega
      have : (s.extract k (k + 1))[0]'h1 = s[k + 0] := ByteArray.getElem_extract ..
      have e : (s.extract k (k + 1)).data[0]'h1 = s[k + 0] := this
      rw [e]
      show s[k] = b
      rw [bAt_in q1] at q2
      exact UInt8.toNat_inj.1 q2
theorem here2 {s : ByteArray} {a b : UInt8} {k : Nat} : hereT s ⟨#[a, b]⟩ k = decide (k + 1 < s.size ∧ bAt s k = a.toNat ∧ bAt s (k + 1) = b.toNat) := by
  unfold hereT
  refine decide_eq_decide.2 ?_
  have hsz : (ByteArray.mk #[a, b]).size = 2 := rfl
  rw [hsz]
  constructor
  · rintro ⟨q1, q2⟩
    obtain ⟨r1, r2⟩ := (ext2 q1 a b).1 q2
    exact ⟨by omega, by rw [bAt_in (by omega), r1], by rw [bAt_in (by omega), r2]⟩
  · rintro ⟨q1, q2, q3⟩
    rw [bAt_in (by omega)] at q2
    rw [bAt_in (by omega)] at q3
    exact ⟨by omega, (ext2 (by omega) a b).2 ⟨UInt8.toNat_inj.1 q2, UInt8.toNat_inj.1 q3⟩⟩

def DgPost (s : ByteArray) (g k : Nat) (bd u : Bool) (B : Nat) (W : World) (e : Ending) (w' : World) : Prop :=
  ∃ j, DgTo s k j ∧ e = .returned (.tuple #[.int .i64 ((dgC s k j : Nat) : Int), .bool (decide (0 < j))]) ∧ RdB s g (k + j) bd (u || decide (dgC s k j = 100000)) B W w'

set_option maxRecDepth 100000 in
set_option maxHeartbeats 4000000 in
theorem digits_any (s : ByteArray) (g k : Nat) (bd u : Bool) (B : Nat) (W w : World) (hs : s.size ≤ 1000) (hk : k ≤ s.size) (h : RdB s g k bd u B W w) :
    Calls Tryd.prog 33 #[.pointer (some ⟨g, 0, none⟩)] w (DgPost s g k bd u B W) := by
  have HR := Lib.hid h
  clear h
  go_enter Tryd.func33, Tryd.ntmps33
  go_upto_block 0 with fail
  go_cut [2, 3] (fun v2 v3 wx => ∃ j, DgTo s k j ∧ v2 = .int .i64 ((dgC s k j : Nat) : Int) ∧ v3 = .bool (decide (0 < j)) ∧ RdB s g (k + j) bd u B W wx)
  case first =>
    go_wp2_with fail
    go_loopg [2, 3] (s.size - k) (fun gk v2 v3 wr => ∃ (j C : Nat) (b : Bool), gk = s.size - (k + j) ∧ k + j ≤ s.size ∧ C ≤ 100000 ∧ v2 = .int .i64 (C : Int) ∧ v3 = .bool b ∧ Hid (C = dgC s k j) ∧ Hid (b = decide (0 < j)) ∧ Hid (∀ x, x < j → isDg (bAt s (k + x)) = true) ∧ Hid (RdB s g (k + j) bd u B W wr))
    case atStart => exact ⟨0, 0, false, rfl, hk, by omega, rfl, rfl, rfl, rfl, (fun x hx => absurd hx (Nat.not_lt_zero x)), HR.out⟩
    case round =>
      obtain ⟨j, C, b, rfl, hj, hC, rfl, rfl, HC, HB, HA, HW⟩ := hrel
      have HNx : Hid (∀ U, RdB s g (k + j) bd u B W U → Calls Tryd.prog 27 #[.pointer (some ⟨g, 0, none⟩)] U (RdN (.int .u8 (bAt s (k + j) : Int)) U)) := fun U h => next_any s g (k + j) U (by omega) (by omega) h.rd
      obtain ⟨c, hc⟩ : ∃ c, c = bAt s (k + j) := ⟨_, rfl⟩
      have hc256 : c < 256 := by rw [hc]; exact bAt_lt _ _
      rw [← hc] at HNx
      by_cases hd : 48 ≤ c ∧ c ≤ 57
      · obtain ⟨d1, d2⟩ := hd
        have hlt : k + j < s.size := by
          by_cases q : k + j < s.size
          · exact q
          · rw [bAt_out (by omega)] at hc; omega
        have HC2 : Hid (min (10 * C + (c - 48)) 100000 = dgC s k (j + 1)) := by rw [Hid, HC.out, hc]; rfl
        have HA2 : Hid (∀ x, x < j + 1 → isDg (bAt s (k + x)) = true) := fun x hx => by
          by_cases q : x < j
          · exact HA.out x q
          · have : x = j := by omega
            subst this; rw [← hc, isDg_iff]; exact ⟨d1, d2⟩
        obtain ⟨c0, c1⟩ := HW.out.rd
        have f1 := HW.out.fz 1
        have e8 : IntKind.u8.wrap ((c : Int) - 48) = (c : Int) - 48 := by
          have : (c : Int) - 48 = ((c - 48 : Nat) : Int) := by omega
          unfold IntKind.wrap
          simp [IntKind.bits, IntKind.signed]
          omega
        clear hc
        go_wp2_with fail
        refine (HNx.out _ HW.out).mono ?_
        rintro e1 w1 ⟨rfl, q1, rfl⟩
        have HW1 := Lib.hid (HW.out.drew q1)
        go_wp2_with fail
        refine (HNx.out _ HW1.out).mono ?_
        rintro e1 w1 ⟨rfl, q2, rfl⟩
        have HW2 := Lib.hid (HW.out.drew (q1 + q2))
        go_wp2_with fail
        refine (HNx.out _ HW2.out).mono ?_
        rintro e1 w1 ⟨rfl, q3, rfl⟩
        have HW3 := Lib.hid (HW.out.drew (q1 + q2 + q3))
        go_wp2_with fail
        all_goals
          go_roundg (s.size - (k + (j + 1)))
          case measure => omega
          case rel =>
            refine ⟨j + 1, min (10 * C + (c - 48)) 100000, true, rfl, by omega, Nat.min_le_right _ _, ?_, rfl, HC2, by simp [Hid], HA2, ?_⟩
            · congr 1
              omega
            · have := HW3.out.setI (k + (j + 1)) (((k + j : Nat) : Int) + 1) (by omega)
              simpa [Hid, World.drewN_drewN] using this
      · have HX : Hid (DgTo s k j) := ⟨hj, HA.out, by rw [← hc]; exact (isDg_no c).2 hd⟩
        have hd2 : c < 48 ∨ (48 ≤ c ∧ 57 < c) := by omega
        clear hc hd
        rcases hd2 with d1 | ⟨d1, d2⟩
        · go_wp2_with fail
          refine (HNx.out _ HW.out).mono ?_
          rintro e1 w1 ⟨rfl, q1, rfl⟩
          have HW1 := Lib.hid (HW.out.drew q1)
          go_wp2_with fail
          go_meet
          exact ⟨j, HX.out, by rw [HC.out], by rw [HB.out], HW1.out⟩
        · have m1 : decide ((c : Int) ≤ 57) = false := decide_eq_false (by omega)
          go_wp2_with fail
          refine (HNx.out _ HW.out).mono ?_
          rintro e1 w1 ⟨rfl, q1, rfl⟩
          have HW1 := Lib.hid (HW.out.drew q1)
          go_wp2_with fail
          refine (HNx.out _ HW1.out).mono ?_
          rintro e1 w1 ⟨rfl, q2, rfl⟩
          have HW2 := Lib.hid (HW.out.drew (q1 + q2))
          go_wp2_with fail
          go_meet
          refine ⟨j, HX.out, by rw [HC.out], by rw [HB.out], ?_⟩
          have := HW2.out
          simpa [World.drewN_drewN] using this
  case rest =>
    obtain ⟨j, hx, rfl, rfl, hr⟩ := hcut
    have HX := Lib.hid hx
    have HW := Lib.hid hr
    obtain ⟨C, hC⟩ : ∃ C, C = dgC s k j := ⟨_, rfl⟩
    have hC1 : C ≤ 100000 := by rw [hC]; exact dgC_le _ _ _
    rw [← hC]
    have HC := Lib.hid hC
    have c3 := hr.c3
    have f3 := hr.fz 3
    have HS0 := Lib.hid (hr.setU true)
    have HS1 := Lib.hid (hr.setU false)
    clear hx hr hC
    cases u
    · by_cases h5 : C = 100000
      · have m0 : ((C : Int) == 100000) = true := beq_iff_eq.2 (by omega)
        have H5 := Lib.hid h5
        clear h5
        go_wp2_with fail
        go_ret2
        exact ⟨j, HX.out, by rw [← HC.out]; rfl, by rw [← HC.out, decide_eq_true H5.out]; exact HS0.out⟩
      · have m0 : ((C : Int) == 100000) = false := beq_eq_false_iff_ne.2 (by omega)
        have H5 := Lib.hid h5
        clear h5
        go_wp2_with fail
        go_ret2
        exact ⟨j, HX.out, by rw [← HC.out]; rfl, by rw [← HC.out, decide_eq_false H5.out]; exact HS1.out⟩
    · go_wp2_with fail
      go_ret2
      exact ⟨j, HX.out, by rw [← HC.out]; rfl, by simpa using HS0.out⟩
end Go.Proofs.YtkdfdfhejibopaaDoor
