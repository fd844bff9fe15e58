/- The parser's escape: errors.New, hexDigit, (*parser).parseEscape. -/
import Derived.Test.YtnibpdmbccfgoaaGreatDoorJ3
import Derived.Lib.AtoiErrMem
namespace Go.Proofs.YtnibpdmbccfgoaaGreatDoor
open Go.RowKit
set_option linter.unusedVariables false

/-- An error that is none of nil. -/
def ErrV (v : Value) : Prop := ∃ p, v = .iface 63 (.pointer p)
def ErrP (w : World) (e : Ending) (w' : World) : Prop := ∃ v, ErrV v ∧ e = .returned v ∧ Below w.heap.size w w'

set_option maxRecDepth 100000 in
theorem errNew_any (s : ByteArray) (w : World) : Calls Tryz.prog 21 #[.string s] w (ErrP w) := by
  go_enter Tryz.func21, Tryz.ntmps21
  go_wp2_with fail
  go_ret
  exact ⟨_, ⟨_, rfl⟩, rfl, (Below.refl _ _).alloc (Nat.le_refl _) _⟩

def HxP (c : Nat) (w : World) (e : Ending) (w' : World) : Prop := e = .returned (.bool (isHx c)) ∧ w = w'

set_option maxRecDepth 100000 in
set_option maxHeartbeats 1000000 in
theorem hexDigit_any (c : Nat) (hc : c < 256) (w : World) : Calls Tryz.prog 71 #[.int .u8 (c : Int)] w (HxP c w) := by
  have hcases : (c < 48) ∨ (48 ≤ c ∧ c ≤ 57) ∨ (57 < c ∧ c < 65) ∨ (65 ≤ c ∧ c ≤ 70) ∨ (70 < c ∧ c < 97) ∨ (97 ≤ c ∧ c ≤ 102) ∨ (102 < c) := by omega
  rcases hcases with h | h | h | h | h | h | h
  all_goals
    have HV : Hid (isHx c = (decide (48 ≤ c ∧ c ≤ 57) || decide (97 ≤ c ∧ c ≤ 102) || decide (65 ≤ c ∧ c ≤ 70))) := by
      rw [Hid, Bool.eq_iff_iff, isHx_iff]; simp [or_assoc]
    go_enter Tryz.func71, Tryz.ntmps71
    go_wp2_with fail
    go_ret
    exact ⟨ret_b (by rw [HV.out, Bool.eq_iff_iff]; simp; try omega), rfl⟩

/-- The parser in memory, whole; what lies below is as it was. -/
structure PrW (s : ByteArray) (g i : Nat) (D P : Value) (B : Nat) (W w : World) : Prop where
  blk : w.heap[g]? = some (.cells #[.string s, .int .i64 (i : Int), D, P] 51 (0, 0))
  old : Below B W w
  base : B ≤ g
theorem PrW.c0 {s : ByteArray} {g i : Nat} {D P : Value} {B : Nat} {W w : World} (h : PrW s g i D P B W w) : w.cell? ⟨g, 0, none⟩ = some (.string s) := by rw [cell_of_row w g 0 _ _ _ h.blk]; rfl
theorem PrW.c1 {s : ByteArray} {g i : Nat} {D P : Value} {B : Nat} {W w : World} (h : PrW s g i D P B W w) : w.cell? ⟨g, 1, none⟩ = some (.int .i64 (i : Int)) := by rw [cell_of_row w g 1 _ _ _ h.blk]; rfl
theorem PrW.fz {s : ByteArray} {g i : Nat} {D P : Value} {B : Nat} {W w : World} (h : PrW s g i D P B W w) (j : Nat) : w.frozen? ⟨g, j, none⟩ = false := frozen_of_row w g j _ _ h.blk
theorem PrW.set {s : ByteArray} {g i : Nat} {D P : Value} {B : Nat} {W w : World} (h : PrW s g i D P B W w) (i' : Nat) : PrW s g i' D P B W (w.setCell ⟨g, 1, none⟩ (.int .i64 (i' : Int))) :=
  ⟨Lib.heap_setCell_same (i := 1) h.blk _, h.old.setCell (p := ⟨g, 1, none⟩) h.base _, h.base⟩
theorem PrW.setI {s : ByteArray} {g i : Nat} {D P : Value} {B : Nat} {W w : World} (h : PrW s g i D P B W w) (i' : Nat) (x : Int) (hx : x = (i' : Int)) : PrW s g i' D P B W (w.setCell ⟨g, 1, none⟩ (.int .i64 x)) := by
  rw [hx]; exact h.set i'
theorem PrW.drew {s : ByteArray} {g i : Nat} {D P : Value} {B : Nat} {W w : World} (h : PrW s g i D P B W w) (n : Nat) : PrW s g i D P B W (w.drewN n) := ⟨h.blk, below_drewN h.old n, h.base⟩
theorem PrW.next {s : ByteArray} {g i : Nat} {D P : Value} {B : Nat} {W w w' : World} (h : PrW s g i D P B W w) (hb : Below w.heap.size w w') : PrW s g i D P B W w' :=
  ⟨(hb.block g (Array.getElem?_eq_some_iff.1 h.blk).1).trans h.blk, h.old.trans (hb.mono (Nat.le_of_lt (Nat.lt_of_le_of_lt h.base (Array.getElem?_eq_some_iff.1 h.blk).1))), h.base⟩

/-- What an escape is to the parser: i is the backslash's place. -/
def PEscIs (s : ByteArray) (i : Nat) (out : ByteArray) (i' : Nat) : Prop :=
  ∃ j, HxTo s (i + 1) j ∧ (j = 0 → out = s.extract (i + 1) (i + 2) ∧ i' = i + 2) ∧
    (0 < j → i' = wsEnd s (i + 1 + j) ∧ out = Utf8.encode ((hxV s (i + 1) j : Nat) : Int))

def PEscNo (s : ByteArray) (g : Nat) (D P : Value) (B : Nat) (W : World) (e : Ending) (w' : World) : Prop :=
  ∃ (v x : Value) (i' : Nat), ErrV v ∧ e = .returned (.tuple #[x, v]) ∧ PrW s g i' D P B W w'
def PEscYes (s : ByteArray) (g i : Nat) (D P : Value) (B : Nat) (W : World) (e : Ending) (w' : World) : Prop :=
  ∃ (out : ByteArray) (i' : Nat), e = .returned (.tuple #[.string out, .nilIface]) ∧ PrW s g i' D P B W w' ∧ i' ≤ s.size ∧ PEscIs s i out i'

theorem escAt_no {s : ByteArray} {k : Nat} (h : escAt s k = false) : (s.size < k + 2) ∨ (k + 1 < s.size ∧ bAt s k ≠ 92) ∨ (k + 1 < s.size ∧ bAt s k = 92 ∧ (bAt s (k + 1) = 13 ∨ bAt s (k + 1) = 10 ∨ bAt s (k + 1) = 12)) := by
  have h2 : ¬ (k + 1 < s.size ∧ bAt s k = 92 ∧ bAt s (k + 1) ≠ 10 ∧ bAt s (k + 1) ≠ 13 ∧ bAt s (k + 1) ≠ 12) := fun q => by rw [(escAt_iff s k).2 q] at h; cases h
  omega

set_option maxRecDepth 100000 in
set_option maxHeartbeats 4000000 in
theorem pEscNo_any (s : ByteArray) (g i : Nat) (D P : Value) (B : Nat) (W w : World) (hs : s.size ≤ 2147483647) (hi : i ≤ s.size) (hE : escAt s i = false) (h : PrW s g i D P B W w) :
    Calls Tryz.prog 63 #[.pointer (some ⟨g, 0, none⟩)] w (PEscNo s g D P B W) := by
  have HR := Lib.hid h
  have c0 := h.c0
  have c1 := h.c1
  have e2 : IntKind.i64.wrap ((i : Int) + 2) = ((i : Int) + 2) := IntWalk.i64_in ((i : Int) + 2) ⟨by omega, by omega⟩
  clear h
  rcases escAt_no hE with q | ⟨q, q2⟩ | ⟨q, q2, q3⟩
  · have hd : decide ((s.size : Int) < (i : Int) + 2) = true := decide_eq_true (by omega)
    clear hE
    go_enter Tryz.func63, Tryz.ntmps63
    go_wp2_with fail
    go_quiet (fail)
    go_wp2_with fail
    refine (errNew_any _ _).mono ?_
    rintro e1 w1 ⟨v, hv, rfl, hb⟩
    have HB := Lib.hid hb
    have HE := Lib.hid hv
    clear hb hv
    go_wp2_with fail
    go_ret2
    exact ⟨v, _, i, HE.out, rfl, (HR.out.drew _).next HB.out⟩
  · have hd : decide ((s.size : Int) < (i : Int) + 2) = false := decide_eq_false (by omega)
    rw [bAt_in (by omega : i < s.size)] at q2
    have hn : ((s[i].toNat : Int) != 92) = true := by simp; omega
    have hlt : i < s.size := by omega
    clear hE q2
    go_enter Tryz.func63, Tryz.ntmps63
    go_wp2_with fail
    go_quiet (fail)
    go_wp2_with fail
    refine (errNew_any _ _).mono ?_
    rintro e1 w1 ⟨v, hv, rfl, hb⟩
    have HB := Lib.hid hb
    have HE := Lib.hid hv
    clear hb hv
    go_wp2_with fail
    go_ret2
    exact ⟨v, _, i, HE.out, rfl, (HR.out.drew _).next HB.out⟩
  · have hd : decide ((s.size : Int) < (i : Int) + 2) = false := decide_eq_false (by omega)
    rw [bAt_in (by omega : i < s.size)] at q2
    rw [bAt_in (by omega : i + 1 < s.size)] at q3
    have hn : ((s[i].toNat : Int) != 92) = false := by simp; omega
    have e1 : IntKind.i64.wrap ((i : Int) + 1) = ((i : Int) + 1) := IntWalk.i64_in ((i : Int) + 1) ⟨by omega, by omega⟩
    have hlt : i < s.size := by omega
    clear hE q2
    rcases q3 with q3 | q3 | q3
    ·
      have n13 : ((s[i + 1].toNat : Int) == 13) = true := beq_iff_eq.2 (by omega)
      clear q3
      go_enter Tryz.func63, Tryz.ntmps63
      go_wp2_with fail
      go_quiet (fail)
      go_wp2_with fail
      refine (errNew_any _ _).mono ?_
      rintro e1 w1 ⟨v, hv, rfl, hb⟩
      have HB := Lib.hid hb
      have HE := Lib.hid hv
      clear hb hv
      go_wp2_with fail
      go_ret2
      exact ⟨v, _, i, HE.out, rfl, (HR.out.drew _).next HB.out⟩
    ·
      have n13 : ((s[i + 1].toNat : Int) == 13) = false := beq_eq_false_iff_ne.2 (by omega)
      have n10 : ((s[i + 1].toNat : Int) == 10) = true := beq_iff_eq.2 (by omega)
      clear q3
      go_enter Tryz.func63, Tryz.ntmps63
      go_wp2_with fail
      go_quiet (fail)
      go_wp2_with fail
      refine (errNew_any _ _).mono ?_
      rintro e1 w1 ⟨v, hv, rfl, hb⟩
      have HB := Lib.hid hb
      have HE := Lib.hid hv
      clear hb hv
      go_wp2_with fail
      go_ret2
      exact ⟨v, _, i, HE.out, rfl, (HR.out.drew _).next HB.out⟩
    ·
      have n13 : ((s[i + 1].toNat : Int) == 13) = false := beq_eq_false_iff_ne.2 (by omega)
      have n10 : ((s[i + 1].toNat : Int) == 10) = false := beq_eq_false_iff_ne.2 (by omega)
      have n12 : ((s[i + 1].toNat : Int) == 12) = true := beq_iff_eq.2 (by omega)
      clear q3
      go_enter Tryz.func63, Tryz.ntmps63
      go_wp2_with fail
      go_quiet (fail)
      go_wp2_with fail
      refine (errNew_any _ _).mono ?_
      rintro e1 w1 ⟨v, hv, rfl, hb⟩
      have HB := Lib.hid hb
      have HE := Lib.hid hv
      clear hb hv
      go_wp2_with fail
      go_ret2
      exact ⟨v, _, i, HE.out, rfl, (HR.out.drew _).next HB.out⟩

/-- Behind the digits. -/
def PEscL (s : ByteArray) (g i : Nat) (D P : Value) (B : Nat) (W : World) (x : Value) (wx : World) : Prop :=
  ∃ j : Nat, x = .int .i64 ((i + 1 + j : Nat) : Int) ∧ HxTo s (i + 1) j ∧ PrW s g i D P B W wx

set_option maxRecDepth 100000 in
set_option maxHeartbeats 4000000 in
theorem pEscYes_any (s : ByteArray) (g i : Nat) (D P : Value) (B : Nat) (W w : World) (hs : s.size ≤ 2147483647) (hE : escAt s i = true) (h : PrW s g i D P B W w) :
    Calls Tryz.prog 63 #[.pointer (some ⟨g, 0, none⟩)] w (PEscYes s g i D P B W) := by
  have HR := Lib.hid h
  have c0 := h.c0
  have c1 := h.c1
  rw [escAt_iff] at hE
  obtain ⟨q, q2, q3, q4, q5⟩ := hE
  have hlt : i < s.size := by omega
  have e2 : IntKind.i64.wrap ((i : Int) + 2) = ((i : Int) + 2) := IntWalk.i64_in ((i : Int) + 2) ⟨by omega, by omega⟩
  have e1 : IntKind.i64.wrap ((i : Int) + 1) = ((i : Int) + 1) := IntWalk.i64_in ((i : Int) + 1) ⟨by omega, by omega⟩
  have hd : decide ((s.size : Int) < (i : Int) + 2) = false := decide_eq_false (by omega)
  rw [bAt_in hlt] at q2
  have hn : ((s[i].toNat : Int) != 92) = false := by simp; omega
  obtain ⟨c, hc⟩ : ∃ c : Nat, c = bAt s (i + 1) := ⟨_, rfl⟩
  have hc2 : c = s[i + 1].toNat := by rw [hc, bAt_in q]
  have n1 : ((c : Int) == 13) = false := beq_eq_false_iff_ne.2 (by omega)
  have n2 : ((c : Int) == 10) = false := beq_eq_false_iff_ne.2 (by omega)
  have n3 : ((c : Int) == 12) = false := beq_eq_false_iff_ne.2 (by omega)
  have hc256 : c < 256 := by rw [hc]; exact bAt_lt _ _
  have HC := Lib.hid hc
  have HH := Lib.hid (fun U => hexDigit_any c hc256 U)
  obtain ⟨bx, hbx⟩ : ∃ bx, bx = isHx c := ⟨_, rfl⟩
  have HBx := Lib.hid hbx
  unfold HxP at HH
  rw [← hbx] at HH
  clear h q2 q3 q4 q5 hc hbx
  go_enter Tryz.func63, Tryz.ntmps63
  go_wp2_with fail
  go_quiet (fail)
  go_upto_region 4 with fail
  go_cut [5] (fun x wx => x = .int .u8 (c : Int) ∧ PrW s g i D P B W wx)
  case first =>
    go_wp2_with fail
    go_meet
    exact ⟨by rw [hc2], HR.out.drew _⟩
  case rest =>
    obtain ⟨rfl, hr⟩ := hcut
    have HR2 := Lib.hid hr
    clear hr hc2 hd hn
    have c0' := HR2.out.c0
    have c1' := HR2.out.c1
    go_wp2_with fail
    refine (HH.out _).mono ?_
    rintro e5 w5 ⟨rfl, rfl⟩
    cases bx
    · have f1 := HR2.out.fz 1
      have HS := Lib.hid (HR2.out.set (i + 2))
      have HXT : Hid (HxTo s (i + 1) 0) := ⟨by omega, by omega, fun x hx => absurd hx (Nat.not_lt_zero x), fun _ _ => by rw [Nat.add_zero, ← HC.out, ← HBx.out]⟩
      go_wp2_with fail
      go_ret2
      exact ⟨_, i + 2, rfl, HS.out, by omega, 0, HXT.out, fun _ => ⟨rfl, rfl⟩, fun h => absurd h (by omega)⟩
    · have H0 : Hid (isHx (bAt s (i + 1)) = true) := by rw [Hid, ← HC.out, ← HBx.out]
      clear HH HC HBx n1 n2 n3
      go_upto_block 1 with fail
      go_cut [6] (fun x wx => PEscL s g i D P B W x wx)
      case first =>
        go_wp2_with fail
        go_loopw [6] (fun x wr => ∃ j : Nat, x = .int .i64 ((i + 1 + j : Nat) : Int) ∧ j ≤ 6 ∧ i + 1 + j ≤ s.size ∧ Hid (∀ x, x < j → isHx (bAt s (i + 1 + x)) = true) ∧ Hid (PrW s g i D P B W wr)) (fun x _ => i + 1 + 6 - (intOf x).toNat)
        case atStart => exact ⟨0, by go_num, by omega, by omega, fun x hx => absurd hx (Nat.not_lt_zero x), HR2.out⟩
        case round =>
          obtain ⟨j, rfl, hj, hle, HA, HRj⟩ := hrel
          clear c0 c1 c0' c1'
          have c0 := HRj.out.c0
          have c1 := HRj.out.c1
          by_cases h6 : j < 6
          · by_cases hlt2 : i + 1 + j < s.size
            · have hc256 := bAt_lt s (i + 1 + j)
              have HH := Lib.hid (fun U => hexDigit_any (bAt s (i + 1 + j)) hc256 U)
              have hb := bAt_in hlt2
              obtain ⟨b, hbe⟩ : ∃ b, b = isHx (bAt s (i + 1 + j)) := ⟨_, rfl⟩
              have HBe := Lib.hid hbe
              unfold HxP at HH
              rw [← hbe, hb] at HH
              clear hbe hb hc256
              go_wp2_with fail
              refine (HH.out _).mono ?_
              rintro e5 w5 ⟨rfl, rfl⟩
              cases b
              · have HXT : Hid (HxTo s (i + 1) j) := ⟨hj, hle, HA.out, fun _ _ => HBe.out.symm⟩
                go_wp2_with fail
                go_meet
                exact ⟨j, rfl, HXT.out, HRj.out⟩
              · have HA2 : Hid (∀ x, x < j + 1 → isHx (bAt s (i + 1 + x)) = true) := fun x hxx => by
                  by_cases q : x < j
                  · exact HA.out x q
                  · have : x = j := by omega
                    subst this; exact HBe.out.symm
                go_wp2_with fail
                go_roundw
                case rel => exact ⟨j + 1, by go_num, by omega, by omega, HA2.out, HRj.out⟩
                case measure => simp [intOf]; omega
            · have HXT : Hid (HxTo s (i + 1) j) := ⟨hj, hle, HA.out, fun _ q => absurd q hlt2⟩
              go_wp2_with fail
              go_meet
              exact ⟨j, rfl, HXT.out, HRj.out⟩
          · have hj6 : j = 6 := by omega
            subst hj6
            have HXT : Hid (HxTo s (i + 1) 6) := ⟨by omega, hle, HA.out, fun h => by omega⟩
            go_wp2_with fail
            go_meet
            exact ⟨6, rfl, HXT.out, HRj.out⟩
      case rest =>
        obtain ⟨j, rfl, hxt, hr⟩ := hcut
        have HR3 := Lib.hid hr
        have HXT := Lib.hid hxt
        have hpos : 0 < j := by
          rcases Nat.eq_zero_or_pos j with h | h
          · subst h
            have := hxt.stop (by omega) (by omega)
            rw [Nat.add_zero, H0.out] at this; cases this
          · exact h
        have hle := hxt.le
        have hj6 := hxt.six
        clear hr hxt c0 c1 c0' c1'
        have c0 := HR3.out.c0
        have hts : (s.extract (i + 1) (i + 1 + j)).size = j := by rw [ByteArray.size_extract]; omega
        have HPU := Lib.hid (fun U => sparse_any (s.extract (i + 1) (i + 1 + j)) (by omega) (by omega) (fun x hx => by rw [bAt_extract (by omega) hle]; exact HXT.out.all x (by omega)) U)
        rw [hts, hxV_extract hle j (Nat.le_refl _)] at HPU
        have hN : hxV s (i + 1) j < 16777216 := HXT.out.small
        obtain ⟨N, hNe⟩ : ∃ N, N = hxV s (i + 1) j := ⟨_, rfl⟩
        rw [← hNe] at HPU hN
        have HN := Lib.hid hNe
        clear hNe hts
        go_wp2_with fail
        refine (HPU.out _).mono ?_
        rintro e6 w6 ⟨rfl, rfl⟩
        have HR4 := Lib.hid (HR3.out.next (Lib.bytesWorld_below wc 5 (s.extract (i + 1) (i + 1 + j))))
        obtain ⟨U, hU⟩ : ∃ U, U = Lib.bytesWorld wc 5 (s.extract (i + 1) (i + 1 + j)) := ⟨_, rfl⟩
        rw [← hU] at HR4 ⊢
        clear hU HPU c0
        obtain ⟨e, he⟩ : ∃ e, e = i + 1 + j := ⟨_, rfl⟩
        rw [← he] at hle ⊢
        have HEe := Lib.hid he
        clear he
        have c0 := HR4.out.c0
        go_upto_if 101 with fail
        have hwl := wsEnd_le hle
        go_cut [6] (fun x wx => x = .int .i64 ((wsEnd s e : Nat) : Int) ∧ PrW s g i D P B W wx)
        case first =>
          by_cases hlt2 : e < s.size
          · obtain ⟨d, hd⟩ : ∃ d : Nat, d = s[e].toNat := ⟨_, rfl⟩
            have hd2 : bAt s e = d := by rw [bAt_in hlt2, hd]
            by_cases k0 : d = 13
            · have m0 : ((s[e].toNat : Int) == 13) = true := beq_iff_eq.2 (by omega)
              by_cases hl3 : e + 1 < s.size
              · obtain ⟨d', hd'⟩ : ∃ d' : Nat, d' = s[e + 1].toNat := ⟨_, rfl⟩
                have hd3 : bAt s (e + 1) = d' := by rw [bAt_in hl3, hd']
                have e3 : IntKind.i64.wrap ((e : Int) + 1) = ((e : Int) + 1) := IntWalk.i64_in ((e : Int) + 1) ⟨by omega, by omega⟩
                have hg : decide ((e : Int) + 1 < (s.size : Int)) = true := decide_eq_true (by omega)
                by_cases k1 : d' = 10
                · have m1 : ((s[e + 1].toNat : Int) == 10) = true := beq_iff_eq.2 (by omega)
                  have HV : Hid (wsEnd s e = e + 2) := by unfold wsEnd Hid; rw [if_pos hlt2, if_pos (by omega), if_pos ⟨hl3, by omega⟩]
                  clear hd hd2 hd' hd3 k0 k1
                  go_wp2_with fail
                  go_meet
                  exact ⟨by rw [HV.out]; go_num, HR4.out⟩
                · have m1 : ((s[e + 1].toNat : Int) == 10) = false := beq_eq_false_iff_ne.2 (by omega)
                  have HV : Hid (wsEnd s e = e + 1) := by unfold wsEnd Hid; rw [if_pos hlt2, if_pos (by omega), if_neg (by omega)]
                  clear hd hd2 hd' hd3 k0 k1
                  go_wp2_with fail
                  go_meet
                  exact ⟨by rw [HV.out]; go_num, HR4.out⟩
              · have e3 : IntKind.i64.wrap ((e : Int) + 1) = ((e : Int) + 1) := IntWalk.i64_in ((e : Int) + 1) ⟨by omega, by omega⟩
                have hg : decide ((e : Int) + 1 < (s.size : Int)) = false := decide_eq_false (by omega)
                have HV : Hid (wsEnd s e = e + 1) := by unfold wsEnd Hid; rw [if_pos hlt2, if_pos (by omega), if_neg (by omega)]
                clear hd hd2 k0
                go_wp2_with fail
                go_meet
                exact ⟨by rw [HV.out]; go_num, HR4.out⟩
            · have m0 : ((s[e].toNat : Int) == 13) = false := beq_eq_false_iff_ne.2 (by omega)
              by_cases k1 : d = 32
              · have m1 : ((s[e].toNat : Int) == 32) = true := beq_iff_eq.2 (by omega)
                have HV : Hid (wsEnd s e = e + 1) := by unfold wsEnd Hid; rw [if_pos hlt2, if_neg (by omega), if_pos (by omega)]
                clear hd hd2 k0 k1
                go_wp2_with fail
                go_meet
                exact ⟨by rw [HV.out]; go_num, HR4.out⟩
              have m1 : ((s[e].toNat : Int) == 32) = false := beq_eq_false_iff_ne.2 (by omega)
              by_cases k2 : d = 9
              · have m2 : ((s[e].toNat : Int) == 9) = true := beq_iff_eq.2 (by omega)
                have HV : Hid (wsEnd s e = e + 1) := by unfold wsEnd Hid; rw [if_pos hlt2, if_neg (by omega), if_pos (by omega)]
                clear hd hd2 k0 k1 k2
                go_wp2_with fail
                go_meet
                exact ⟨by rw [HV.out]; go_num, HR4.out⟩
              have m2 : ((s[e].toNat : Int) == 9) = false := beq_eq_false_iff_ne.2 (by omega)
              by_cases k3 : d = 10
              · have m3 : ((s[e].toNat : Int) == 10) = true := beq_iff_eq.2 (by omega)
                have HV : Hid (wsEnd s e = e + 1) := by unfold wsEnd Hid; rw [if_pos hlt2, if_neg (by omega), if_pos (by omega)]
                clear hd hd2 k0 k1 k2 k3
                go_wp2_with fail
                go_meet
                exact ⟨by rw [HV.out]; go_num, HR4.out⟩
              have m3 : ((s[e].toNat : Int) == 10) = false := beq_eq_false_iff_ne.2 (by omega)
              by_cases k4 : d = 12
              · have m4 : ((s[e].toNat : Int) == 12) = true := beq_iff_eq.2 (by omega)
                have HV : Hid (wsEnd s e = e + 1) := by unfold wsEnd Hid; rw [if_pos hlt2, if_neg (by omega), if_pos (by omega)]
                clear hd hd2 k0 k1 k2 k3 k4
                go_wp2_with fail
                go_meet
                exact ⟨by rw [HV.out]; go_num, HR4.out⟩
              have m4 : ((s[e].toNat : Int) == 12) = false := beq_eq_false_iff_ne.2 (by omega)
              have HV : Hid (wsEnd s e = e) := by unfold wsEnd Hid; rw [if_pos hlt2, if_neg (by omega), if_neg (by omega)]
              clear hd hd2 k0 k1 k2 k3 k4
              go_wp2_with fail
              go_meet
              exact ⟨by rw [HV.out], HR4.out⟩
          · have HV : Hid (wsEnd s e = e) := by unfold wsEnd Hid; rw [if_neg hlt2]
            go_wp2_with fail
            go_meet
            exact ⟨by rw [HV.out], HR4.out⟩
        case rest =>
          obtain ⟨rfl, hr⟩ := hcut
          obtain ⟨k, hk⟩ : ∃ k, k = wsEnd s e := ⟨_, rfl⟩
          rw [← hk] at hwl ⊢
          have HK : Hid (k = wsEnd s (i + 1 + j)) := by rw [Hid, hk, HEe.out]
          have HR5 := Lib.hid hr
          have HS := Lib.hid (hr.set k)
          have f1 := hr.fz 1
          have c1 := hr.c1
          clear hk hr c0
          go_wp2_with fail
          go_ret2
          exact ⟨_, k, rfl, HS.out, hwl, j, HXT.out, fun h => absurd h (by omega), fun _ => ⟨HK.out, by rw [HN.out]⟩⟩
end Go.Proofs.YtnibpdmbccfgoaaGreatDoor
