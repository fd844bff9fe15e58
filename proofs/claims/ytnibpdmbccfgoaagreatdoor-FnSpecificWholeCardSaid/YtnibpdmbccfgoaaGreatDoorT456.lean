/- parseEscape, over a parser beside which all other blocks stay. -/
import Derived.Test.YtnibpdmbccfgoaaGreatDoorT406
namespace Go.Proofs.YtnibpdmbccfgoaaGreatDoor
open Go.RowKit
set_option linter.unusedVariables false

/-- The parser in memory, whole; of the first B blocks all others are as they were. -/
structure PrX (s : ByteArray) (g i : Nat) (D P : Value) (B : Nat) (W w : World) : Prop where
  blk : w.heap[g]? = some (.cells #[.string s, .int .i64 (i : Int), D, P] 51 (0, 0))
  os : w.os = W.os
  tape : w.tape = W.tape
  output : w.output = W.output
  size : W.heap.size ≤ w.heap.size
  oth : ∀ b, b < B → b ≠ g → w.heap[b]? = W.heap[b]?
  base : B ≤ w.heap.size
theorem PrX.c0 {s : ByteArray} {g i : Nat} {D P : Value} {B : Nat} {W w : World} (h : PrX s g i D P B W w) : w.cell? ⟨g, 0, none⟩ = some (.string s) := by rw [cell_of_row w g 0 _ _ _ h.blk]; rfl
theorem PrX.c1 {s : ByteArray} {g i : Nat} {D P : Value} {B : Nat} {W w : World} (h : PrX s g i D P B W w) : w.cell? ⟨g, 1, none⟩ = some (.int .i64 (i : Int)) := by rw [cell_of_row w g 1 _ _ _ h.blk]; rfl
theorem PrX.fz {s : ByteArray} {g i : Nat} {D P : Value} {B : Nat} {W w : World} (h : PrX s g i D P B W w) (j : Nat) : w.frozen? ⟨g, j, none⟩ = false := frozen_of_row w g j _ _ h.blk
theorem PrX.set {s : ByteArray} {g i : Nat} {D P : Value} {B : Nat} {W w : World} (h : PrX s g i D P B W w) (i' : Nat) : PrX s g i' D P B W (w.setCell ⟨g, 1, none⟩ (.int .i64 (i' : Int))) :=
  ⟨Lib.heap_setCell_same (i := 1) h.blk _, h.os, h.tape, h.output, by simpa [World.setCell] using h.size, fun b hb hn => by rw [Below.heap_setCell _ _ _ _ (by simpa using hn)]; exact h.oth b hb hn, by simpa [World.setCell] using h.base⟩
theorem PrX.setI {s : ByteArray} {g i : Nat} {D P : Value} {B : Nat} {W w : World} (h : PrX s g i D P B W w) (i' : Nat) (x : Int) (hx : x = (i' : Int)) : PrX s g i' D P B W (w.setCell ⟨g, 1, none⟩ (.int .i64 x)) := by
  rw [hx]; exact h.set i'
theorem PrX.drew {s : ByteArray} {g i : Nat} {D P : Value} {B : Nat} {W w : World} (h : PrX s g i D P B W w) (n : Nat) : PrX s g i D P B W (w.drewN n) := by
  have hb := below_drewN (Below.refl w.heap.size w) n
  exact ⟨h.blk, hb.os.trans h.os, hb.tape.trans h.tape, hb.output.trans h.output, Nat.le_trans h.size hb.size, h.oth, Nat.le_trans h.base hb.size⟩
theorem PrX.next {s : ByteArray} {g i : Nat} {D P : Value} {B : Nat} {W w w' : World} (h : PrX s g i D P B W w) (hb : Below w.heap.size w w') : PrX s g i D P B W w' :=
  ⟨(hb.block g (Array.getElem?_eq_some_iff.1 h.blk).1).trans h.blk, hb.os.trans h.os, hb.tape.trans h.tape, hb.output.trans h.output, Nat.le_trans h.size hb.size,
    fun b h1 h2 => (hb.block b (Nat.lt_of_lt_of_le h1 h.base)).trans (h.oth b h1 h2), Nat.le_trans h.base hb.size⟩
theorem PrX.of {s : ByteArray} {g i : Nat} {D P : Value} {w : World} (h : w.heap[g]? = some (.cells #[.string s, .int .i64 (i : Int), D, P] 51 (0, 0))) : PrX s g i D P w.heap.size w w :=
  ⟨h, rfl, rfl, rfl, Nat.le_refl _, fun _ _ _ => rfl, Nat.le_refl _⟩

def PEscNoX (s : ByteArray) (g : Nat) (D P : Value) (B : Nat) (W : World) (e : Ending) (w' : World) : Prop :=
  ∃ (v x : Value) (i' : Nat), ErrV v ∧ e = .returned (.tuple #[x, v]) ∧ PrX s g i' D P B W w'
def PEscYesX (s : ByteArray) (g i : Nat) (D P : Value) (B : Nat) (W : World) (e : Ending) (w' : World) : Prop :=
  ∃ (out : ByteArray) (i' : Nat), e = .returned (.tuple #[.string out, .nilIface]) ∧ PrX s g i' D P B W w' ∧ i' ≤ s.size ∧ PEscIs s i out i'


set_option maxRecDepth 100000 in
set_option maxHeartbeats 4000000 in
theorem pEscNoX_any (s : ByteArray) (g i : Nat) (D P : Value) (B : Nat) (W w : World) (hs : s.size ≤ 2147483647) (hi : i ≤ s.size) (hE : escAt s i = false) (h : PrX s g i D P B W w) :
    Calls Tryz.prog 63 #[.pointer (some ⟨g, 0, none⟩)] w (PEscNoX s g D P B W) := by
  have HR := Lib.hid h
  have c0 := h.c0
  have c1 := h.c1
  have e2 : IntKind.i64.wrap ((i : Int) + 2) = ((i : Int) + 2) := IntWalk.i64_in ((i : Int) + 2) ⟨by omega, by omega⟩
  clear h
  rcases escAt_no hE with q | ⟨q, q2⟩ | ⟨q, q2, q3⟩
  · have hd : decide ((s.size : Int) < (i : Int) + 2) = true := decide_eq_true (by omega)
    clear hE
    go_enter Tryz.func63, Tryz.ntmps63
    go_wp2_with fail
    go_quiet (fail)
    go_wp2_with fail
    refine (errNew_any _ _).mono ?_
    rintro e1 w1 ⟨v, hv, rfl, hb⟩
    have HB := Lib.hid hb
    have HE := Lib.hid hv
    clear hb hv
    go_wp2_with fail
    go_ret2
    exact ⟨v, _, i, HE.out, rfl, (HR.out.drew _).next HB.out⟩
  · have hd : decide ((s.size : Int) < (i : Int) + 2) = false := decide_eq_false (by omega)
    rw [bAt_in (by omega : i < s.size)] at q2
    have hn : ((s[i].toNat : Int) != 92) = true := by simp; omega
    have hlt : i < s.size := by omega
    clear hE q2
    go_enter Tryz.func63, Tryz.ntmps63
    go_wp2_with fail
    go_quiet (fail)
    go_wp2_with fail
    refine (errNew_any _ _).mono ?_
    rintro e1 w1 ⟨v, hv, rfl, hb⟩
    have HB := Lib.hid hb
    have HE := Lib.hid hv
    clear hb hv
    go_wp2_with fail
    go_ret2
    exact ⟨v, _, i, HE.out, rfl, (HR.out.drew _).next HB.out⟩
  · have hd : decide ((s.size : Int) < (i : Int) + 2) = false := decide_eq_false (by omega)
    rw [bAt_in (by omega : i < s.size)] at q2
    rw [bAt_in (by omega : i + 1 < s.size)] at q3
    have hn : ((s[i].toNat : Int) != 92) = false := by simp; omega
    have e1 : IntKind.i64.wrap ((i : Int) + 1) = ((i : Int) + 1) := IntWalk.i64_in ((i : Int) + 1) ⟨by omega, by omega⟩
    have hlt : i < s.size := by omega
    clear hE q2
    rcases q3 with q3 | q3 | q3
    ·
      have n13 : ((s[i + 1].toNat : Int) == 13) = true := beq_iff_eq.2 (by omega)
      clear q3
      go_enter Tryz.func63, Tryz.ntmps63
      go_wp2_with fail
      go_quiet (fail)
      go_wp2_with fail
      refine (errNew_any _ _).mono ?_
      rintro e1 w1 ⟨v, hv, rfl, hb⟩
      have HB := Lib.hid hb
      have HE := Lib.hid hv
      clear hb hv
      go_wp2_with fail
      go_ret2
      exact ⟨v, _, i, HE.out, rfl, (HR.out.drew _).next HB.out⟩
    ·
      have n13 : ((s[i + 1].toNat : Int) == 13) = false := beq_eq_false_iff_ne.2 (by omega)
      have n10 : ((s[i + 1].toNat : Int) == 10) = true := beq_iff_eq.2 (by omega)
      clear q3
      go_enter Tryz.func63, Tryz.ntmps63
      go_wp2_with fail
      go_quiet (fail)
      go_wp2_with fail
      refine (errNew_any _ _).mono ?_
      rintro e1 w1 ⟨v, hv, rfl, hb⟩
      have HB := Lib.hid hb
      have HE := Lib.hid hv
      clear hb hv
      go_wp2_with fail
      go_ret2
      exact ⟨v, _, i, HE.out, rfl, (HR.out.drew _).next HB.out⟩
    ·
      have n13 : ((s[i + 1].toNat : Int) == 13) = false := beq_eq_false_iff_ne.2 (by omega)
      have n10 : ((s[i + 1].toNat : Int) == 10) = false := beq_eq_false_iff_ne.2 (by omega)
      have n12 : ((s[i + 1].toNat : Int) == 12) = true := beq_iff_eq.2 (by omega)
      clear q3
      go_enter Tryz.func63, Tryz.ntmps63
      go_wp2_with fail
      go_quiet (fail)
      go_wp2_with fail
      refine (errNew_any _ _).mono ?_
      rintro e1 w1 ⟨v, hv, rfl, hb⟩
      have HB := Lib.hid hb
      have HE := Lib.hid hv
      clear hb hv
      go_wp2_with fail
      go_ret2
      exact ⟨v, _, i, HE.out, rfl, (HR.out.drew _).next HB.out⟩

/-- Behind the digits. -/
def PEscLX (s : ByteArray) (g i : Nat) (D P : Value) (B : Nat) (W : World) (x : Value) (wx : World) : Prop :=
  ∃ j : Nat, x = .int .i64 ((i + 1 + j : Nat) : Int) ∧ HxTo s (i + 1) j ∧ PrX s g i D P B W wx

set_option maxRecDepth 100000 in
set_option maxHeartbeats 4000000 in
theorem pEscYesX_any (s : ByteArray) (g i : Nat) (D P : Value) (B : Nat) (W w : World) (hs : s.size ≤ 2147483647) (hE : escAt s i = true) (h : PrX s g i D P B W w) :
    Calls Tryz.prog 63 #[.pointer (some ⟨g, 0, none⟩)] w (PEscYesX s g i D P B W) := by
  have HR := Lib.hid h
  have c0 := h.c0
  have c1 := h.c1
  rw [escAt_iff] at hE
  obtain ⟨q, q2, q3, q4, q5⟩ := hE
  have hlt : i < s.size := by omega
  have e2 : IntKind.i64.wrap ((i : Int) + 2) = ((i : Int) + 2) := IntWalk.i64_in ((i : Int) + 2) ⟨by omega, by omega⟩
  have e1 : IntKind.i64.wrap ((i : Int) + 1) = ((i : Int) + 1) := IntWalk.i64_in ((i : Int) + 1) ⟨by omega, by omega⟩
  have hd : decide ((s.size : Int) < (i : Int) + 2) = false := decide_eq_false (by omega)
  rw [bAt_in hlt] at q2
  have hn : ((s[i].toNat : Int) != 92) = false := by simp; omega
  obtain ⟨c, hc⟩ : ∃ c : Nat, c = bAt s (i + 1) := ⟨_, rfl⟩
  have hc2 : c = s[i + 1].toNat := by rw [hc, bAt_in q]
  have n1 : ((c : Int) == 13) = false := beq_eq_false_iff_ne.2 (by omega)
  have n2 : ((c : Int) == 10) = false := beq_eq_false_iff_ne.2 (by omega)
  have n3 : ((c : Int) == 12) = false := beq_eq_false_iff_ne.2 (by omega)
  have hc256 : c < 256 := by rw [hc]; exact bAt_lt _ _
  have HC := Lib.hid hc
  have HH := Lib.hid (fun U => hexDigit_any c hc256 U)
  obtain ⟨bx, hbx⟩ : ∃ bx, bx = isHx c := ⟨_, rfl⟩
  have HBx := Lib.hid hbx
  unfold HxP at HH
  rw [← hbx] at HH
  clear h q2 q3 q4 q5 hc hbx
  go_enter Tryz.func63, Tryz.ntmps63
  go_wp2_with fail
  go_quiet (fail)
  go_upto_region 4 with fail
  go_cut [5] (fun x wx => x = .int .u8 (c : Int) ∧ PrX s g i D P B W wx)
  case first =>
    go_wp2_with fail
    go_meet
    exact ⟨by rw [hc2], HR.out.drew _⟩
  case rest =>
    obtain ⟨rfl, hr⟩ := hcut
    have HR2 := Lib.hid hr
    clear hr hc2 hd hn
    have c0' := HR2.out.c0
    have c1' := HR2.out.c1
    go_wp2_with fail
    refine (HH.out _).mono ?_
    rintro e5 w5 ⟨rfl, rfl⟩
    cases bx
    · have f1 := HR2.out.fz 1
      have HS := Lib.hid (HR2.out.set (i + 2))
      have HXT : Hid (HxTo s (i + 1) 0) := ⟨by omega, by omega, fun x hx => absurd hx (Nat.not_lt_zero x), fun _ _ => by rw [Nat.add_zero, ← HC.out, ← HBx.out]⟩
      go_wp2_with fail
      go_ret2
      exact ⟨_, i + 2, rfl, HS.out, by omega, 0, HXT.out, fun _ => ⟨rfl, rfl⟩, fun h => absurd h (by omega)⟩
    · have H0 : Hid (isHx (bAt s (i + 1)) = true) := by rw [Hid, ← HC.out, ← HBx.out]
      clear HH HC HBx n1 n2 n3
      go_upto_block 1 with fail
      go_cut [6] (fun x wx => PEscLX s g i D P B W x wx)
      case first =>
        go_wp2_with fail
        go_loopw [6] (fun x wr => ∃ j : Nat, x = .int .i64 ((i + 1 + j : Nat) : Int) ∧ j ≤ 6 ∧ i + 1 + j ≤ s.size ∧ Hid (∀ x, x < j → isHx (bAt s (i + 1 + x)) = true) ∧ Hid (PrX s g i D P B W wr)) (fun x _ => i + 1 + 6 - (intOf x).toNat)
        case atStart => exact ⟨0, by go_num, by omega, by omega, fun x hx => absurd hx (Nat.not_lt_zero x), HR2.out⟩
        case round =>
          obtain ⟨j, rfl, hj, hle, HA, HRj⟩ := hrel
          clear c0 c1 c0' c1'
          have c0 := HRj.out.c0
          have c1 := HRj.out.c1
          by_cases h6 : j < 6
          · by_cases hlt2 : i + 1 + j < s.size
            · have hc256 := bAt_lt s (i + 1 + j)
              have HH := Lib.hid (fun U => hexDigit_any (bAt s (i + 1 + j)) hc256 U)
              have hb := bAt_in hlt2
              obtain ⟨b, hbe⟩ : ∃ b, b = isHx (bAt s (i + 1 + j)) := ⟨_, rfl⟩
              have HBe := Lib.hid hbe
              unfold HxP at HH
              rw [← hbe, hb] at HH
              clear hbe hb hc256
              go_wp2_with fail
              refine (HH.out _).mono ?_
              rintro e5 w5 ⟨rfl, rfl⟩
              cases b
              · have HXT : Hid (HxTo s (i + 1) j) := ⟨hj, hle, HA.out, fun _ _ => HBe.out.symm⟩
                go_wp2_with fail
                go_meet
                exact ⟨j, rfl, HXT.out, HRj.out⟩
              · have HA2 : Hid (∀ x, x < j + 1 → isHx (bAt s (i + 1 + x)) = true) := fun x hxx => by
                  by_cases q : x < j
                  · exact HA.out x q
                  · have : x = j := by omega
                    subst this; exact HBe.out.symm
                go_wp2_with fail
                go_roundw
                case rel => exact ⟨j + 1, by go_num, by omega, by omega, HA2.out, HRj.out⟩
                case measure => simp [intOf]; omega
            · have HXT : Hid (HxTo s (i + 1) j) := ⟨hj, hle, HA.out, fun _ q => absurd q hlt2⟩
              go_wp2_with fail
              go_meet
              exact ⟨j, rfl, HXT.out, HRj.out⟩
          · have hj6 : j = 6 := by omega
            subst hj6
            have HXT : Hid (HxTo s (i + 1) 6) := ⟨by omega, hle, HA.out, fun h => by omega⟩
            go_wp2_with fail
            go_meet
            exact ⟨6, rfl, HXT.out, HRj.out⟩
      case rest =>
        obtain ⟨j, rfl, hxt, hr⟩ := hcut
        have HR3 := Lib.hid hr
        have HXT := Lib.hid hxt
        have hpos : 0 < j := by
          rcases Nat.eq_zero_or_pos j with h | h
          · subst h
            have := hxt.stop (by omega) (by omega)
            rw [Nat.add_zero, H0.out] at this; cases this
          · exact h
        have hle := hxt.le
        have hj6 := hxt.six
        clear hr hxt c0 c1 c0' c1'
        have c0 := HR3.out.c0
        have hts : (s.extract (i + 1) (i + 1 + j)).size = j := by rw [ByteArray.size_extract]; omega
        have HPU := Lib.hid (fun U => sparse_any (s.extract (i + 1) (i + 1 + j)) (by omega) (by omega) (fun x hx => by rw [bAt_extract (by omega) hle]; exact HXT.out.all x (by omega)) U)
        rw [hts, hxV_extract hle j (Nat.le_refl _)] at HPU
        have hN : hxV s (i + 1) j < 16777216 := HXT.out.small
        obtain ⟨N, hNe⟩ : ∃ N, N = hxV s (i + 1) j := ⟨_, rfl⟩
        rw [← hNe] at HPU hN
        have HN := Lib.hid hNe
        clear hNe hts
        go_wp2_with fail
        refine (HPU.out _).mono ?_
        rintro e6 w6 ⟨rfl, rfl⟩
        have HR4 := Lib.hid (HR3.out.next (Lib.bytesWorld_below wc 5 (s.extract (i + 1) (i + 1 + j))))
        obtain ⟨U, hU⟩ : ∃ U, U = Lib.bytesWorld wc 5 (s.extract (i + 1) (i + 1 + j)) := ⟨_, rfl⟩
        rw [← hU] at HR4 ⊢
        clear hU HPU c0
        obtain ⟨e, he⟩ : ∃ e, e = i + 1 + j := ⟨_, rfl⟩
        rw [← he] at hle ⊢
        have HEe := Lib.hid he
        clear he
        have c0 := HR4.out.c0
        go_upto_if 101 with fail
        have hwl := wsEnd_le hle
        go_cut [6] (fun x wx => x = .int .i64 ((wsEnd s e : Nat) : Int) ∧ PrX s g i D P B W wx)
        case first =>
          by_cases hlt2 : e < s.size
          · obtain ⟨d, hd⟩ : ∃ d : Nat, d = s[e].toNat := ⟨_, rfl⟩
            have hd2 : bAt s e = d := by rw [bAt_in hlt2, hd]
            by_cases k0 : d = 13
            · have m0 : ((s[e].toNat : Int) == 13) = true := beq_iff_eq.2 (by omega)
              by_cases hl3 : e + 1 < s.size
              · obtain ⟨d', hd'⟩ : ∃ d' : Nat, d' = s[e + 1].toNat := ⟨_, rfl⟩
                have hd3 : bAt s (e + 1) = d' := by rw [bAt_in hl3, hd']
                have e3 : IntKind.i64.wrap ((e : Int) + 1) = ((e : Int) + 1) := IntWalk.i64_in ((e : Int) + 1) ⟨by omega, by omega⟩
                have hg : decide ((e : Int) + 1 < (s.size : Int)) = true := decide_eq_true (by omega)
                by_cases k1 : d' = 10
                · have m1 : ((s[e + 1].toNat : Int) == 10) = true := beq_iff_eq.2 (by omega)
                  have HV : Hid (wsEnd s e = e + 2) := by unfold wsEnd Hid; rw [if_pos hlt2, if_pos (by omega), if_pos ⟨hl3, by omega⟩]
                  clear hd hd2 hd' hd3 k0 k1
                  go_wp2_with fail
                  go_meet
                  exact ⟨by rw [HV.out]; go_num, HR4.out⟩
                · have m1 : ((s[e + 1].toNat : Int) == 10) = false := beq_eq_false_iff_ne.2 (by omega)
                  have HV : Hid (wsEnd s e = e + 1) := by unfold wsEnd Hid; rw [if_pos hlt2, if_pos (by omega), if_neg (by omega)]
                  clear hd hd2 hd' hd3 k0 k1
                  go_wp2_with fail
                  go_meet
                  exact ⟨by rw [HV.out]; go_num, HR4.out⟩
              · have e3 : IntKind.i64.wrap ((e : Int) + 1) = ((e : Int) + 1) := IntWalk.i64_in ((e : Int) + 1) ⟨by omega, by omega⟩
                have hg : decide ((e : Int) + 1 < (s.size : Int)) = false := decide_eq_false (by omega)
                have HV : Hid (wsEnd s e = e + 1) := by unfold wsEnd Hid; rw [if_pos hlt2, if_pos (by omega), if_neg (by omega)]
                clear hd hd2 k0
                go_wp2_with fail
                go_meet
                exact ⟨by rw [HV.out]; go_num, HR4.out⟩
            · have m0 : ((s[e].toNat : Int) == 13) = false := beq_eq_false_iff_ne.2 (by omega)
              by_cases k1 : d = 32
              · have m1 : ((s[e].toNat : Int) == 32) = true := beq_iff_eq.2 (by omega)
                have HV : Hid (wsEnd s e = e + 1) := by unfold wsEnd Hid; rw [if_pos hlt2, if_neg (by omega), if_pos (by omega)]
                clear hd hd2 k0 k1
                go_wp2_with fail
                go_meet
                exact ⟨by rw [HV.out]; go_num, HR4.out⟩
              have m1 : ((s[e].toNat : Int) == 32) = false := beq_eq_false_iff_ne.2 (by omega)
              by_cases k2 : d = 9
              · have m2 : ((s[e].toNat : Int) == 9) = true := beq_iff_eq.2 (by omega)
                have HV : Hid (wsEnd s e = e + 1) := by unfold wsEnd Hid; rw [if_pos hlt2, if_neg (by omega), if_pos (by omega)]
                clear hd hd2 k0 k1 k2
                go_wp2_with fail
                go_meet
                exact ⟨by rw [HV.out]; go_num, HR4.out⟩
              have m2 : ((s[e].toNat : Int) == 9) = false := beq_eq_false_iff_ne.2 (by omega)
              by_cases k3 : d = 10
              · have m3 : ((s[e].toNat : Int) == 10) = true := beq_iff_eq.2 (by omega)
                have HV : Hid (wsEnd s e = e + 1) := by unfold wsEnd Hid; rw [if_pos hlt2, if_neg (by omega), if_pos (by omega)]
                clear hd hd2 k0 k1 k2 k3
                go_wp2_with fail
                go_meet
                exact ⟨by rw [HV.out]; go_num, HR4.out⟩
              have m3 : ((s[e].toNat : Int) == 10) = false := beq_eq_false_iff_ne.2 (by omega)
              by_cases k4 : d = 12
              · have m4 : ((s[e].toNat : Int) == 12) = true := beq_iff_eq.2 (by omega)
                have HV : Hid (wsEnd s e = e + 1) := by unfold wsEnd Hid; rw [if_pos hlt2, if_neg (by omega), if_pos (by omega)]
                clear hd hd2 k0 k1 k2 k3 k4
                go_wp2_with fail
                go_meet
                exact ⟨by rw [HV.out]; go_num, HR4.out⟩
              have m4 : ((s[e].toNat : Int) == 12) = false := beq_eq_false_iff_ne.2 (by omega)
              have HV : Hid (wsEnd s e = e) := by unfold wsEnd Hid; rw [if_pos hlt2, if_neg (by omega), if_neg (by omega)]
              clear hd hd2 k0 k1 k2 k3 k4
              go_wp2_with fail
              go_meet
              exact ⟨by rw [HV.out], HR4.out⟩
          · have HV : Hid (wsEnd s e = e) := by unfold wsEnd Hid; rw [if_neg hlt2]
            go_wp2_with fail
            go_meet
            exact ⟨by rw [HV.out], HR4.out⟩
        case rest =>
          obtain ⟨rfl, hr⟩ := hcut
          obtain ⟨k, hk⟩ : ∃ k, k = wsEnd s e := ⟨_, rfl⟩
          rw [← hk] at hwl ⊢
          have HK : Hid (k = wsEnd s (i + 1 + j)) := by rw [Hid, hk, HEe.out]
          have HR5 := Lib.hid hr
          have HS := Lib.hid (hr.set k)
          have f1 := hr.fz 1
          have c1 := hr.c1
          clear hk hr c0
          go_wp2_with fail
          go_ret2
          exact ⟨_, k, rfl, HS.out, hwl, j, HXT.out, fun h => absurd h (by omega), fun _ => ⟨HK.out, by rw [HN.out]⟩⟩
end Go.Proofs.YtnibpdmbccfgoaaGreatDoor
