/- parseName, over a parser beside which all other blocks stay. -/
import Derived.Test.YtkdfdfhejibopaaGreatDoorT456
import Derived.Test.YtkdfdfhejibopaaGreatDoorT421
namespace Go.Proofs.YtkdfdfhejibopaaGreatDoor
open Go.RowKit
set_option linter.unusedVariables false

/-- How a name ends. -/
def NmNoX (s : ByteArray) (k g : Nat) (D P : Value) (B : Nat) (W : World) (e : Ending) (w' : World) : Prop :=
  ∃ (v x : Value) (i' : Nat), ErrV v ∧ e = .returned (.tuple #[x, v]) ∧ PrX s g i' D P B W w' ∧ ∃ (acc : ByteArray) (i : Nat), NmAc s k acc i ∧ (NmBad s i ∨ (NmStop s i ∧ acc.size = 0))
def NmYesX (s : ByteArray) (k g : Nat) (D P : Value) (B : Nat) (W : World) (e : Ending) (w' : World) : Prop :=
  ∃ (out : ByteArray) (i' : Nat), e = .returned (.tuple #[.string out, .nilIface]) ∧ PrX s g i' D P B W w' ∧ i' ≤ s.size ∧ NmAc s k out i' ∧ NmStop s i' ∧ 0 < out.size
def NmPostX (s : ByteArray) (k g : Nat) (D P : Value) (B : Nat) (W : World) (e : Ending) (w' : World) : Prop := NmNoX s k g D P B W e w' ∨ NmYesX s k g D P B W e w'

/-- Behind the loop: what has been read, and that no more of the name stands there. -/
def NmLX (s : ByteArray) (k g : Nat) (D P : Value) (B : Nat) (W : World) (v2 v4 : Value) (wx : World) : Prop :=
  ∃ (O : ByteArray) (i i' : Nat), v2 = .string O ∧ v4 = .int .i64 (i : Int) ∧ O.size ≤ 4000 ∧ NmAc s k O i ∧ NmStop s i ∧ PrX s g i' D P B W wx

set_option maxRecDepth 100000 in
set_option maxHeartbeats 8000000 in
theorem pNameX_any (s : ByteArray) (g k : Nat) (D P : Value) (B : Nat) (W w : World) (hs : s.size ≤ 1000) (hk : k ≤ s.size) (h : PrX s g k D P B W w) :
    Calls Tryz.prog 28 #[.pointer (some ⟨g, 0, none⟩)] w (NmPostX s k g D P B W) := by
  have HR := Lib.hid h
  have c0 := h.c0
  have c1 := h.c1
  clear h
  go_enter Tryz.func28, Tryz.ntmps28
  go_wp2_with fail
  go_step3
  go_wp2_with fail
  go_step3
  go_upto_block 0 with fail
  go_cut [2, 4] (fun v2 v4 wx => NmLX s k g D P B W v2 v4 wx)
  case first =>
    go_wp2_with fail
    go_loopg [2, 4] (s.size - k) (fun gk v2 v4 wr => ∃ (O : ByteArray) (i i' : Nat), v2 = .string O ∧ v4 = .int .i64 (i : Int) ∧ gk = s.size - i ∧ O.size ≤ 4 * i ∧ i ≤ s.size ∧ Hid (NmAc s k O i) ∧ Hid (PrX s g i' D P B W wr))
    case atStart => exact ⟨ByteArray.empty, k, k, rfl, rfl, rfl, Nat.zero_le _, hk, NmAc.zero, HR.out⟩
    case round =>
      obtain ⟨O, i, i', rfl, rfl, rfl, hO, hi, HA, HW⟩ := hrel
      clear c0 c1
      have c0 := HW.out.c0
      have c1 := HW.out.c1
      have f1 := HW.out.fz 1
      by_cases hlt : i < s.size
      · obtain ⟨c, hc⟩ : ∃ c : Nat, c = bAt s i := ⟨_, rfl⟩
        have hc256 : c < 256 := by rw [hc]; exact bAt_lt _ _
        have HNm := Lib.hid (fun U => nameChar_any c hc256 U)
        have hb := bAt_in hlt
        rw [← hc] at hb
        unfold NmP at HNm
        rw [hb] at HNm
        cases hn : isNm c
        · rw [← hb, hn, hb] at HNm
          by_cases h92 : c = 92
          · have m0 : ((s[i].toNat : Int) == 92) = true := beq_iff_eq.2 (by omega)
            cases hE : escAt s i
            · -- no escape
              have HEs : Hid (∀ U, PrX s g i D P B W U → Calls Tryz.prog 35 #[.pointer (some ⟨g, 0, none⟩)] U (PEscNoX s g D P B W)) := fun U h => pEscNoX_any s g i D P B W U (by omega) hi hE h
              have HBad : Hid (NmBad s i) := ⟨hlt, by rw [← hc]; exact h92, hE⟩
              have HS := Lib.hid (HW.out.set i)
              clear hc hc256 hb hn h92 hE
              go_wp2_with fail
              refine (HNm.out _).mono ?_
              rintro e1 w1 ⟨rfl, rfl⟩
              go_wp2_with fail
              refine (HEs.out _ HS.out).mono ?_
              rintro e1 w1 ⟨v, x, i2, ⟨pp, rfl⟩, rfl, hr⟩
              have HR2 := Lib.hid hr
              clear hr
              go_wp2_with fail
              first
                | rw [Exit.noGoto_ret]
                | skip
              go_ret2
              exact .inl ⟨_, _, i2, ⟨pp, rfl⟩, rfl, HR2.out, O, i, HA.out, .inl HBad.out⟩
            · have HEs : Hid (∀ U, PrX s g i D P B W U → Calls Tryz.prog 35 #[.pointer (some ⟨g, 0, none⟩)] U (PEscYesX s g i D P B W)) := fun U h => pEscYesX_any s g i D P B W U (by omega) hE h
              have HE := Lib.hid hE
              have HS := Lib.hid (HW.out.set i)
              clear hc hc256 hb hn h92 hE
              go_wp2_with fail
              refine (HNm.out _).mono ?_
              rintro e1 w1 ⟨rfl, rfl⟩
              go_wp2_with fail
              refine (HEs.out _ HS.out).mono ?_
              rintro e1 w1 ⟨out, i2, rfl, hr, hle, hpe⟩
              have HR2 := Lib.hid hr
              have c1' := hr.c1
              have hsz := pesc_size hpe
              have HA2 := Lib.hid (HA.out.esc HE.out hpe hle)
              have hO2 : (O ++ out).size ≤ 4 * i2 := by rw [ByteArray.size_append]; omega
              have hOs := hsz.1
              have hlt2 := hsz.2
              clear hr hpe hsz c0 c1 f1
              go_wp2_with fail
              go_roundg (s.size - i2)
              case measure => omega
              case rel => exact ⟨_, i2, i2, rfl, rfl, rfl, hO2, hle, HA2, HR2⟩
          · have m0 : ((s[i].toNat : Int) == 92) = false := beq_eq_false_iff_ne.2 (by omega)
            have HSt : Hid (NmStop s i) := ⟨hi, fun _ => by rw [← hc]; exact ⟨hn, h92⟩⟩
            have hO4 : O.size ≤ 4000 := by omega
            clear hc hc256 hb hn h92
            go_wp2_with fail
            refine (HNm.out _).mono ?_
            rintro e1 w1 ⟨rfl, rfl⟩
            go_wp2_with fail
            go_meet
            exact ⟨O, i, i', rfl, rfl, hO4, HA.out, HSt.out, HW.out⟩
        · rw [← hb, hn, hb] at HNm
          have HN0 : Hid (isNm (bAt s i) = true) := by rw [Hid, ← hc]; exact hn
          clear hc hc256 hb hn
          go_wp2_with fail
          refine (HNm.out _).mono ?_
          rintro e1 w1 ⟨rfl, rfl⟩
          clear HNm
          go_upto_block 3 with fail
          obtain ⟨wo, rfl⟩ : ∃ wo : World, wo = wr := ⟨_, rfl⟩
          go_cut [4] (fun v4 wx => NmRun s i v4 ∧ wo = wx)
          case first =>
            go_wp2_with fail
            go_loopg [4] (s.size - i) (fun gk v4 wr => ∃ d : Nat, gk = s.size - (i + d) ∧ i + d ≤ s.size ∧ v4 = .int .i64 ((i + d : Nat) : Int) ∧ Hid (∀ x, x < d → isNm (bAt s (i + x)) = true) ∧ wo = wr)
            case atStart => exact ⟨0, rfl, hi, rfl, (fun x hx => absurd hx (Nat.not_lt_zero x)), rfl⟩
            case round =>
              obtain ⟨d, rfl, hd, rfl, HD, rfl⟩ := hrel
              by_cases hlt2 : i + d < s.size
              · obtain ⟨c, hc⟩ : ∃ c : Nat, c = bAt s (i + d) := ⟨_, rfl⟩
                have hc256 : c < 256 := by rw [hc]; exact bAt_lt _ _
                have HNm := Lib.hid (fun U => nameChar_any c hc256 U)
                have hb := bAt_in hlt2
                rw [← hc] at hb
                unfold NmP at HNm
                rw [hb] at HNm
                cases hn : isNm c
                · rw [← hb, hn, hb] at HNm
                  have hpos : 0 < d := by
                    rcases Nat.eq_zero_or_pos d with q | q
                    · subst q
                      have := HN0.out
                      rw [Nat.add_zero] at hc
                      rw [← hc, hn] at this; cases this
                    · exact q
                  clear hc hc256 hb hn
                  go_wp2_with fail
                  refine (HNm.out _).mono ?_
                  rintro e1 w1 ⟨rfl, rfl⟩
                  go_wp2_with fail
                  go_meet
                  exact ⟨⟨d, hpos, hd, rfl, HD.out⟩, rfl⟩
                · rw [← hb, hn, hb] at HNm
                  have HD2 : Hid (∀ x, x < d + 1 → isNm (bAt s (i + x)) = true) := fun x hx => by
                    by_cases q : x < d
                    · exact HD.out x q
                    · have : x = d := by omega
                      subst this; rw [← hc]; exact hn
                  clear hc hc256 hb hn
                  go_wp2_with fail
                  refine (HNm.out _).mono ?_
                  rintro e1 w1 ⟨rfl, rfl⟩
                  go_wp2_with fail
                  go_roundg (s.size - (i + (d + 1)))
                  case measure => omega
                  case rel => exact ⟨d + 1, rfl, by omega, by go_num, HD2, by trivial⟩
              · have hpos : 0 < d := by omega
                go_wp2_with fail
                go_meet
                exact ⟨⟨d, hpos, hd, rfl, HD.out⟩, rfl⟩
          case rest =>
            obtain ⟨⟨d, hpos, hd, rfl, hdn⟩, rfl⟩ := hcut
            have HA2 := Lib.hid (HA.out.run d hd hdn)
            have hXs : (s.extract i (i + d)).size ≤ d := by rw [ByteArray.size_extract]; omega
            have hO2 : (O ++ s.extract i (i + d)).size ≤ 4 * (i + d) := by rw [ByteArray.size_append]; omega
            clear hdn
            go_wp2_with fail
            go_roundg (s.size - (i + d))
            case measure => omega
            case rel => exact ⟨_, i + d, i', rfl, rfl, rfl, hO2, hd, HA2, HW⟩
      · have HSt : Hid (NmStop s i) := ⟨hi, fun q => absurd q hlt⟩
        have hO4 : O.size ≤ 4000 := by omega
        go_wp2_with fail
        go_meet
        exact ⟨O, i, i', rfl, rfl, hO4, HA.out, HSt.out, HW.out⟩
  case rest =>
    obtain ⟨O, i, i', rfl, rfl, hO, ha, hst, hr⟩ := hcut
    have HA := Lib.hid ha
    have HSt := Lib.hid hst
    have HW := Lib.hid hr
    have hi := hst.1
    clear c0 c1
    have f1 := hr.fz 1
    have c1 := hr.c1
    have HS := Lib.hid (hr.set i)
    clear ha hst hr
    by_cases h0 : O.size = 0
    · have m0 : O.toList = [] := empty_len.2 h0
      have m1 : O.toList.isEmpty = true := by rw [m0]; rfl
      have H0 := Lib.hid h0
      clear h0
      go_wp2_with fail
      refine (errNew_any _ _).mono ?_
      rintro e1 w1 ⟨v, ⟨pp, rfl⟩, rfl, hb⟩
      have HB := Lib.hid hb
      clear hb
      go_wp2_with fail
      go_ret2
      exact .inl ⟨_, _, i', ⟨pp, rfl⟩, rfl, HW.out.next HB.out, O, i, HA.out, .inr ⟨HSt.out, H0.out⟩⟩
    · have m1 : O.toList.isEmpty = false := by
        cases hh : O.toList.isEmpty
        · rfl
        · exact absurd (empty_len.1 (List.isEmpty_iff.1 hh)) h0
      have hpos : 0 < O.size := by omega
      clear h0
      go_wp2_with fail
      go_ret2
      exact .inr ⟨O, i, rfl, HS.out, hi, HA.out, HSt.out, hpos⟩
end Go.Proofs.YtkdfdfhejibopaaGreatDoor
