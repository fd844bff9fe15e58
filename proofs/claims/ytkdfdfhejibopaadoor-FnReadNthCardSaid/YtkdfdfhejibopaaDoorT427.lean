/- The reader's count: an+b. -/
import Derived.Test.YtkdfdfhejibopaaDoorT415
namespace Go.Proofs.YtkdfdfhejibopaaDoor
open Go.RowKit
set_option linter.unusedVariables false

def CntP (s : ByteArray) (g : Nat) (B : Nat) (W : World) (e : Ending) (w' : World) : Prop :=
  ∃ (a b : Int) (k : Nat) (bd u : Bool), e = .returned (.tuple #[.int .i64 a, .int .i64 b]) ∧ RdB s g k bd u B W w' ∧ k ≤ s.size ∧ -200000 ≤ a ∧ a ≤ 200000 ∧ -200000 ≤ b ∧ b ≤ 200000 ∧ (u = false → CntS s a b k bd)

/-- Behind the sign. -/
def SgL (s : ByteArray) (g : Nat) (B : Nat) (W : World) (v : Value) (wx : World) : Prop := ∃ (p : Nat) (σ : Int), v = .int .i64 σ ∧ Sg s p σ ∧ RdB s g p false false B W wx

set_option maxRecDepth 100000 in
set_option maxHeartbeats 8000000 in
theorem count_any (s : ByteArray) (g : Nat) (B : Nat) (W w : World) (hs : s.size ≤ 1000) (h : RdB s g 0 false false B W w) :
    Calls Tryd.prog 20 #[.pointer (some ⟨g, 0, none⟩)] w (CntP s g B W) := by
  have HR := Lib.hid h
  have HW1 := Lib.hid (word_any s oddT (by decide) g 0 false false B W w hs (Nat.zero_le _) h)
  clear h
  unfold WdP at HW1
  obtain ⟨b1, hb1⟩ : ∃ b1, b1 = wordB s oddT 0 := ⟨_, rfl⟩
  rw [← hb1] at HW1
  have HB1 := Lib.hid hb1
  clear hb1
  have hodd : (ByteArray.mk #[111, 100, 100]) = oddT := rfl
  have heven : (ByteArray.mk #[101, 118, 101, 110]) = evenT := rfl
  have HOdd := Lib.hid hodd
  have HEven := Lib.hid heven
  clear hodd heven
  go_enter Tryd.func20, Tryd.ntmps20
  go_wp2_with fail
  refine HW1.out.mono ?_
  rintro e1 w1 ⟨rfl, hr1⟩
  cases b1
  · rw [if_neg (by simp)] at hr1
    have HR1 := Lib.hid hr1
    have HW2 := Lib.hid (word_any s evenT (by decide) g 0 false false B W w1 hs (Nat.zero_le _) hr1)
    clear hr1
    unfold WdP at HW2
    obtain ⟨b2, hb2⟩ : ∃ b2, b2 = wordB s evenT 0 := ⟨_, rfl⟩
    rw [← hb2] at HW2
    have HB2 := Lib.hid hb2
    clear hb2
    go_wp2_with fail
    refine HW2.out.mono ?_
    rintro e1 w2 ⟨rfl, hr2⟩
    cases b2
    · rw [if_neg (by simp)] at hr2
      have HR2 := Lib.hid hr2
      have HNoT := Lib.hid (fun t h => takenG_no s t h g 0 false false B W w2 hs (Nat.zero_le _) hr2)
      have HYesT := Lib.hid (fun t h => takenG_yes s t h g 0 false false B W w2 hs (Nat.zero_le _) hr2)
      clear hr2 HW1 HW2 HR HR1
      go_upto_region 6 with fail
      go_cut [18] (fun v wx => ∃ b, v = .bool b ∧ (b = true ↔ bAt s 0 = 45) ∧ RdB s g (if b = true then 1 else 0) false false B W wx)
      case first =>
        as_aux_lemma =>
        cases hh : hereT s ⟨#[45]⟩ 0
        · have HT := Lib.hid (HNoT.out ⟨#[45]⟩ (by decide) hh)
          have HV : Hid (bAt s 0 ≠ 45) := fun q => by
            rw [here1] at hh
            have := of_decide_eq_false hh
            refine this ⟨?_, q⟩
            by_cases q2 : 0 < s.size
            · exact q2
            · rw [bAt_out (by omega)] at q; omega
          clear hh
          go_wp2_with fail
          refine HT.out.mono ?_
          rintro e1 w3 ⟨rfl, hr3⟩
          have HR3 := Lib.hid hr3
          clear hr3
          go_wp2_with fail
          go_meet
          exact ⟨false, rfl, ⟨(fun h => by cases h), fun h => absurd h HV.out⟩, HR3.out⟩
        · have HT := Lib.hid (HYesT.out ⟨#[45]⟩ (by decide) hh)
          have HV : Hid (bAt s 0 = 45) := by rw [here1] at hh; exact (of_decide_eq_true hh).2
          clear hh
          go_wp2_with fail
          refine HT.out.mono ?_
          rintro e1 w3 ⟨rfl, hr3⟩
          have HR3 := Lib.hid hr3
          clear hr3
          go_wp2_with fail
          go_meet
          exact ⟨true, rfl, ⟨fun _ => HV.out, fun _ => rfl⟩, HR3.out⟩
      case rest =>
        obtain ⟨b, rfl, hb, hr3⟩ := hcut
        have HBm := Lib.hid hb
        have HR3 := Lib.hid hr3
        clear hb hr3 HNoT HYesT
        go_upto_if 18 with fail
        go_cut [4] (fun v wx => SgL s g B W v wx)
        case first =>
          as_aux_lemma =>
          cases b
          · have HNo45 : Hid (bAt s 0 ≠ 45) := fun q => by have := HBm.out.2 q; cases this
            have HR4 : Hid (RdB s g 0 false false B W wc) := HR3.out
            cases hh : hereT s ⟨#[43]⟩ 0
            · have HT := Lib.hid (takenG_no s ⟨#[43]⟩ (by decide) g 0 false false B W wc hs (Nat.zero_le _) HR4.out hh)
              have HV : Hid (bAt s 0 ≠ 43) := fun q => by
                rw [here1] at hh
                have := of_decide_eq_false hh
                refine this ⟨?_, q⟩
                by_cases q2 : 0 < s.size
                · exact q2
                · rw [bAt_out (by omega)] at q; omega
              clear hh
              go_wp2_with fail
              refine HT.out.mono ?_
              rintro e1 w3 ⟨rfl, hr4⟩
              have HR5 := Lib.hid hr4
              clear hr4
              go_wp2_with fail
              go_meet
              exact ⟨0, 1, rfl, .inr (.inr ⟨HNo45.out, HV.out, rfl, rfl⟩), HR5.out⟩
            · have HT := Lib.hid (takenG_yes s ⟨#[43]⟩ (by decide) g 0 false false B W wc hs (Nat.zero_le _) HR4.out hh)
              have HV : Hid (bAt s 0 = 43) := by rw [here1] at hh; exact (of_decide_eq_true hh).2
              clear hh
              go_wp2_with fail
              refine HT.out.mono ?_
              rintro e1 w3 ⟨rfl, hr4⟩
              have HR5 := Lib.hid hr4
              clear hr4
              go_wp2_with fail
              go_meet
              exact ⟨1, 1, rfl, .inr (.inl ⟨HV.out, rfl, rfl⟩), HR5.out⟩
          · have H45 : Hid (bAt s 0 = 45) := HBm.out.1 rfl
            have HR4 : Hid (RdB s g 1 false false B W wc) := HR3.out
            go_wp2_with fail
            go_meet
            exact ⟨1, -1, rfl, .inl ⟨H45.out, rfl, rfl⟩, HR4.out⟩
        case rest =>
          obtain ⟨p, σ, rfl, hsg, hr4⟩ := hcut
          have HSg := Lib.hid hsg
          have HR4 := Lib.hid hr4
          obtain ⟨hp, hσ1, hσ2⟩ := hsg.le
          have HDg := Lib.hid (digits_any s g p false false B W wc hs hp hr4)
          clear hsg hr4 HBm HR3 HR2
          go_wp2_with fail
          refine HDg.out.mono ?_
          rintro e1 w4 ⟨j, hdg, rfl, hr5⟩
          -- @@
          obtain ⟨N, hN⟩ : ∃ N, N = dgC s p j := ⟨_, rfl⟩
          have hN1 : N ≤ 100000 := by rw [hN]; exact dgC_le _ _ _
          rw [← hN] at hr5 ⊢
          obtain ⟨bj, hbj⟩ : ∃ bj, bj = decide (0 < j) := ⟨_, rfl⟩
          rw [← hbj]
          obtain ⟨u1, hu1⟩ : ∃ u1, u1 = (false || decide (N = 100000)) := ⟨_, rfl⟩
          rw [← hu1] at hr5
          have HU1 : Hid (u1 = false → N < 100000) := fun h => by
            rw [hu1, Bool.false_or] at h
            have := of_decide_eq_false h
            omega
          have HN := Lib.hid hN
          have HBj := Lib.hid hbj
          have HDg2 := Lib.hid hdg
          have hpj : p + j ≤ s.size := hdg.le
          have HR5 := Lib.hid hr5
          have hsN1 : -100000 ≤ σ * (N : Int) := by
            have : σ = -1 ∨ σ = 0 ∨ σ = 1 := by omega
            rcases this with rfl | rfl | rfl <;> omega
          have hsN2 : σ * (N : Int) ≤ 100000 := by
            have : σ = -1 ∨ σ = 0 ∨ σ = 1 := by omega
            rcases this with rfl | rfl | rfl <;> omega
          have hmul : IntKind.i64.wrap (σ * (N : Int)) = σ * (N : Int) := IntWalk.i64_in _ ⟨by omega, by omega⟩
          have HNx := Lib.hid (next_any s g (p + j) w4 (by omega) (by omega) hr5.rd)
          obtain ⟨c, hc⟩ : ∃ c, c = bAt s (p + j) := ⟨_, rfl⟩
          have hc256 : c < 256 := by rw [hc]; exact bAt_lt _ _
          rw [← hc] at HNx
          have HC := Lib.hid hc
          clear hN hbj hu1 hdg hr5 HDg HR4 hc
          go_wp2_with fail
          refine HNx.out.mono ?_
          rintro e1 w5 ⟨rfl, q5, rfl⟩
          have HR6 := Lib.hid (HR5.out.drew q5)
          obtain ⟨w6, hw6⟩ : ∃ w6, w6 = w4.drewN q5 := ⟨_, rfl⟩
          rw [← hw6] at HR6 ⊢
          clear HNx HR5 hw6
          by_cases hln : isLN c
          · as_aux_lemma =>
            have HLn := Lib.hid hln
            have hln2 : (c = 110) ∨ (c = 78) := hln
            clear hln
            go_upto_region 11 with fail
            go_cut [33] (fun v wx => v = .bool false ∧ w6 = wx)
            case first =>
              rcases hln2 with q | q
              · have m0 : ((c : Int) != 110) = false := by simp [q]
                clear q
                go_wp2_with fail
                go_meet
                exact ⟨rfl, by trivial⟩
              · have m0 : ((c : Int) != 110) = true := by simp [q]
                have m1 : ((c : Int) != 78) = false := by simp [q]
                clear q
                go_wp2_with fail
                go_meet
                exact ⟨rfl, by trivial⟩
            case rest =>
              obtain ⟨rfl, rfl⟩ := hcut
              clear hln2
              have HR7 := Lib.hid (HR6.out.set (p + j + 1))
              have hlt : p + j < s.size := by
                by_cases q : p + j < s.size
                · exact q
                · have h1 := HC.out
                  rw [bAt_out (by omega)] at h1
                  have h2 := HLn.out
                  rw [h1] at h2
                  rcases h2 with h2 | h2 <;> omega
              obtain ⟨d0, d1⟩ := HR6.out.rd
              have f1' := HR6.out.fz 1
              go_upto_region 19 with fail
              go_cut [] (fun wx => RdB s g (p + j + 1) false u1 B W wx)
              case first =>
                go_wp2_with fail
                go_meet
                exact HR6.out.setI _ _ (by omega)
              case rest =>
                obtain ⟨F, hF⟩ : ∃ F, F = p + j + 1 := ⟨_, rfl⟩
                rw [← hF] at hcut
                have HR7 := Lib.hid hcut
                have HF := Lib.hid hF
                have hFs : F ≤ s.size := by omega
                clear hcut d0 d1 f1' HR6 hF
                go_upto_if 105 with fail
                go_cut [5] (fun v5 wx => v5 = .int .i64 ((num1 s p j : Nat) : Int) ∧ RdB s g F false u1 B W wx)
                case first =>
                  as_aux_lemma =>
                  cases bj
                  · have HV : Hid (num1 s p j = 1) := by
                      unfold num1 Hid
                      rw [if_pos]
                      have := of_decide_eq_false HBj.out.symm
                      omega
                    go_wp2_with fail
                    go_meet
                    exact ⟨by rw [HV.out]; rfl, HR7.out⟩
                  · have HV : Hid (num1 s p j = N) := by
                      unfold num1 Hid
                      rw [if_neg, HN.out]
                      have := of_decide_eq_true HBj.out.symm
                      omega
                    go_wp2_with fail
                    go_meet
                    exact ⟨by rw [HV.out], HR7.out⟩
                case rest =>
                  obtain ⟨rfl, hr8⟩ := hcut
                  obtain ⟨M, hM⟩ : ∃ M, M = num1 s p j := ⟨_, rfl⟩
                  rw [← hM]
                  have hM1 : M ≤ 100000 := by
                    rw [hM]; unfold num1
                    split
                    · omega
                    · exact dgC_le _ _ _
                  have HM := Lib.hid hM
                  have HR8 := Lib.hid hr8
                  have hsM : -100000 ≤ σ * (M : Int) ∧ σ * (M : Int) ≤ 100000 := by
                    have : σ = -1 ∨ σ = 0 ∨ σ = 1 := by omega
                    rcases this with rfl | rfl | rfl <;> omega
                  obtain ⟨hsM1, hsM2⟩ := hsM
                  have hmulM : IntKind.i64.wrap (σ * (M : Int)) = σ * (M : Int) := IntWalk.i64_in _ ⟨by omega, by omega⟩
                  have HSp := Lib.hid (fun U h => spaces_any s g F false u1 B W U hs hFs h)
                  obtain ⟨d0, d1⟩ := hr8.rd
                  clear hM hr8 hmul hsN1 hsN2 HR7
                  go_wp2_with fail
                  refine (HSp.out _ HR8.out).mono ?_
                  rintro e1 w9 ⟨bb, e, bd', u', rfl, hr9, he, hge, hu9⟩
                  have HR9 := Lib.hid hr9
                  have HU9 := Lib.hid hu9
                  have HNx := Lib.hid (next_any s g e w9 (by omega) (by omega) hr9.rd)
                  obtain ⟨c2, hc2⟩ : ∃ c2, c2 = bAt s e := ⟨_, rfl⟩
                  have hc256' : c2 < 256 := by rw [hc2]; exact bAt_lt _ _
                  rw [← hc2] at HNx
                  have HC2 := Lib.hid hc2
                  clear hr9 hu9 hc2 HSp HR8 d0 d1
                  go_wp2_with fail
                  refine HNx.out.mono ?_
                  rintro e1 w10 ⟨rfl, q10, rfl⟩
                  have HR10 := Lib.hid (HR9.out.drew q10)
                  obtain ⟨w11, hw11⟩ : ∃ w11, w11 = w9.drewN q10 := ⟨_, rfl⟩
                  rw [← hw11] at HR10 ⊢
                  clear HNx HR9 hw11
                  by_cases hsg2 : c2 = 43 ∨ c2 = 45
                  · as_aux_lemma =>
                    have HSg2 := Lib.hid hsg2
                    go_upto_region 25 with fail
                    go_cut [119] (fun v wx => v = .bool false ∧ w11 = wx)
                    case first =>
                      rcases hsg2 with q | q
                      · have m0 : ((c2 : Int) != 43) = false := by simp [q]
                        clear q
                        go_wp2_with fail
                        go_meet
                        exact ⟨rfl, by trivial⟩
                      · have m0 : ((c2 : Int) != 43) = true := by simp [q]
                        have m1 : ((c2 : Int) != 45) = false := by simp [q]
                        clear q
                        go_wp2_with fail
                        go_meet
                        exact ⟨rfl, by trivial⟩
                    case rest =>
                      obtain ⟨rfl, rfl⟩ := hcut
                      have hlt2 : e < s.size := by
                        by_cases q : e < s.size
                        · exact q
                        · have h1 := HC2.out
                          rw [bAt_out (by omega)] at h1
                          omega
                      clear hsg2
                      obtain ⟨d0, d1⟩ := HR10.out.rd
                      have f1' := HR10.out.fz 1
                      have HS11 : Hid (RdB s g (e + 1) bd' u' B W (w11.setCell ⟨g, 1, none⟩ (.int .i64 ((e : Int) + 1)))) := HR10.out.setI _ _ (by omega)
                      have HSp2 := Lib.hid (fun U h => spaces_any s g (e + 1) bd' u' B W U hs (by omega) h)
                      clear HR10
                      go_wp2_with fail
                      refine (HSp2.out _ HS11.out).mono ?_
                      rintro e1 w12 ⟨bb2, e2, bd2, u2, rfl, hr12, he2, hge2, hu12⟩
                      have HR12 := Lib.hid hr12
                      have HU12 := Lib.hid hu12
                      have HDg3 := Lib.hid (digits_any s g e2 bd2 u2 B W w12 hs he2 hr12)
                      clear hr12 hu12 d0 d1 f1' HSp2 HS11
                      go_wp2_with fail
                      refine HDg3.out.mono ?_
                      rintro e1 w13 ⟨j2, hdg2, rfl, hr13⟩
                      obtain ⟨K, hK⟩ : ∃ K, K = dgC s e2 j2 := ⟨_, rfl⟩
                      have hK1 : K ≤ 100000 := by rw [hK]; exact dgC_le _ _ _
                      rw [← hK] at hr13 ⊢
                      obtain ⟨bj2, hbj2⟩ : ∃ bj2, bj2 = decide (0 < j2) := ⟨_, rfl⟩
                      rw [← hbj2]
                      obtain ⟨u3, hu3⟩ : ∃ u3, u3 = (u2 || decide (K = 100000)) := ⟨_, rfl⟩
                      rw [← hu3] at hr13
                      have HU3 : Hid (u3 = false → u2 = false ∧ K < 100000) := fun h => by
                        rw [hu3, Bool.or_eq_false_iff] at h
                        have := of_decide_eq_false h.2
                        exact ⟨h.1, by omega⟩
                      have HK := Lib.hid hK
                      have HBj2 := Lib.hid hbj2
                      have HDg4 := Lib.hid hdg2
                      have hej2 : e2 + j2 ≤ s.size := hdg2.le
                      have HR13 := Lib.hid hr13
                      have k2 := hr13.c2
                      have g2 := hr13.fz 2
                      have HSt := Lib.hid (hr13.setB true)
                      have HSf := Lib.hid (hr13.setB false)
                      clear hK hbj2 hu3 hdg2 hr13 HDg3 HR12
                      go_upto_region 31 with fail
                      go_cut [] (fun wx => RdB s g (e2 + j2) (bd2 || !bj2) u3 B W wx)
                      case first =>
                        as_aux_lemma =>
                        cases bd2
                        · cases bj2
                          · go_wp2_with fail
                            go_meet
                            exact HSt.out
                          · go_wp2_with fail
                            go_meet
                            exact HSf.out
                        · go_wp2_with fail
                          go_meet
                          exact HSt.out
                      case rest =>
                        have HR14 := Lib.hid hcut
                        clear hcut k2 g2 HSt HSf HR13
                        go_upto_if 188 with fail
                        go_cut [11] (fun v wx => v = .int .i64 (if c2 = 45 then -(K : Int) else (K : Int)) ∧ RdB s g (e2 + j2) (bd2 || !bj2) u3 B W wx)
                        case first =>
                          as_aux_lemma =>
                          by_cases h45 : c2 = 45
                          · have m0 : ((c2 : Int) == 45) = true := beq_iff_eq.2 (by omega)
                            have HV : Hid ((if c2 = 45 then -(K : Int) else (K : Int)) = -(K : Int)) := by rw [Hid, if_pos h45]
                            clear h45
                            go_wp2_with fail
                            go_meet
                            exact ⟨by rw [HV.out], HR14.out⟩
                          · have m0 : ((c2 : Int) == 45) = false := beq_eq_false_iff_ne.2 (by omega)
                            have HV : Hid ((if c2 = 45 then -(K : Int) else (K : Int)) = (K : Int)) := by rw [Hid, if_neg h45]
                            clear h45
                            go_wp2_with fail
                            go_meet
                            exact ⟨by rw [HV.out], HR14.out⟩
                        case rest =>
                          obtain ⟨rfl, hr15⟩ := hcut
                          have HR15 := Lib.hid hr15
                          obtain ⟨Z, hZ⟩ : ∃ Z, Z = (if c2 = 45 then -(K : Int) else (K : Int)) := ⟨_, rfl⟩
                          have hZ1 : -100000 ≤ Z ∧ Z ≤ 100000 := by
                            rw [hZ]
                            split <;> omega
                          obtain ⟨hZ1, hZ2⟩ := hZ1
                          rw [← hZ]
                          have HZ := Lib.hid hZ
                          clear hZ hr15 HR14
                          go_wp2_with fail
                          go_ret2
                          refine ⟨_, Z, e2 + j2, bd2 || !bj2, u3, rfl, HR15.out, hej2, by omega, by omega, by omega, by omega, fun h => ?_⟩
                          obtain ⟨r1, r2⟩ := HU3.out h
                          obtain ⟨r3, r4⟩ := HU12.out r1
                          obtain ⟨r5, r6⟩ := HU9.out r3
                          obtain ⟨r7, r8⟩ := r6 (by trivial)
                          obtain ⟨r9, r10⟩ := r4 r7
                          rw [HF.out] at r8
                          refine .inr (.inr ⟨HB1.out.symm, HB2.out.symm, .inr (.inr ⟨p, j, e, e2, j2, σ, HSg.out, HDg2.out, ?_, ?_, ?_, r8, ?_, r10, HDg4.out, ?_, ?_, rfl, ?_⟩)⟩)
                          · rw [← HN.out]; exact HU1.out r5
                          · rw [← HC.out]; exact HLn.out
                          · rw [← HM.out]
                          · rw [← HC2.out]; exact HSg2.out
                          · rw [← HK.out]; exact r2
                          · rw [← HK.out, ← HC2.out]; exact HZ.out
                          · rw [r9, HBj2.out, Bool.false_or]
                            by_cases q : j2 = 0
                            · subst q; rfl
                            · have : 0 < j2 := by omega
                              simp [q, this]
                  · as_aux_lemma =>
                    have HNo : Hid (c2 ≠ 43 ∧ c2 ≠ 45) := by rw [Hid]; omega
                    have m0 : ((c2 : Int) != 43) = true := by simp; omega
                    have m1 : ((c2 : Int) != 45) = true := by simp; omega
                    clear hsg2
                    go_upto_region 26 with fail
                    go_cut [] (fun wx => ∃ u2 : Bool, RdB s g e bd' u2 B W wx ∧ (u2 = false → u' = false))
                    case first =>
                      as_aux_lemma =>
                      obtain ⟨d0, d1⟩ := HR10.out.rd
                      have d3 := HR10.out.c3
                      have g3 := HR10.out.fz 3
                      clear hmulM hsM1 hsM2 hσ1 hσ2 hp hN1 hM1 hpj hge hlt HSg HN HBj HDg2 HC HLn HM HF HU1 HU9 HC2 HB1 HB2 HOdd HEven hc256 HNo
                      cases u'
                      · have HNm := Lib.hid (fun U => nameByte_any c2 hc256' U)
                        unfold BoolP at HNm
                        obtain ⟨bn, hbn⟩ : ∃ bn, bn = isNm c2 := ⟨_, rfl⟩
                        rw [← hbn] at HNm
                        clear hbn
                        by_cases tE : e = F
                        · have m2 : ((e : Int) == (F : Int)) = true := beq_iff_eq.2 (by omega)
                          have m2' : (e == F) = true := beq_iff_eq.2 tE
                          clear tE
                          cases bn
                          · by_cases t9 : c2 = 92
                            · have m6 : ((c2 : Int) == 92) = true := beq_iff_eq.2 (by omega)
                              clear t9
                              go_wp2_with fail
                              refine (HNm.out _).mono ?_
                              rintro e1 w12 ⟨rfl, rfl⟩
                              go_wp2_with fail
                              go_meet
                              exact ⟨true, HR10.out.setU true, fun _ => by trivial⟩
                            · have m6 : ((c2 : Int) == 92) = false := beq_eq_false_iff_ne.2 (by omega)
                              clear t9
                              by_cases t1 : c2 = 111
                              · have m3 : ((c2 : Int) == 111) = true := beq_iff_eq.2 (by omega)
                                clear t1
                                go_wp2_with fail
                                refine (HNm.out _).mono ?_
                                rintro e1 w12 ⟨rfl, rfl⟩
                                go_wp2_with fail
                                go_meet
                                exact ⟨true, HR10.out.setU true, fun _ => by trivial⟩
                              have m3 : ((c2 : Int) == 111) = false := beq_eq_false_iff_ne.2 (by omega)
                              by_cases t2 : c2 = 79
                              · have m4 : ((c2 : Int) == 79) = true := beq_iff_eq.2 (by omega)
                                clear t1 t2
                                go_wp2_with fail
                                refine (HNm.out _).mono ?_
                                rintro e1 w12 ⟨rfl, rfl⟩
                                go_wp2_with fail
                                go_meet
                                exact ⟨true, HR10.out.setU true, fun _ => by trivial⟩
                              have m4 : ((c2 : Int) == 79) = false := beq_eq_false_iff_ne.2 (by omega)
                              clear t1 t2
                              by_cases t3 : 48 ≤ c2
                              · by_cases t4 : c2 ≤ 57
                                · have m5 : decide ((c2 : Int) ≤ 57) = true := decide_eq_true (by omega)
                                  go_wp2_with fail
                                  refine (HNm.out _).mono ?_
                                  rintro e1 w12 ⟨rfl, rfl⟩
                                  go_wp2_with fail
                                  go_meet
                                  exact ⟨true, HR10.out.setU true, fun _ => by trivial⟩
                                · have m5 : decide ((c2 : Int) ≤ 57) = false := decide_eq_false (by omega)
                                  go_wp2_with fail
                                  refine (HNm.out _).mono ?_
                                  rintro e1 w12 ⟨rfl, rfl⟩
                                  go_wp2_with fail
                                  go_meet
                                  exact ⟨false, HR10.out.setU false, fun _ => by trivial⟩
                              · have m5 : decide (48 ≤ (c2 : Int)) = false := decide_eq_false (by omega)
                                go_wp2_with fail
                                refine (HNm.out _).mono ?_
                                rintro e1 w12 ⟨rfl, rfl⟩
                                go_wp2_with fail
                                go_meet
                                exact ⟨false, HR10.out.setU false, fun _ => by trivial⟩
                          · skip
                            go_wp2_with fail
                            refine (HNm.out _).mono ?_
                            rintro e1 w12 ⟨rfl, rfl⟩
                            go_wp2_with fail
                            go_meet
                            exact ⟨true, HR10.out.setU true, fun _ => by trivial⟩
                        · have m2 : ((e : Int) == (F : Int)) = false := beq_eq_false_iff_ne.2 (by omega)
                          have m2' : (e == F) = false := beq_eq_false_iff_ne.2 tE
                          clear tE
                          by_cases t1 : c2 = 111
                          · have m3 : ((c2 : Int) == 111) = true := beq_iff_eq.2 (by omega)
                            clear t1
                            go_wp2_with fail
                            go_meet
                            exact ⟨true, HR10.out.setU true, fun _ => by trivial⟩
                          have m3 : ((c2 : Int) == 111) = false := beq_eq_false_iff_ne.2 (by omega)
                          by_cases t2 : c2 = 79
                          · have m4 : ((c2 : Int) == 79) = true := beq_iff_eq.2 (by omega)
                            clear t1 t2
                            go_wp2_with fail
                            go_meet
                            exact ⟨true, HR10.out.setU true, fun _ => by trivial⟩
                          have m4 : ((c2 : Int) == 79) = false := beq_eq_false_iff_ne.2 (by omega)
                          clear t1 t2
                          by_cases t3 : 48 ≤ c2
                          · by_cases t4 : c2 ≤ 57
                            · have m5 : decide ((c2 : Int) ≤ 57) = true := decide_eq_true (by omega)
                              go_wp2_with fail
                              go_meet
                              exact ⟨true, HR10.out.setU true, fun _ => by trivial⟩
                            · have m5 : decide ((c2 : Int) ≤ 57) = false := decide_eq_false (by omega)
                              go_wp2_with fail
                              go_meet
                              exact ⟨false, HR10.out.setU false, fun _ => by trivial⟩
                          · have m5 : decide (48 ≤ (c2 : Int)) = false := decide_eq_false (by omega)
                            go_wp2_with fail
                            go_meet
                            exact ⟨false, HR10.out.setU false, fun _ => by trivial⟩
                      · go_wp2_with fail
                        go_meet
                        exact ⟨true, HR10.out.setU true, fun h => h⟩
                    case rest =>
                      obtain ⟨u2, hr11, hu2⟩ := hcut
                      have HR11 := Lib.hid hr11
                      have HU2 := Lib.hid hu2
                      clear hr11 hu2 HR10
                      go_wp2_with fail
                      go_ret2
                      refine ⟨_, 0, e, bd', u2, rfl, HR11.out, he, by omega, by omega, by omega, by omega, fun h => ?_⟩
                      obtain ⟨r5, r6⟩ := HU9.out (HU2.out h)
                      obtain ⟨r7, r8⟩ := r6 (by trivial)
                      rw [HF.out] at r8
                      refine .inr (.inr ⟨HB1.out.symm, HB2.out.symm, .inr (.inl ⟨p, j, e, σ, HSg.out, HDg2.out, ?_, ?_, ?_, r8, ?_, ?_, rfl, rfl, r7⟩)⟩)
                      · rw [← HN.out]; exact HU1.out r5
                      · rw [← HC.out]; exact HLn.out
                      · rw [← HM.out]
                      · rw [← HC2.out]; exact HNo.out.1
                      · rw [← HC2.out]; exact HNo.out.2
          · as_aux_lemma =>
            have HLn := Lib.hid hln
            have hl1 : c ≠ 110 := fun q => hln (.inl q)
            have hl2 : c ≠ 78 := fun q => hln (.inr q)
            have m0 : ((c : Int) != 110) = true := by simp; omega
            have m1 : ((c : Int) != 78) = true := by simp; omega
            clear hln hl1 hl2
            have c2 := HR6.out.c2
            have f2 := HR6.out.fz 2
            have HSb := Lib.hid (HR6.out.setB true)
            have HSb0 := Lib.hid (HR6.out.setB false)
            go_upto_region 12 with fail
            go_cut [] (fun wx => RdB s g (p + j) (!bj) u1 B W wx)
            case first =>
              as_aux_lemma =>
              cases bj
              · go_wp2_with fail
                go_meet
                exact HSb.out
              · go_wp2_with fail
                go_meet
                exact HSb0.out
            case rest =>
              have HR7 := Lib.hid hcut
              have c1' := hcut.rd.at_
              clear hcut HSb HSb0 c2 f2 HR6
              go_upto_block 0 with fail
              go_cut [8] (fun v8 wx => ∃ u2 : Bool, RdB s g (p + j) (!bj) u2 B W wx ∧ (u2 = false → u1 = false ∧ ∀ i, p + j ≤ i → i < p + j + 4 → bAt s i ≠ 92))
              case first =>
                as_aux_lemma =>
                go_wp2_with fail
                go_loopg [8] 4 (fun gk v8 wr => ∃ (d : Nat) (u2 : Bool), gk = 4 - d ∧ d ≤ 4 ∧ v8 = .int .i64 ((p + j + d : Nat) : Int) ∧ Hid (RdB s g (p + j) (!bj) u2 B W wr) ∧ Hid (u2 = false → u1 = false ∧ ∀ i, p + j ≤ i → i < p + j + d → bAt s i ≠ 92))
                case atStart => exact ⟨0, u1, rfl, by omega, by go_num, HR7.out, fun h => ⟨h, fun i q1 q2 => by omega⟩⟩
                case round =>
                  obtain ⟨d, u2, rfl, hd, rfl, HW, HB⟩ := hrel
                  clear c1'
                  obtain ⟨d0, d1⟩ := HW.out.rd
                  have d3 := HW.out.c3
                  have f3 := HW.out.fz 3
                  by_cases hlt : p + j + d < s.size
                  · by_cases hd4 : d < 4
                    · have hbb := bAt_in hlt
                      cases u2
                      · by_cases h92 : s[p + j + d].toNat = 92
                        · have k0 : ((s[p + j + d].toNat : Int) == 92) = true := beq_iff_eq.2 (by omega)
                          clear hbb h92
                          go_wp2_with fail
                          go_roundg (4 - (d + 1))
                          case measure => omega
                          case rel => exact ⟨d + 1, true, rfl, by omega, by go_num, HW.out.setU true, (fun h => by cases h)⟩
                        · have k0 : ((s[p + j + d].toNat : Int) == 92) = false := beq_eq_false_iff_ne.2 (by omega)
                          have HB2 : Hid (u1 = false ∧ ∀ i, p + j ≤ i → i < p + j + (d + 1) → bAt s i ≠ 92) := by
                            obtain ⟨r1, r2⟩ := HB.out rfl
                            refine ⟨r1, fun i q1 q2 => ?_⟩
                            by_cases q : i < p + j + d
                            · exact r2 i q1 q
                            · have : i = p + j + d := by omega
                              subst this; rw [hbb]; exact h92
                          clear hbb h92
                          go_wp2_with fail
                          go_roundg (4 - (d + 1))
                          case measure => omega
                          case rel => exact ⟨d + 1, false, rfl, by omega, by go_num, HW.out.setU false, fun _ => HB2.out⟩
                      · clear hbb
                        go_wp2_with fail
                        go_roundg (4 - (d + 1))
                        case measure => omega
                        case rel => exact ⟨d + 1, true, rfl, by omega, by go_num, HW.out.setU true, (fun h => by cases h)⟩
                    · have hd5 : d = 4 := by omega
                      have HB2 : Hid (u2 = false → u1 = false ∧ ∀ i, p + j ≤ i → i < p + j + 4 → bAt s i ≠ 92) := by rw [← hd5]; exact HB.out
                      go_wp2_with fail
                      go_meet
                      exact ⟨u2, HW.out, HB2.out⟩
                  · have HB2 : Hid (u2 = false → u1 = false ∧ ∀ i, p + j ≤ i → i < p + j + 4 → bAt s i ≠ 92) := fun h => by
                      obtain ⟨r1, r2⟩ := HB.out h
                      refine ⟨r1, fun i q1 q2 => ?_⟩
                      by_cases q : i < p + j + d
                      · exact r2 i q1 q
                      · rw [bAt_out (by omega)]; omega
                    go_wp2_with fail
                    go_meet
                    exact ⟨u2, HW.out, HB2.out⟩
              case rest =>
                obtain ⟨u2, hr8, hu2⟩ := hcut
                have HR8 := Lib.hid hr8
                have HU2 := Lib.hid hu2
                have d3 := hr8.c3
                have f3 := hr8.fz 3
                have HHr := Lib.hid (hereG_any s ⟨#[111, 102]⟩ (by decide) g (p + j) wc hs hpj hr8.rd)
                obtain ⟨bo, hbo⟩ : ∃ bo, bo = hereT s ⟨#[111, 102]⟩ (p + j) := ⟨_, rfl⟩
                rw [← hbo] at HHr
                clear hr8 hu2 c1' HR7 hbo
                go_upto_region 17 with fail
                go_cut [] (fun wx => ∃ u3 : Bool, RdB s g (p + j) (!bj) u3 B W wx ∧ (u3 = false → u2 = false))
                case first =>
                  cases u2
                  · go_wp2_with fail
                    refine HHr.out.mono ?_
                    rintro e1 w9 ⟨rfl, q9, rfl⟩
                    have HR9 := Lib.hid (HR8.out.drew q9)
                    go_wp2_with fail
                    go_meet
                    exact ⟨bo, HR9.out.setU bo, fun _ => by trivial⟩
                  · go_wp2_with fail
                    go_meet
                    exact ⟨true, HR8.out.setU true, fun h => h⟩
                case rest =>
                  obtain ⟨u3, hr9, hu3⟩ := hcut
                  have HR9 := Lib.hid hr9
                  have HU3 := Lib.hid hu3
                  clear hr9 hu3
                  go_wp2_with fail
                  go_ret2
                  refine ⟨0, _, p + j, !bj, u3, rfl, HR9.out, hpj, by omega, by omega, by omega, by omega, fun h => ?_⟩
                  obtain ⟨r1, r2⟩ := HU2.out (HU3.out h)
                  refine .inr (.inr ⟨HB1.out.symm, HB2.out.symm, .inl ⟨p, j, σ, HSg.out, HDg2.out, ?_, ?_, rfl, ?_, rfl, ?_, r2⟩⟩)
                  · rw [← HN.out]; exact HU1.out r1
                  · rw [← HC.out]; exact HLn.out
                  · rw [← HN.out]
                  · rw [HBj.out]
                    by_cases q : j = 0
                    · subst q; rfl
                    · have : 0 < j := by omega
                      simp [q, this]
          -- @@@
    · rw [if_pos rfl] at hr2
      have HR2 := Lib.hid hr2
      have hsz : 4 ≤ s.size := by
        have := HB2.out
        have := of_decide_eq_true this.symm
        exact this.1
      clear hr2
      go_wp2_with fail
      go_ret2
      exact ⟨2, 0, 4, false, false, rfl, HR2.out, hsz, by omega, by omega, by omega, by omega, fun _ => .inr (.inl ⟨HB1.out.symm, HB2.out.symm, rfl, rfl, rfl, rfl⟩)⟩
  · rw [if_pos rfl] at hr1
    have HR1 := Lib.hid hr1
    have hsz : 3 ≤ s.size := by
      have := HB1.out
      have := of_decide_eq_true this.symm
      exact this.1
    clear hr1
    go_wp2_with fail
    go_ret2
    exact ⟨2, 1, 3, false, false, rfl, HR1.out, hsz, by omega, by omega, by omega, by omega, fun _ => .inl ⟨HB1.out.symm, rfl, rfl, rfl, rfl⟩⟩
end Go.Proofs.YtkdfdfhejibopaaDoor
