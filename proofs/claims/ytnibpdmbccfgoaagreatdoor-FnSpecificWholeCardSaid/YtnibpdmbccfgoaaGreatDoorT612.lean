/- parseNth: behind a plus. -/
import Derived.Test.YtnibpdmbccfgoaaGreatDoorT611
namespace Go.Proofs.YtnibpdmbccfgoaaGreatDoor
open Go.RowKit
set_option linter.unusedVariables false

set_option maxRecDepth 100000 in
set_option maxHeartbeats 4000000 in
theorem nth_pos (s : ByteArray) (g m : Nat) (D P : Value) (B : Nat) (W w : World) (R : Ending → World → Prop) (C : Code) (Z : Nat → Exit → Act → World → Prop) (n : Nat) (h : NthV R C Z) (T : Array Value) (hT : T.size = 280)
    (h0 : T.getD 0 undef = .pointer (some ⟨g, 0, none⟩)) (hs : s.size ≤ 100000) (hm : m ≤ s.size)
    (hsm : SmD s m)
    (hp : PrX s g m D P B W w) (hR : ∀ r e w', RP s m (1 : Int) r → NthR s g D P B W r e w' → R e w') : Z (n + 4) (.goto 2) ⟨T, []⟩ w := by
  have HN := Lib.hid h
  obtain ⟨hC, HV⟩ := h
  obtain ⟨U, rfl, hU⟩ := spread T hT
  rw [← hU 0] at h0
  rw [h0]
  obtain ⟨r, hr⟩ := hC
  obtain ⟨r0, hr0⟩ : ∃ r0, Tryz.f58.body = some (.seq r0 (.scope _)) := ⟨_, rfl⟩
  obtain rfl := (Code.scope.inj (Code.seq.inj (Option.some.inj (hr.symm.trans hr0))).2)
  refine HV.jump (n + 3) 2 _ _ w rfl ?_
  clear hr hr0
  have HR := Lib.hid hR
  have HP := Lib.hid hp
  have HZ := Lib.hid HV.ret
  have c0 := hp.c0
  have c1 := hp.c1
  clear hR hp hU HV hT h0
  have HSm := Lib.hid hsm
  clear hsm
  by_cases hlt : m < s.size
  · have hb := bAt_in hlt
    have HB : Hid (bAt s m = s[m].toNat) := hb
    have HP1 : Hid (∀ q, PrX s g m D P B W (w.drewN q)) := fun q => HP.out.drew q
    by_cases hdg : 48 ≤ s[m].toNat ∧ s[m].toNat ≤ 57
    · obtain ⟨hd1, hd2⟩ := hdg
      have HDg : Hid (isDg (bAt s m) = true) := by rw [Hid, hb, isDg_iff]; exact ⟨hd1, hd2⟩
      obtain ⟨j, hj⟩ := dgTo_ex s m hm
      have hj0 := dg_pos hj HDg.out
      have hc := (HSm.out j hj).1
      have HA := Lib.hid (HSm.out j hj).2
      have hv : dgV s m j < 100000 := by rw [← dgC_eq s m j hc]; exact hc
      have HInt := Lib.hid (fun U hU => pInteger_any s g m j D P B W U hs hj hc hU)
      have HX : Hid (∀ r, RA s (m + j) ((1 : Int) * (dgV s m j : Int)) r → RP s m (1 : Int) r) := fun r q => .inr (.inl ⟨hlt, HDg.out, j, hj0, hj, q⟩)
      have hmj := hj.le
      clear hb hj hc
      go_wp2_with fail
      go_quiet (fail)
      go_wp2_with fail
      go_quiet (fail)
      let QQ : Exit → Act → World → Prop := bodyPost Tryz.prog Tryz.f58 R
      go_upto_if 104 with fail
      go_cut [104] (fun v wx => v = .bool true ∧ PrX s g m D P B W wx)
      case first =>
        clear QQ
        as_aux_lemma =>
        have hcs : s[m].toNat = 48 ∨ s[m].toNat = 49 ∨ s[m].toNat = 50 ∨ s[m].toNat = 51 ∨ s[m].toNat = 52 ∨ s[m].toNat = 53 ∨ s[m].toNat = 54 ∨ s[m].toNat = 55 ∨ s[m].toNat = 56 ∨ s[m].toNat = 57 := by omega
        rcases hcs with q | q | q | q | q | q | q | q | q | q
        · have m48 : ((s[m].toNat : Int) == 48) = true := beq_iff_eq.2 (by omega)
          clear q
          go_wp2_with fail
          go_meet
          exact ⟨by rw [m48], HP1.out _⟩
        · have m48 : ((s[m].toNat : Int) == 48) = false := beq_eq_false_iff_ne.2 (by omega)
          have m49 : ((s[m].toNat : Int) == 49) = true := beq_iff_eq.2 (by omega)
          clear q
          go_wp2_with fail
          go_meet
          exact ⟨rfl, HP1.out _⟩
        · have m48 : ((s[m].toNat : Int) == 48) = false := beq_eq_false_iff_ne.2 (by omega)
          have m49 : ((s[m].toNat : Int) == 49) = false := beq_eq_false_iff_ne.2 (by omega)
          have m50 : ((s[m].toNat : Int) == 50) = true := beq_iff_eq.2 (by omega)
          clear q
          go_wp2_with fail
          go_meet
          exact ⟨rfl, HP1.out _⟩
        · have m48 : ((s[m].toNat : Int) == 48) = false := beq_eq_false_iff_ne.2 (by omega)
          have m49 : ((s[m].toNat : Int) == 49) = false := beq_eq_false_iff_ne.2 (by omega)
          have m50 : ((s[m].toNat : Int) == 50) = false := beq_eq_false_iff_ne.2 (by omega)
          have m51 : ((s[m].toNat : Int) == 51) = true := beq_iff_eq.2 (by omega)
          clear q
          go_wp2_with fail
          go_meet
          exact ⟨rfl, HP1.out _⟩
        · have m48 : ((s[m].toNat : Int) == 48) = false := beq_eq_false_iff_ne.2 (by omega)
          have m49 : ((s[m].toNat : Int) == 49) = false := beq_eq_false_iff_ne.2 (by omega)
          have m50 : ((s[m].toNat : Int) == 50) = false := beq_eq_false_iff_ne.2 (by omega)
          have m51 : ((s[m].toNat : Int) == 51) = false := beq_eq_false_iff_ne.2 (by omega)
          have m52 : ((s[m].toNat : Int) == 52) = true := beq_iff_eq.2 (by omega)
          clear q
          go_wp2_with fail
          go_meet
          exact ⟨rfl, HP1.out _⟩
        · have m48 : ((s[m].toNat : Int) == 48) = false := beq_eq_false_iff_ne.2 (by omega)
          have m49 : ((s[m].toNat : Int) == 49) = false := beq_eq_false_iff_ne.2 (by omega)
          have m50 : ((s[m].toNat : Int) == 50) = false := beq_eq_false_iff_ne.2 (by omega)
          have m51 : ((s[m].toNat : Int) == 51) = false := beq_eq_false_iff_ne.2 (by omega)
          have m52 : ((s[m].toNat : Int) == 52) = false := beq_eq_false_iff_ne.2 (by omega)
          have m53 : ((s[m].toNat : Int) == 53) = true := beq_iff_eq.2 (by omega)
          clear q
          go_wp2_with fail
          go_meet
          exact ⟨rfl, HP1.out _⟩
        · have m48 : ((s[m].toNat : Int) == 48) = false := beq_eq_false_iff_ne.2 (by omega)
          have m49 : ((s[m].toNat : Int) == 49) = false := beq_eq_false_iff_ne.2 (by omega)
          have m50 : ((s[m].toNat : Int) == 50) = false := beq_eq_false_iff_ne.2 (by omega)
          have m51 : ((s[m].toNat : Int) == 51) = false := beq_eq_false_iff_ne.2 (by omega)
          have m52 : ((s[m].toNat : Int) == 52) = false := beq_eq_false_iff_ne.2 (by omega)
          have m53 : ((s[m].toNat : Int) == 53) = false := beq_eq_false_iff_ne.2 (by omega)
          have m54 : ((s[m].toNat : Int) == 54) = true := beq_iff_eq.2 (by omega)
          clear q
          go_wp2_with fail
          go_meet
          exact ⟨rfl, HP1.out _⟩
        · have m48 : ((s[m].toNat : Int) == 48) = false := beq_eq_false_iff_ne.2 (by omega)
          have m49 : ((s[m].toNat : Int) == 49) = false := beq_eq_false_iff_ne.2 (by omega)
          have m50 : ((s[m].toNat : Int) == 50) = false := beq_eq_false_iff_ne.2 (by omega)
          have m51 : ((s[m].toNat : Int) == 51) = false := beq_eq_false_iff_ne.2 (by omega)
          have m52 : ((s[m].toNat : Int) == 52) = false := beq_eq_false_iff_ne.2 (by omega)
          have m53 : ((s[m].toNat : Int) == 53) = false := beq_eq_false_iff_ne.2 (by omega)
          have m54 : ((s[m].toNat : Int) == 54) = false := beq_eq_false_iff_ne.2 (by omega)
          have m55 : ((s[m].toNat : Int) == 55) = true := beq_iff_eq.2 (by omega)
          clear q
          go_wp2_with fail
          go_meet
          exact ⟨rfl, HP1.out _⟩
        · have m48 : ((s[m].toNat : Int) == 48) = false := beq_eq_false_iff_ne.2 (by omega)
          have m49 : ((s[m].toNat : Int) == 49) = false := beq_eq_false_iff_ne.2 (by omega)
          have m50 : ((s[m].toNat : Int) == 50) = false := beq_eq_false_iff_ne.2 (by omega)
          have m51 : ((s[m].toNat : Int) == 51) = false := beq_eq_false_iff_ne.2 (by omega)
          have m52 : ((s[m].toNat : Int) == 52) = false := beq_eq_false_iff_ne.2 (by omega)
          have m53 : ((s[m].toNat : Int) == 53) = false := beq_eq_false_iff_ne.2 (by omega)
          have m54 : ((s[m].toNat : Int) == 54) = false := beq_eq_false_iff_ne.2 (by omega)
          have m55 : ((s[m].toNat : Int) == 55) = false := beq_eq_false_iff_ne.2 (by omega)
          have m56 : ((s[m].toNat : Int) == 56) = true := beq_iff_eq.2 (by omega)
          clear q
          go_wp2_with fail
          go_meet
          exact ⟨rfl, HP1.out _⟩
        · have m48 : ((s[m].toNat : Int) == 48) = false := beq_eq_false_iff_ne.2 (by omega)
          have m49 : ((s[m].toNat : Int) == 49) = false := beq_eq_false_iff_ne.2 (by omega)
          have m50 : ((s[m].toNat : Int) == 50) = false := beq_eq_false_iff_ne.2 (by omega)
          have m51 : ((s[m].toNat : Int) == 51) = false := beq_eq_false_iff_ne.2 (by omega)
          have m52 : ((s[m].toNat : Int) == 52) = false := beq_eq_false_iff_ne.2 (by omega)
          have m53 : ((s[m].toNat : Int) == 53) = false := beq_eq_false_iff_ne.2 (by omega)
          have m54 : ((s[m].toNat : Int) == 54) = false := beq_eq_false_iff_ne.2 (by omega)
          have m55 : ((s[m].toNat : Int) == 55) = false := beq_eq_false_iff_ne.2 (by omega)
          have m56 : ((s[m].toNat : Int) == 56) = false := beq_eq_false_iff_ne.2 (by omega)
          have m57 : ((s[m].toNat : Int) == 57) = true := beq_iff_eq.2 (by omega)
          clear q
          go_wp2_with fail
          go_meet
          exact ⟨rfl, HP1.out _⟩
      case rest =>
        clear QQ
        as_aux_lemma =>
        obtain ⟨rfl, hr1⟩ := hcut
        have HR1 := Lib.hid hr1
        clear hr1 c0 c1
        go_wp2_with fail
        refine (HInt.out _ HR1.out).mono ?_
        rintro e1 w3 (⟨h0, _⟩ | ⟨h0, rfl, hr3⟩)
        · exact absurd h0 (by omega)
        · have HR3 := Lib.hid hr3
          obtain ⟨V, hV⟩ : ∃ V : Int, V = ((dgV s m j : Nat) : Int) := ⟨_, rfl⟩
          have hV1 : 0 ≤ V ∧ V < 100000 := by omega
          obtain ⟨hV1, hV2⟩ := hV1
          rw [← hV] at HX ⊢
          clear hr3 hV hv h0
          go_wp2_with fail
          go_step3
          go_wp2_with fail
          exact nth_a s g (m + j) D P B W _ R _ Z n HN.out _ rfl V rfl rfl hs hmj (HA.out) HR3.out (fun r e' w' hrn hh => HR.out r e' w' (HX.out r (by rw [Int.one_mul]; exact hrn)) hh)
    · have HDg : Hid (isDg (bAt s m) = false) := by rw [Hid, hb, isDg_no]; exact hdg
      have hj0 := dg_zero hm HDg.out
      have HA := Lib.hid (HSm.out 0 hj0).2
      clear hj0
      have hlo : s[m].toNat < 48 ∨ 57 < s[m].toNat := by omega
      clear hdg
      go_wp2_with fail
      go_quiet (fail)
      go_wp2_with fail
      go_quiet (fail)
      let QQ : Exit → Act → World → Prop := bodyPost Tryz.prog Tryz.f58 R
      go_upto_if 104 with fail
      go_cut [104] (fun v wx => v = .bool false ∧ PrX s g m D P B W wx)
      case first =>
        clear hb QQ
        as_aux_lemma =>
        have m48 : ((s[m].toNat : Int) == 48) = false := beq_eq_false_iff_ne.2 (by omega)
        have m49 : ((s[m].toNat : Int) == 49) = false := beq_eq_false_iff_ne.2 (by omega)
        have m50 : ((s[m].toNat : Int) == 50) = false := beq_eq_false_iff_ne.2 (by omega)
        have m51 : ((s[m].toNat : Int) == 51) = false := beq_eq_false_iff_ne.2 (by omega)
        have m52 : ((s[m].toNat : Int) == 52) = false := beq_eq_false_iff_ne.2 (by omega)
        have m53 : ((s[m].toNat : Int) == 53) = false := beq_eq_false_iff_ne.2 (by omega)
        have m54 : ((s[m].toNat : Int) == 54) = false := beq_eq_false_iff_ne.2 (by omega)
        have m55 : ((s[m].toNat : Int) == 55) = false := beq_eq_false_iff_ne.2 (by omega)
        have m56 : ((s[m].toNat : Int) == 56) = false := beq_eq_false_iff_ne.2 (by omega)
        have m57 : ((s[m].toNat : Int) == 57) = false := beq_eq_false_iff_ne.2 (by omega)
        go_wp2_with fail
        go_meet
        exact ⟨rfl, HP1.out _⟩
      case rest =>
        clear QQ
        as_aux_lemma =>
        obtain ⟨rfl, hr1⟩ := hcut
        have HR1 := Lib.hid hr1
        clear hlo c0 c1
        have c1 := hr1.c1
        have f1 := hr1.fz 1
        have HS := Lib.hid (hr1.set (m + 1))
        clear hr1
        by_cases h110 : s[m].toNat = 110
        · have m110 : ((s[m].toNat : Int) == 110) = true := beq_iff_eq.2 (by omega)
          have HL : Hid (isLN (bAt s m)) := .inl (hb.trans h110)
          have HX : Hid (∀ r, RN s (m + 1) (1 : Int) r → RP s m (1 : Int) r) := fun r q => .inr (.inr (.inl ⟨hlt, HL.out, q⟩))
          have HSn : Hid (SmN s (m + 1)) := HA.out (by omega) HL.out
          clear hb h110
          go_wp2_with fail
          go_step3
          go_wp2_with fail
          exact nth_n s g (m + 1) D P B W _ R _ Z (n + 1) HN.out _ rfl (1 : Int) rfl rfl hs (by omega) HSn.out HS.out (fun r e' w' hrn hh => HR.out r e' w' (HX.out r hrn) hh)
        · have m110 : ((s[m].toNat : Int) == 110) = false := beq_eq_false_iff_ne.2 (by omega)
          by_cases h78 : s[m].toNat = 78
          · have m78 : ((s[m].toNat : Int) == 78) = true := beq_iff_eq.2 (by omega)
            have HL : Hid (isLN (bAt s m)) := .inr (hb.trans h78)
            have HX : Hid (∀ r, RN s (m + 1) (1 : Int) r → RP s m (1 : Int) r) := fun r q => .inr (.inr (.inl ⟨hlt, HL.out, q⟩))
            have HSn : Hid (SmN s (m + 1)) := HA.out (by omega) HL.out
            clear hb h110 h78
            go_wp2_with fail
            go_step3
            go_wp2_with fail
            exact nth_n s g (m + 1) D P B W _ R _ Z (n + 1) HN.out _ rfl (1 : Int) rfl rfl hs (by omega) HSn.out HS.out (fun r e' w' hrn hh => HR.out r e' w' (HX.out r hrn) hh)
          · have m78 : ((s[m].toNat : Int) == 78) = false := beq_eq_false_iff_ne.2 (by omega)
            have HX : Hid (RP s m (1 : Int) none) := .inr (.inr (.inr ⟨hlt, HDg.out, (fun q => by rw [hb] at q; rcases q with q | q; exact h110 q; exact h78 q), rfl⟩))
            clear hb h110 h78
            go_wp2_with fail
            go_step3
            go_wp2_with fail
            exact nth_inv s g m D P B W _ R _ Z (n + 2) HN.out _ rfl HR1.out (fun e' w' hno => HR.out none e' w' HX.out hno)
  · go_wp2_with fail
    go_quiet (fail)
    go_wp2_with fail
    go_step3
    go_wp2_with fail
    have hee : m = s.size := by omega
    exact nth_eof s g m D P B W _ R _ Z (n + 2) HN.out _ rfl (HP.out.drew _) (fun e' w' hno => HR.out none e' w' (.inl ⟨hee, rfl⟩) hno)

end Go.Proofs.YtnibpdmbccfgoaaGreatDoor
