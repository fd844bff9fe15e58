/- (*parser).parseNth. -/
import Derived.Test.YtkdfdfhejibopaaDoorT432
namespace Go.Proofs.YtkdfdfhejibopaaDoor
open Go.RowKit
set_option linter.unusedVariables false

def isOE (c : Nat) : Prop := c = 111 ∨ c = 79 ∨ c = 101 ∨ c = 69
/-- Where a word stands. -/
def WordR (s : ByteArray) (m : Nat) (r : Option (Int × Int × Nat)) : Prop :=
  (r = none ∧ ∃ acc i, NmAc s m acc i ∧ (NmBad s i ∨ (NmStop s i ∧ acc.size = 0))) ∨
  ∃ out i, NmAc s m out i ∧ NmStop s i ∧ 0 < out.size ∧ ((lowS out = oddT ∧ r = some (2, 1, i)) ∨ (lowS out ≠ oddT ∧ lowS out = evenT ∧ r = some (2, 0, i)) ∨ (lowS out ≠ oddT ∧ lowS out ≠ evenT ∧ r = none))
/-- What parseNth answers. -/
def PN (s : ByteArray) (m : Nat) (r : Option (Int × Int × Nat)) : Prop :=
  (∃ p σ, Sg s p σ ∧ RP s p σ r ∧ (p = m + 1 ∨ isDg (bAt s m) = true ∨ isLN (bAt s m))) ∨ (s.size = 0 ∧ r = none) ∨ (0 < s.size ∧ isOE (bAt s m) ∧ WordR s m r) ∨
  (0 < s.size ∧ bAt s m ≠ 45 ∧ bAt s m ≠ 43 ∧ isDg (bAt s m) = false ∧ ¬ isLN (bAt s m) ∧ ¬ isOE (bAt s m) ∧ r = none)
def PnP (s : ByteArray) (m g : Nat) (D P : Value) (B : Nat) (W : World) (e : Ending) (w' : World) : Prop := ∃ r, PN s m r ∧ NthR s g D P B W r e w'

set_option maxRecDepth 100000 in
set_option maxHeartbeats 8000000 in
theorem pNth_any (s : ByteArray) (m g : Nat) (hm0 : m = 0) (D P : Value) (B : Nat) (W w : World) (hs : s.size ≤ 1000) (hm : m ≤ s.size) (hsm : ¬ isOE (bAt s m) → ∀ p σ, Sg s p σ → SmD s p) (hp : PrW s g m D P B W w) :
    Calls Tryd.prog 37 #[.pointer (some ⟨g, 0, none⟩)] w (PnP s m g D P B W) := by
  have HP := Lib.hid hp
  have HM := Lib.hid hm0
  clear hm0
  have c0 := hp.c0
  have c1 := hp.c1
  clear hp
  have eO : oddT.toList = [111, 100, 100] := by rw [ByteArray.toList_eq]; rfl
  have eE : evenT.toList = [101, 118, 101, 110] := by rw [ByteArray.toList_eq]; rfl
  have HEO := Lib.hid eO
  have HEE := Lib.hid eE
  clear eO eE
  go_enter Tryd.func37, Tryd.ntmps37
  go_wp2_with fail
  refine wp_scope_via 5 (fun Z HV => ?_)
  have HN : Hid (NthV (PnP s m g D P B W) _ Z) := ⟨⟨_, rfl⟩, HV⟩
  have HZ := Lib.hid HV.ret
  clear HV
  by_cases hlt : m < s.size
  · have hb := bAt_in hlt
    have HP1 : Hid (∀ q, PrW s g m D P B W (w.drewN q)) := fun q => HP.out.drew q
    by_cases h45 : s[m].toNat = 45
    · as_aux_lemma =>
      have m45 : ((s[m].toNat : Int) == 45) = true := beq_iff_eq.2 (by omega)
      have HSg : Hid (Sg s (m + 1) (-1)) := by have q := HM.out; subst q; exact .inl ⟨hb.trans h45, rfl, rfl⟩
      have HSm := Lib.hid (hsm (fun q => by rw [hb] at q; rcases q with q | q | q | q <;> omega) (m + 1) _ HSg.out)
      have f1 := HP.out.fz 1
      have HS : Hid (∀ U q x, x = ((m + 1 : Nat) : Int) → PrW s g m D P B W U → PrW s g (m + 1) D P B W ((U.drewN q).setCell ⟨g, 1, none⟩ (.int .i64 x))) := fun U q x hx h => (h.drew q).setI _ _ hx
      clear hb h45 hsm
      go_wp2_with fail
      go_quiet (fail)
      go_wp2_with fail
      go_quiet (fail)
      go_wp2_with fail
      go_step3
      go_wp2_with fail
      exact nth_neg s g (m + 1) D P B W _ _ _ Z 1 HN.out _ rfl rfl hs (by omega) HSm.out (HS.out _ _ _ (by omega) HP.out) (fun r e' w' hrn hh => ⟨r, .inl ⟨m + 1, -1, HSg.out, hrn, .inl rfl⟩, hh⟩)
    by_cases h43 : s[m].toNat = 43
    · as_aux_lemma =>
      have m45 : ((s[m].toNat : Int) == 45) = false := beq_eq_false_iff_ne.2 (by omega)
      have m43 : ((s[m].toNat : Int) == 43) = true := beq_iff_eq.2 (by omega)
      have HSg : Hid (Sg s (m + 1) 1) := by have q := HM.out; subst q; exact .inr (.inl ⟨hb.trans h43, rfl, rfl⟩)
      have HSm := Lib.hid (hsm (fun q => by rw [hb] at q; rcases q with q | q | q | q <;> omega) (m + 1) _ HSg.out)
      have f1 := HP.out.fz 1
      have HS : Hid (∀ U q x, x = ((m + 1 : Nat) : Int) → PrW s g m D P B W U → PrW s g (m + 1) D P B W ((U.drewN q).setCell ⟨g, 1, none⟩ (.int .i64 x))) := fun U q x hx h => (h.drew q).setI _ _ hx
      clear hb h45 h43 hsm
      go_wp2_with fail
      go_quiet (fail)
      go_wp2_with fail
      go_quiet (fail)
      go_wp2_with fail
      go_step3
      go_wp2_with fail
      exact nth_pos s g (m + 1) D P B W _ _ _ Z 1 HN.out _ rfl rfl hs (by omega) HSm.out (HS.out _ _ _ (by omega) HP.out) (fun r e' w' hrn hh => ⟨r, .inl ⟨m + 1, 1, HSg.out, hrn, .inl rfl⟩, hh⟩)
    have m45 : ((s[m].toNat : Int) == 45) = false := beq_eq_false_iff_ne.2 (by omega)
    have m43 : ((s[m].toNat : Int) == 43) = false := beq_eq_false_iff_ne.2 (by omega)
    by_cases hdg : 48 ≤ s[m].toNat ∧ s[m].toNat ≤ 57
    · as_aux_lemma =>
      obtain ⟨hd1, hd2⟩ := hdg
      have HDg : Hid (isDg (bAt s m) = true) := by rw [Hid, hb, isDg_iff]; exact ⟨hd1, hd2⟩
      have HSg : Hid (Sg s m 1) := by have q := HM.out; subst q; exact .inr (.inr ⟨by rw [hb]; exact h45, by rw [hb]; exact h43, rfl, rfl⟩)
      have HSm := Lib.hid (hsm (fun q => by rw [hb] at q; rcases q with q | q | q | q <;> omega) m _ HSg.out)
      clear hb h45 h43 hsm
      go_wp2_with fail
      go_quiet (fail)
      go_wp2_with fail
      go_quiet (fail)
      let QQ : Exit → Act → World → Prop := bodyPost Tryd.prog Tryd.f37 (PnP s m g D P B W)
      go_upto_if 44 with fail
      go_cut [44] (fun v wx => v = .bool true ∧ PrW s g m D P B W wx)
      case first =>
        clear QQ
        as_aux_lemma =>
        have hcs : s[m].toNat = 48 ∨ s[m].toNat = 49 ∨ s[m].toNat = 50 ∨ s[m].toNat = 51 ∨ s[m].toNat = 52 ∨ s[m].toNat = 53 ∨ s[m].toNat = 54 ∨ s[m].toNat = 55 ∨ s[m].toNat = 56 ∨ s[m].toNat = 57 := by omega
        rcases hcs with q | q | q | q | q | q | q | q | q | q
        · have m48 : ((s[m].toNat : Int) == 48) = true := beq_iff_eq.2 (by omega)
          clear q
          go_wp2_with fail
          go_meet
          exact ⟨by rw [m48], HP1.out _⟩
        · have m48 : ((s[m].toNat : Int) == 48) = false := beq_eq_false_iff_ne.2 (by omega)
          have m49 : ((s[m].toNat : Int) == 49) = true := beq_iff_eq.2 (by omega)
          clear q
          go_wp2_with fail
          go_meet
          exact ⟨rfl, HP1.out _⟩
        · have m48 : ((s[m].toNat : Int) == 48) = false := beq_eq_false_iff_ne.2 (by omega)
          have m49 : ((s[m].toNat : Int) == 49) = false := beq_eq_false_iff_ne.2 (by omega)
          have m50 : ((s[m].toNat : Int) == 50) = true := beq_iff_eq.2 (by omega)
          clear q
          go_wp2_with fail
          go_meet
          exact ⟨rfl, HP1.out _⟩
        · have m48 : ((s[m].toNat : Int) == 48) = false := beq_eq_false_iff_ne.2 (by omega)
          have m49 : ((s[m].toNat : Int) == 49) = false := beq_eq_false_iff_ne.2 (by omega)
          have m50 : ((s[m].toNat : Int) == 50) = false := beq_eq_false_iff_ne.2 (by omega)
          have m51 : ((s[m].toNat : Int) == 51) = true := beq_iff_eq.2 (by omega)
          clear q
          go_wp2_with fail
          go_meet
          exact ⟨rfl, HP1.out _⟩
        · have m48 : ((s[m].toNat : Int) == 48) = false := beq_eq_false_iff_ne.2 (by omega)
          have m49 : ((s[m].toNat : Int) == 49) = false := beq_eq_false_iff_ne.2 (by omega)
          have m50 : ((s[m].toNat : Int) == 50) = false := beq_eq_false_iff_ne.2 (by omega)
          have m51 : ((s[m].toNat : Int) == 51) = false := beq_eq_false_iff_ne.2 (by omega)
          have m52 : ((s[m].toNat : Int) == 52) = true := beq_iff_eq.2 (by omega)
          clear q
          go_wp2_with fail
          go_meet
          exact ⟨rfl, HP1.out _⟩
        · have m48 : ((s[m].toNat : Int) == 48) = false := beq_eq_false_iff_ne.2 (by omega)
          have m49 : ((s[m].toNat : Int) == 49) = false := beq_eq_false_iff_ne.2 (by omega)
          have m50 : ((s[m].toNat : Int) == 50) = false := beq_eq_false_iff_ne.2 (by omega)
          have m51 : ((s[m].toNat : Int) == 51) = false := beq_eq_false_iff_ne.2 (by omega)
          have m52 : ((s[m].toNat : Int) == 52) = false := beq_eq_false_iff_ne.2 (by omega)
          have m53 : ((s[m].toNat : Int) == 53) = true := beq_iff_eq.2 (by omega)
          clear q
          go_wp2_with fail
          go_meet
          exact ⟨rfl, HP1.out _⟩
        · have m48 : ((s[m].toNat : Int) == 48) = false := beq_eq_false_iff_ne.2 (by omega)
          have m49 : ((s[m].toNat : Int) == 49) = false := beq_eq_false_iff_ne.2 (by omega)
          have m50 : ((s[m].toNat : Int) == 50) = false := beq_eq_false_iff_ne.2 (by omega)
          have m51 : ((s[m].toNat : Int) == 51) = false := beq_eq_false_iff_ne.2 (by omega)
          have m52 : ((s[m].toNat : Int) == 52) = false := beq_eq_false_iff_ne.2 (by omega)
          have m53 : ((s[m].toNat : Int) == 53) = false := beq_eq_false_iff_ne.2 (by omega)
          have m54 : ((s[m].toNat : Int) == 54) = true := beq_iff_eq.2 (by omega)
          clear q
          go_wp2_with fail
          go_meet
          exact ⟨rfl, HP1.out _⟩
        · have m48 : ((s[m].toNat : Int) == 48) = false := beq_eq_false_iff_ne.2 (by omega)
          have m49 : ((s[m].toNat : Int) == 49) = false := beq_eq_false_iff_ne.2 (by omega)
          have m50 : ((s[m].toNat : Int) == 50) = false := beq_eq_false_iff_ne.2 (by omega)
          have m51 : ((s[m].toNat : Int) == 51) = false := beq_eq_false_iff_ne.2 (by omega)
          have m52 : ((s[m].toNat : Int) == 52) = false := beq_eq_false_iff_ne.2 (by omega)
          have m53 : ((s[m].toNat : Int) == 53) = false := beq_eq_false_iff_ne.2 (by omega)
          have m54 : ((s[m].toNat : Int) == 54) = false := beq_eq_false_iff_ne.2 (by omega)
          have m55 : ((s[m].toNat : Int) == 55) = true := beq_iff_eq.2 (by omega)
          clear q
          go_wp2_with fail
          go_meet
          exact ⟨rfl, HP1.out _⟩
        · have m48 : ((s[m].toNat : Int) == 48) = false := beq_eq_false_iff_ne.2 (by omega)
          have m49 : ((s[m].toNat : Int) == 49) = false := beq_eq_false_iff_ne.2 (by omega)
          have m50 : ((s[m].toNat : Int) == 50) = false := beq_eq_false_iff_ne.2 (by omega)
          have m51 : ((s[m].toNat : Int) == 51) = false := beq_eq_false_iff_ne.2 (by omega)
          have m52 : ((s[m].toNat : Int) == 52) = false := beq_eq_false_iff_ne.2 (by omega)
          have m53 : ((s[m].toNat : Int) == 53) = false := beq_eq_false_iff_ne.2 (by omega)
          have m54 : ((s[m].toNat : Int) == 54) = false := beq_eq_false_iff_ne.2 (by omega)
          have m55 : ((s[m].toNat : Int) == 55) = false := beq_eq_false_iff_ne.2 (by omega)
          have m56 : ((s[m].toNat : Int) == 56) = true := beq_iff_eq.2 (by omega)
          clear q
          go_wp2_with fail
          go_meet
          exact ⟨rfl, HP1.out _⟩
        · have m48 : ((s[m].toNat : Int) == 48) = false := beq_eq_false_iff_ne.2 (by omega)
          have m49 : ((s[m].toNat : Int) == 49) = false := beq_eq_false_iff_ne.2 (by omega)
          have m50 : ((s[m].toNat : Int) == 50) = false := beq_eq_false_iff_ne.2 (by omega)
          have m51 : ((s[m].toNat : Int) == 51) = false := beq_eq_false_iff_ne.2 (by omega)
          have m52 : ((s[m].toNat : Int) == 52) = false := beq_eq_false_iff_ne.2 (by omega)
          have m53 : ((s[m].toNat : Int) == 53) = false := beq_eq_false_iff_ne.2 (by omega)
          have m54 : ((s[m].toNat : Int) == 54) = false := beq_eq_false_iff_ne.2 (by omega)
          have m55 : ((s[m].toNat : Int) == 55) = false := beq_eq_false_iff_ne.2 (by omega)
          have m56 : ((s[m].toNat : Int) == 56) = false := beq_eq_false_iff_ne.2 (by omega)
          have m57 : ((s[m].toNat : Int) == 57) = true := beq_iff_eq.2 (by omega)
          clear q
          go_wp2_with fail
          go_meet
          exact ⟨rfl, HP1.out _⟩
      case rest =>
        clear QQ
        as_aux_lemma =>
        obtain ⟨rfl, hr1⟩ := hcut
        have HR1 := Lib.hid hr1
        clear hr1 c0 c1
        go_wp2_with fail
        go_step3
        go_wp2_with fail
        exact nth_pos s g m D P B W _ _ _ Z 1 HN.out _ rfl rfl hs (by omega) HSm.out HR1.out (fun r e' w' hrn hh => ⟨r, .inl ⟨m, 1, HSg.out, hrn, .inr (.inl HDg.out)⟩, hh⟩)
    have HDg : Hid (isDg (bAt s m) = false) := by rw [Hid, hb, isDg_no]; exact hdg
    have hlo : s[m].toNat < 48 ∨ 57 < s[m].toNat := by omega
    clear hdg
    go_wp2_with fail
    go_quiet (fail)
    go_wp2_with fail
    go_quiet (fail)
    let QQ : Exit → Act → World → Prop := bodyPost Tryd.prog Tryd.f37 (PnP s m g D P B W)
    go_upto_if 44 with fail
    go_cut [44] (fun v wx => v = .bool false ∧ PrW s g m D P B W wx)
    case first =>
      clear hb QQ
      as_aux_lemma =>
      have m48 : ((s[m].toNat : Int) == 48) = false := beq_eq_false_iff_ne.2 (by omega)
      have m49 : ((s[m].toNat : Int) == 49) = false := beq_eq_false_iff_ne.2 (by omega)
      have m50 : ((s[m].toNat : Int) == 50) = false := beq_eq_false_iff_ne.2 (by omega)
      have m51 : ((s[m].toNat : Int) == 51) = false := beq_eq_false_iff_ne.2 (by omega)
      have m52 : ((s[m].toNat : Int) == 52) = false := beq_eq_false_iff_ne.2 (by omega)
      have m53 : ((s[m].toNat : Int) == 53) = false := beq_eq_false_iff_ne.2 (by omega)
      have m54 : ((s[m].toNat : Int) == 54) = false := beq_eq_false_iff_ne.2 (by omega)
      have m55 : ((s[m].toNat : Int) == 55) = false := beq_eq_false_iff_ne.2 (by omega)
      have m56 : ((s[m].toNat : Int) == 56) = false := beq_eq_false_iff_ne.2 (by omega)
      have m57 : ((s[m].toNat : Int) == 57) = false := beq_eq_false_iff_ne.2 (by omega)
      go_wp2_with fail
      go_meet
      exact ⟨rfl, HP1.out _⟩
    case rest =>
      clear QQ
      obtain ⟨rfl, hr1⟩ := hcut
      have HR1 := Lib.hid hr1
      clear hlo c0 c1 HP1 HP
      have c1 := hr1.c1
      have f1 := hr1.fz 1
      have HS := Lib.hid (hr1.set (m + 1))
      have HSg : Hid (Sg s m 1) := by have q := HM.out; subst q; exact .inr (.inr ⟨by rw [hb]; exact h45, by rw [hb]; exact h43, rfl, rfl⟩)
      have H4 : Hid (bAt s m ≠ 45 ∧ bAt s m ≠ 43) := ⟨by rw [hb]; exact h45, by rw [hb]; exact h43⟩
      clear hr1
      by_cases hln : s[m].toNat = 110 ∨ s[m].toNat = 78
      · as_aux_lemma =>
        have HL : Hid (isLN (bAt s m)) := by rw [Hid, hb]; exact hln
        have HSn : Hid (SmN s (m + 1)) := ((hsm (fun q => by rw [hb] at q; rcases q with q | q | q | q <;> omega) m _ HSg.out) 0 (dg_zero (by omega) HDg.out)).2 hlt HL.out
        clear hb h45 h43 hsm
        rcases hln with q | q
        · have m110 : ((s[m].toNat : Int) == 110) = true := beq_iff_eq.2 (by omega)
          clear q
          go_wp2_with fail
          go_step3
          go_wp2_with fail
          exact nth_n s g (m + 1) D P B W _ _ _ Z 3 HN.out _ rfl 1 rfl rfl hs (by omega) HSn.out HS.out (fun r e' w' hrn hh => ⟨r, .inl ⟨m, 1, HSg.out, .inr (.inr (.inl ⟨hlt, HL.out, hrn⟩)), .inr (.inr HL.out)⟩, hh⟩)
        · have m110 : ((s[m].toNat : Int) == 110) = false := beq_eq_false_iff_ne.2 (by omega)
          have m78 : ((s[m].toNat : Int) == 78) = true := beq_iff_eq.2 (by omega)
          clear q
          go_wp2_with fail
          go_step3
          go_wp2_with fail
          exact nth_n s g (m + 1) D P B W _ _ _ Z 3 HN.out _ rfl 1 rfl rfl hs (by omega) HSn.out HS.out (fun r e' w' hrn hh => ⟨r, .inl ⟨m, 1, HSg.out, .inr (.inr (.inl ⟨hlt, HL.out, hrn⟩)), .inr (.inr HL.out)⟩, hh⟩)
      have m110 : ((s[m].toNat : Int) == 110) = false := beq_eq_false_iff_ne.2 (by omega)
      have m78 : ((s[m].toNat : Int) == 78) = false := beq_eq_false_iff_ne.2 (by omega)
      by_cases hoe : s[m].toNat = 111 ∨ s[m].toNat = 79 ∨ s[m].toNat = 101 ∨ s[m].toNat = 69
      · have HOE : Hid (isOE (bAt s m)) := by rw [Hid, hb]; exact hoe
        clear hb h45 h43 hsm hln
        let QQ : Exit → Act → World → Prop := bodyPost Tryd.prog Tryd.f37 (PnP s m g D P B W)
        go_upto_if 65 with fail
        go_cut [65] (fun v wx => v = .bool true ∧ PrW s g m D P B W wx)
        case first =>
          clear QQ
          as_aux_lemma =>
          rcases hoe with q | q | q | q
          · have m111 : ((s[m].toNat : Int) == 111) = true := beq_iff_eq.2 (by omega)
            clear q
            go_wp2_with fail
            go_meet
            exact ⟨by rw [m111], HR1.out⟩
          · have m111 : ((s[m].toNat : Int) == 111) = false := beq_eq_false_iff_ne.2 (by omega)
            have m79 : ((s[m].toNat : Int) == 79) = true := beq_iff_eq.2 (by omega)
            clear q
            go_wp2_with fail
            go_meet
            exact ⟨rfl, HR1.out⟩
          · have m111 : ((s[m].toNat : Int) == 111) = false := beq_eq_false_iff_ne.2 (by omega)
            have m79 : ((s[m].toNat : Int) == 79) = false := beq_eq_false_iff_ne.2 (by omega)
            have m101 : ((s[m].toNat : Int) == 101) = true := beq_iff_eq.2 (by omega)
            clear q
            go_wp2_with fail
            go_meet
            exact ⟨rfl, HR1.out⟩
          · have m111 : ((s[m].toNat : Int) == 111) = false := beq_eq_false_iff_ne.2 (by omega)
            have m79 : ((s[m].toNat : Int) == 79) = false := beq_eq_false_iff_ne.2 (by omega)
            have m101 : ((s[m].toNat : Int) == 101) = false := beq_eq_false_iff_ne.2 (by omega)
            have m69 : ((s[m].toNat : Int) == 69) = true := beq_iff_eq.2 (by omega)
            clear q
            go_wp2_with fail
            go_meet
            exact ⟨rfl, HR1.out⟩
        case rest =>
          clear QQ
          obtain ⟨rfl, hr2⟩ := hcut
          have HR2 := Lib.hid hr2
          have HNm := Lib.hid (pName_any s g m D P B W _ hs hm hr2)
          have HX : Hid (∀ r, WordR s m r → PN s m r) := fun r q => .inr (.inr (.inl ⟨by omega, HOE.out, q⟩))
          clear hr2 hoe HR1 HS f1 c1
          go_wp2_with fail
          refine HNm.out.mono ?_
          rintro e1 w2 (⟨v, x, i', ⟨pp, rfl⟩, rfl, hr3, hno⟩ | ⟨out, i', rfl, hr3, hi', hac, hst, hpos⟩)
          · as_aux_lemma =>
            have HW : Hid (WordR s m none) := .inl ⟨rfl, hno⟩
            have HR3 := Lib.hid hr3
            clear hr3 hno
            go_wp2_with fail
            refine HZ.out _ _ _ ?_
            go_ret3
            exact ⟨none, HX.out _ HW.out, _, _, ⟨pp, rfl⟩, rfl, HR3.out⟩
          · as_aux_lemma =>
            have HR3 := Lib.hid hr3
            have hsz := hac.size.2
            have HLo := Lib.hid (fun U => toLower_any out U (by omega))
            obtain ⟨L, hL⟩ : ∃ L, L = lowS out := ⟨_, rfl⟩
            rw [← hL] at HLo
            have HW : Hid (∀ r, ((L = oddT ∧ r = some (2, 1, i')) ∨ (L ≠ oddT ∧ L = evenT ∧ r = some (2, 0, i')) ∨ (L ≠ oddT ∧ L ≠ evenT ∧ r = none)) → WordR s m r) := fun r q => .inr ⟨out, i', hac, hst, hpos, by rw [← hL]; exact q⟩
            clear hr3 hac hst hpos hsz hL
            go_wp2_with fail
            refine (HLo.out _).mono ?_
            rintro e1 w4 ⟨rfl, hb4⟩
            have HR4 := Lib.hid (HR3.out.next hb4)
            clear hb4
            by_cases hO : L = oddT
            · have m3 : (L.toList == [111, 100, 100]) = true := by rw [← HEO.out, tl_beq]; exact decide_eq_true hO
              have HO := Lib.hid hO
              clear hO
              go_wp2_with fail
              refine HZ.out _ _ _ ?_
              go_ret3
              exact ⟨some _, HX.out _ (HW.out _ (.inl ⟨HO.out, rfl⟩)), rfl, HR4.out⟩
            · have m3 : (L.toList == [111, 100, 100]) = false := by rw [← HEO.out, tl_beq]; exact decide_eq_false hO
              have HO := Lib.hid hO
              clear hO
              by_cases hE : L = evenT
              · have m4 : (L.toList == [101, 118, 101, 110]) = true := by rw [← HEE.out, tl_beq]; exact decide_eq_true hE
                have HE := Lib.hid hE
                clear hE
                go_wp2_with fail
                refine HZ.out _ _ _ ?_
                go_ret3
                exact ⟨some _, HX.out _ (HW.out _ (.inr (.inl ⟨HO.out, HE.out, rfl⟩))), rfl, HR4.out⟩
              · have m4 : (L.toList == [101, 118, 101, 110]) = false := by rw [← HEE.out, tl_beq]; exact decide_eq_false hE
                have HE := Lib.hid hE
                clear hE
                go_wp2_with fail
                refine (errNew_any _ _).mono ?_
                rintro e1 w5 ⟨v, ⟨pp, rfl⟩, rfl, hb5⟩
                have HR5 := Lib.hid (HR4.out.next hb5)
                clear hb5
                go_wp2_with fail
                refine HZ.out _ _ _ ?_
                go_ret3
                exact ⟨none, HX.out _ (HW.out _ (.inr (.inr ⟨HO.out, HE.out, rfl⟩))), _, _, ⟨pp, rfl⟩, rfl, HR5.out⟩
      · have HNo : Hid (PN s m none) := .inr (.inr (.inr ⟨(by omega), H4.out.1, H4.out.2, HDg.out, (by rw [hb]; exact hln), (by rw [hb]; exact hoe), rfl⟩))
        have m111 : ((s[m].toNat : Int) == 111) = false := beq_eq_false_iff_ne.2 (by omega)
        have m79 : ((s[m].toNat : Int) == 79) = false := beq_eq_false_iff_ne.2 (by omega)
        have m101 : ((s[m].toNat : Int) == 101) = false := beq_eq_false_iff_ne.2 (by omega)
        have m69 : ((s[m].toNat : Int) == 69) = false := beq_eq_false_iff_ne.2 (by omega)
        clear hb h45 h43 hsm hln hoe
        as_aux_lemma =>
        go_wp2_with fail
        go_step3
        go_wp2_with fail
        exact nth_inv s g m D P B W _ _ _ Z 4 HN.out _ rfl HR1.out (fun e' w' hno => ⟨none, HNo.out, hno⟩)
  · as_aux_lemma =>
    go_wp2_with fail
    go_quiet (fail)
    go_wp2_with fail
    go_step3
    go_wp2_with fail
    have hee : s.size = 0 := by have := HM.out; omega
    exact nth_eof s g m D P B W _ _ _ Z 4 HN.out _ rfl (HP.out.drew _) (fun e' w' hno => ⟨none, .inr (.inl ⟨hee, rfl⟩), hno⟩)
end Go.Proofs.YtkdfdfhejibopaaDoor
