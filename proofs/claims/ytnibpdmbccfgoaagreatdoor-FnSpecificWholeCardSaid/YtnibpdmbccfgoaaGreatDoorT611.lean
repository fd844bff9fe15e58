/- parseNth: behind a number. -/
import Derived.Test.YtnibpdmbccfgoaaGreatDoorT610
namespace Go.Proofs.YtnibpdmbccfgoaaGreatDoor
open Go.RowKit
set_option linter.unusedVariables false

/-- What stands behind a number. -/
def RA (s : ByteArray) (m : Nat) (a : Int) (r : Option (Int × Int × Nat)) : Prop :=
  (m = s.size ∧ r = none) ∨ (m < s.size ∧ isLN (bAt s m) ∧ RN s (m + 1) a r) ∨ (m < s.size ∧ ¬ isLN (bAt s m) ∧ r = some (0, a, m))
def SmN (s : ByteArray) (m : Nat) : Prop := ∀ e e2 j2, Sk s m e → (bAt s e = 43 ∨ bAt s e = 45) → Sk s (e + 1) e2 → DgTo s e2 j2 → dgC s e2 j2 < 100000

set_option maxRecDepth 100000 in
set_option maxHeartbeats 4000000 in
theorem nth_a (s : ByteArray) (g m : Nat) (D P : Value) (B : Nat) (W w : World) (R : Ending → World → Prop) (C : Code) (Z : Nat → Exit → Act → World → Prop) (n : Nat) (h : NthV R C Z) (T : Array Value) (hT : T.size = 280) (a : Int)
    (h0 : T.getD 0 undef = .pointer (some ⟨g, 0, none⟩)) (h2 : T.getD 2 undef = .int .i64 a) (hs : s.size ≤ 100000) (hm : m ≤ s.size)
    (hsm : m < s.size → isLN (bAt s m) → SmN s (m + 1))
    (hp : PrX s g m D P B W w) (hR : ∀ r e w', RA s m a r → NthR s g D P B W r e w' → R e w') : Z (n + 3) (.goto 5) ⟨T, []⟩ w := by
  have HN := Lib.hid h
  obtain ⟨hC, HV⟩ := h
  obtain ⟨U, rfl, hU⟩ := spread T hT
  rw [← hU 0] at h0
  rw [← hU 2] at h2
  rw [h0, h2]
  obtain ⟨r, hr⟩ := hC
  obtain ⟨r0, hr0⟩ : ∃ r0, Tryz.f58.body = some (.seq r0 (.scope _)) := ⟨_, rfl⟩
  obtain rfl := (Code.scope.inj (Code.seq.inj (Option.some.inj (hr.symm.trans hr0))).2)
  refine HV.jump (n + 2) 5 _ _ w rfl ?_
  clear hr hr0
  have HR := Lib.hid hR
  have HP := Lib.hid hp
  have HZ := Lib.hid HV.ret
  have c0 := hp.c0
  have c1 := hp.c1
  clear hR hp hU HV hT h0 h2
  by_cases hlt : m < s.size
  · have hb := bAt_in hlt
    by_cases h110 : s[m].toNat = 110
    · have m110 : ((s[m].toNat : Int) == 110) = true := beq_iff_eq.2 (by omega)
      have HL : Hid (isLN (bAt s m)) := .inl (hb.trans h110)
      have HX : Hid (∀ r, RN s (m + 1) a r → RA s m a r) := fun r q => .inr (.inl ⟨hlt, HL.out, q⟩)
      have HSm := Lib.hid (hsm hlt HL.out)
      clear hb h110 hsm
      have f1 := HP.out.fz 1
      have HS : Hid (∀ U q x, x = ((m + 1 : Nat) : Int) → PrX s g m D P B W U → PrX s g (m + 1) D P B W ((U.drewN q).setCell ⟨g, 1, none⟩ (.int .i64 x))) := fun U q x hx h => (h.drew q).setI _ _ hx
      go_wp2_with fail
      go_quiet (fail)
      go_wp2_with fail
      go_quiet (fail)
      go_wp2_with fail
      go_step3
      go_wp2_with fail
      exact nth_n s g (m + 1) D P B W _ R _ Z n HN.out _ rfl a rfl rfl hs (by omega) HSm.out (HS.out _ _ _ (by omega) HP.out) (fun r e' w' hrn hh => HR.out r e' w' (HX.out r hrn) hh)
    · have m110 : ((s[m].toNat : Int) == 110) = false := beq_eq_false_iff_ne.2 (by omega)
      by_cases h78 : s[m].toNat = 78
      · have m78 : ((s[m].toNat : Int) == 78) = true := beq_iff_eq.2 (by omega)
        have HL : Hid (isLN (bAt s m)) := .inr (hb.trans h78)
        have HX : Hid (∀ r, RN s (m + 1) a r → RA s m a r) := fun r q => .inr (.inl ⟨hlt, HL.out, q⟩)
        have HSm := Lib.hid (hsm hlt HL.out)
        clear hb h110 h78 hsm
        have f1 := HP.out.fz 1
        have HS : Hid (∀ U q x, x = ((m + 1 : Nat) : Int) → PrX s g m D P B W U → PrX s g (m + 1) D P B W ((U.drewN q).setCell ⟨g, 1, none⟩ (.int .i64 x))) := fun U q x hx h => (h.drew q).setI _ _ hx
        go_wp2_with fail
        go_quiet (fail)
        go_wp2_with fail
        go_quiet (fail)
        go_wp2_with fail
        go_step3
        go_wp2_with fail
        exact nth_n s g (m + 1) D P B W _ R _ Z n HN.out _ rfl a rfl rfl hs (by omega) HSm.out (HS.out _ _ _ (by omega) HP.out) (fun r e' w' hrn hh => HR.out r e' w' (HX.out r hrn) hh)
      · have m78 : ((s[m].toNat : Int) == 78) = false := beq_eq_false_iff_ne.2 (by omega)
        have HX : Hid (RA s m a (some (0, a, m))) := .inr (.inr ⟨hlt, (fun q => by rw [hb] at q; rcases q with q | q; exact h110 q; exact h78 q), rfl⟩)
        clear hb h110 h78 hsm
        go_wp2_with fail
        go_quiet (fail)
        go_wp2_with fail
        go_quiet (fail)
        go_wp2_with fail
        refine HZ.out _ _ _ ?_
        go_ret3
        exact HR.out (some _) _ _ HX.out ⟨rfl, HP.out.drew _⟩
  · clear hsm
    go_wp2_with fail
    go_quiet (fail)
    go_wp2_with fail
    go_step3
    go_wp2_with fail
    have hee : m = s.size := by omega
    exact nth_eof s g m D P B W _ R _ Z (n + 1) HN.out _ rfl (HP.out.drew _) (fun e' w' hno => HR.out none e' w' (.inl ⟨hee, rfl⟩) hno)

/-- What stands behind a sign. -/
def RP (s : ByteArray) (p : Nat) (σ : Int) (r : Option (Int × Int × Nat)) : Prop :=
  (p = s.size ∧ r = none) ∨ (p < s.size ∧ isDg (bAt s p) = true ∧ ∃ j, 0 < j ∧ DgTo s p j ∧ RA s (p + j) (σ * (dgV s p j : Int)) r) ∨
  (p < s.size ∧ isLN (bAt s p) ∧ RN s (p + 1) σ r) ∨ (p < s.size ∧ isDg (bAt s p) = false ∧ ¬ isLN (bAt s p) ∧ r = none)
def SmD (s : ByteArray) (p : Nat) : Prop := ∀ j, DgTo s p j → dgC s p j < 100000 ∧ (p + j < s.size → isLN (bAt s (p + j)) → SmN s (p + j + 1))
theorem dg_pos {s : ByteArray} {p j : Nat} (h : DgTo s p j) (hd : isDg (bAt s p) = true) : 0 < j := by
  rcases Nat.eq_zero_or_pos j with q | q
  · subst q
    have := h.stop
    rw [Nat.add_zero, hd] at this; cases this
  · exact q
theorem dg_zero {s : ByteArray} {p : Nat} (hp : p ≤ s.size) (hd : isDg (bAt s p) = false) : DgTo s p 0 :=
  ⟨hp, fun x hx => absurd hx (Nat.not_lt_zero x), hd⟩

end Go.Proofs.YtnibpdmbccfgoaaGreatDoor
