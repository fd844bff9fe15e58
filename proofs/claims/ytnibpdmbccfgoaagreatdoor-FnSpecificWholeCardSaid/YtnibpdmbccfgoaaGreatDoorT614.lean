/- (*parser).parseNth where a text of the form an+b is known to stand. -/
import Derived.Test.YtnibpdmbccfgoaaGreatDoorT612
import Derived.Test.YtnibpdmbccfgoaaGreatDoorT613
namespace Go.Proofs.YtnibpdmbccfgoaaGreatDoor
open Go.RowKit
set_option linter.unusedVariables false

/-- A number, a letter n, a sign, a number. -/
structure NthTo (s : ByteArray) (p e : Nat) : Prop where
  parts : ∃ j j2, 0 < j ∧ 0 < j2 ∧ DgTo s p j ∧ dgC s p j < 100000 ∧ bAt s (p + j) = 110 ∧ Sk s (p + j + 1) (p + j + 1) ∧ p + j + 1 < s.size ∧ (bAt s (p + j + 1) = 43 ∨ bAt s (p + j + 1) = 45) ∧ Sk s (p + j + 1 + 1) (p + j + 1 + 1) ∧ DgTo s (p + j + 1 + 1) j2 ∧ dgC s (p + j + 1 + 1) j2 < 100000 ∧ e = p + j + 1 + 1 + j2
def NthY (s : ByteArray) (g : Nat) (D P : Value) (B : Nat) (W : World) (e' : Nat) (e : Ending) (w' : World) : Prop :=
  ∃ a b : Int, e = .returned (.tuple #[.int .i64 a, .int .i64 b, .nilIface]) ∧ PrX s g e' D P B W w'

theorem NthTo.small {s : ByteArray} {p e : Nat} (h : NthTo s p e) : SmD s p := by
  obtain ⟨j, j2, h1, h2, hd, hc, hn, hk, hl, hsg, hk2, hd2, hc2, rfl⟩ := h.parts
  intro j' hj'
  obtain rfl := hd.uniq hj'
  refine ⟨hc, fun _ _ e e2 j2' he _ he2 hj2' => ?_⟩
  obtain rfl := hk.uniq he
  obtain rfl := hk2.uniq he2
  obtain rfl := hd2.uniq hj2'
  exact hc2
theorem NthTo.res {s : ByteArray} {p e : Nat} (h : NthTo s p e) {σ : Int} {r : Option (Int × Int × Nat)} (hr : RP s p σ r) : ∃ a b, r = some (a, b, e) := by
  obtain ⟨j, j2, h1, h2, hd, hc, hn, hk, hl, hsg, hk2, hd2, hc2, rfl⟩ := h.parts
  have hdg : isDg (bAt s p) = true := by have := hd.all 0 h1; rwa [Nat.add_zero] at this
  have hnl : ¬ isLN (bAt s p) := fun q => by rw [isDg_iff] at hdg; rcases q with q | q <;> omega
  have hlt : p < s.size := by have := hd.le; omega
  rcases hr with ⟨q, _⟩ | ⟨_, _, j', hj', hd', ha⟩ | ⟨_, q, _⟩ | ⟨_, q, _⟩
  · omega
  · obtain rfl := hd.uniq hd'
    rcases ha with ⟨q, _⟩ | ⟨_, _, hrn⟩ | ⟨_, q, _⟩
    · omega
    · obtain ⟨e, he, hrest⟩ := hrn
      obtain rfl := hk.uniq he
      rcases hrest with ⟨q, _⟩ | ⟨_, q1, q2, _⟩ | ⟨_, _, e2, j2', he2, hd2', _, hres⟩
      · omega
      · rcases hsg with q | q
        · exact absurd q q1
        · exact absurd q q2
      · obtain rfl := hk2.uniq he2
        obtain rfl := hd2.uniq hd2'
        exact ⟨_, _, hres h2⟩
    · exact absurd (.inl hn) q
  · exact absurd q hnl
  · rw [hdg] at q; cases q

set_option maxRecDepth 100000 in
set_option maxHeartbeats 8000000 in
theorem pNth_to (s : ByteArray) (m p g e' : Nat) (D P : Value) (B : Nat) (W w : World) (hs : s.size ≤ 100000) (hlt : m < s.size) (hn : (bAt s m = 45 ∧ p = m + 1) ∨ (bAt s m ≠ 45 ∧ p = m)) (ht : NthTo s p e') (hp : PrX s g m D P B W w) :
    Calls Tryz.prog 58 #[.pointer (some ⟨g, 0, none⟩)] w (NthY s g D P B W e') := by
  have HP := Lib.hid hp
  have c0 := hp.c0
  have c1 := hp.c1
  have HT := Lib.hid ht
  have HSm := Lib.hid ht.small
  have HRes : Hid (∀ σ r e w', RP s p σ r → NthR s g D P B W r e w' → NthY s g D P B W e' e w') := fun σ r e w' hr hh => by
    obtain ⟨a, b, rfl⟩ := ht.res hr
    exact ⟨a, b, hh.1, hh.2⟩
  have hdg : isDg (bAt s p) = true := by
    obtain ⟨j, j2, h1, h2, hd, _⟩ := ht.parts
    have := hd.all 0 h1; rwa [Nat.add_zero] at this
  clear hp ht
  go_enter Tryz.func58, Tryz.ntmps58
  go_wp2_with fail
  refine wp_scope_via 5 (fun Z HV => ?_)
  have HN : Hid (NthV (NthY s g D P B W e') _ Z) := ⟨⟨_, rfl⟩, HV⟩
  have HZ := Lib.hid HV.ret
  clear HV
  have hb := bAt_in hlt
  have HP1 : Hid (∀ q, PrX s g m D P B W (w.drewN q)) := fun q => HP.out.drew q
  rcases hn with ⟨h45, hpm⟩ | ⟨h45, hpm⟩
  · as_aux_lemma =>
    subst hpm
    rw [hb] at h45
    have f1 := HP.out.fz 1
    have HS : Hid (∀ U q x, x = ((m + 1 : Nat) : Int) → PrX s g m D P B W U → PrX s g (m + 1) D P B W ((U.drewN q).setCell ⟨g, 1, none⟩ (.int .i64 x))) := fun U q x hx h => (h.drew q).setI _ _ hx
    have m45 : ((s[m].toNat : Int) == 45) = true := beq_iff_eq.2 (by omega)
    clear hb h45 hdg
    go_wp2_with fail
    go_quiet (fail)
    go_wp2_with fail
    go_quiet (fail)
    go_wp2_with fail
    go_step3
    go_wp2_with fail
    exact nth_neg s g (m + 1) D P B W _ _ _ Z 1 HN.out _ rfl rfl hs (by omega) HSm.out (HS.out _ _ _ (by omega) HP.out) (fun r e w' hrn hh => HRes.out _ r e w' hrn hh)
  · as_aux_lemma =>
    have hpm' := hpm.symm
    clear hpm
    subst hpm'
    rw [isDg_iff, hb] at hdg
    obtain ⟨hd1, hd2⟩ := hdg
    rw [hb] at h45
    have m45 : ((s[m].toNat : Int) == 45) = false := beq_eq_false_iff_ne.2 (by omega)
    have m43 : ((s[m].toNat : Int) == 43) = false := beq_eq_false_iff_ne.2 (by omega)
    clear hb h45
    go_wp2_with fail
    go_quiet (fail)
    go_wp2_with fail
    go_quiet (fail)
    let QQ : Exit → Act → World → Prop := bodyPost Tryz.prog Tryz.f58 (NthY s g D P B W e')
    go_upto_if 44 with fail
    go_cut [44] (fun v wx => v = .bool true ∧ PrX s g m D P B W wx)
    case first =>
      clear QQ
      as_aux_lemma =>
      have hcs : s[m].toNat = 48 ∨ s[m].toNat = 49 ∨ s[m].toNat = 50 ∨ s[m].toNat = 51 ∨ s[m].toNat = 52 ∨ s[m].toNat = 53 ∨ s[m].toNat = 54 ∨ s[m].toNat = 55 ∨ s[m].toNat = 56 ∨ s[m].toNat = 57 := by omega
      rcases hcs with q | q | q | q | q | q | q | q | q | q
      · have m48 : ((s[m].toNat : Int) == 48) = true := beq_iff_eq.2 (by omega)
        clear q
        go_wp2_with fail
        go_meet
        exact ⟨by rw [m48], HP1.out _⟩
      · have m48 : ((s[m].toNat : Int) == 48) = false := beq_eq_false_iff_ne.2 (by omega)
        have m49 : ((s[m].toNat : Int) == 49) = true := beq_iff_eq.2 (by omega)
        clear q
        go_wp2_with fail
        go_meet
        exact ⟨rfl, HP1.out _⟩
      · have m48 : ((s[m].toNat : Int) == 48) = false := beq_eq_false_iff_ne.2 (by omega)
        have m49 : ((s[m].toNat : Int) == 49) = false := beq_eq_false_iff_ne.2 (by omega)
        have m50 : ((s[m].toNat : Int) == 50) = true := beq_iff_eq.2 (by omega)
        clear q
        go_wp2_with fail
        go_meet
        exact ⟨rfl, HP1.out _⟩
      · have m48 : ((s[m].toNat : Int) == 48) = false := beq_eq_false_iff_ne.2 (by omega)
        have m49 : ((s[m].toNat : Int) == 49) = false := beq_eq_false_iff_ne.2 (by omega)
        have m50 : ((s[m].toNat : Int) == 50) = false := beq_eq_false_iff_ne.2 (by omega)
        have m51 : ((s[m].toNat : Int) == 51) = true := beq_iff_eq.2 (by omega)
        clear q
        go_wp2_with fail
        go_meet
        exact ⟨rfl, HP1.out _⟩
      · have m48 : ((s[m].toNat : Int) == 48) = false := beq_eq_false_iff_ne.2 (by omega)
        have m49 : ((s[m].toNat : Int) == 49) = false := beq_eq_false_iff_ne.2 (by omega)
        have m50 : ((s[m].toNat : Int) == 50) = false := beq_eq_false_iff_ne.2 (by omega)
        have m51 : ((s[m].toNat : Int) == 51) = false := beq_eq_false_iff_ne.2 (by omega)
        have m52 : ((s[m].toNat : Int) == 52) = true := beq_iff_eq.2 (by omega)
        clear q
        go_wp2_with fail
        go_meet
        exact ⟨rfl, HP1.out _⟩
      · have m48 : ((s[m].toNat : Int) == 48) = false := beq_eq_false_iff_ne.2 (by omega)
        have m49 : ((s[m].toNat : Int) == 49) = false := beq_eq_false_iff_ne.2 (by omega)
        have m50 : ((s[m].toNat : Int) == 50) = false := beq_eq_false_iff_ne.2 (by omega)
        have m51 : ((s[m].toNat : Int) == 51) = false := beq_eq_false_iff_ne.2 (by omega)
        have m52 : ((s[m].toNat : Int) == 52) = false := beq_eq_false_iff_ne.2 (by omega)
        have m53 : ((s[m].toNat : Int) == 53) = true := beq_iff_eq.2 (by omega)
        clear q
        go_wp2_with fail
        go_meet
        exact ⟨rfl, HP1.out _⟩
      · have m48 : ((s[m].toNat : Int) == 48) = false := beq_eq_false_iff_ne.2 (by omega)
        have m49 : ((s[m].toNat : Int) == 49) = false := beq_eq_false_iff_ne.2 (by omega)
        have m50 : ((s[m].toNat : Int) == 50) = false := beq_eq_false_iff_ne.2 (by omega)
        have m51 : ((s[m].toNat : Int) == 51) = false := beq_eq_false_iff_ne.2 (by omega)
        have m52 : ((s[m].toNat : Int) == 52) = false := beq_eq_false_iff_ne.2 (by omega)
        have m53 : ((s[m].toNat : Int) == 53) = false := beq_eq_false_iff_ne.2 (by omega)
        have m54 : ((s[m].toNat : Int) == 54) = true := beq_iff_eq.2 (by omega)
        clear q
        go_wp2_with fail
        go_meet
        exact ⟨rfl, HP1.out _⟩
      · have m48 : ((s[m].toNat : Int) == 48) = false := beq_eq_false_iff_ne.2 (by omega)
        have m49 : ((s[m].toNat : Int) == 49) = false := beq_eq_false_iff_ne.2 (by omega)
        have m50 : ((s[m].toNat : Int) == 50) = false := beq_eq_false_iff_ne.2 (by omega)
        have m51 : ((s[m].toNat : Int) == 51) = false := beq_eq_false_iff_ne.2 (by omega)
        have m52 : ((s[m].toNat : Int) == 52) = false := beq_eq_false_iff_ne.2 (by omega)
        have m53 : ((s[m].toNat : Int) == 53) = false := beq_eq_false_iff_ne.2 (by omega)
        have m54 : ((s[m].toNat : Int) == 54) = false := beq_eq_false_iff_ne.2 (by omega)
        have m55 : ((s[m].toNat : Int) == 55) = true := beq_iff_eq.2 (by omega)
        clear q
        go_wp2_with fail
        go_meet
        exact ⟨rfl, HP1.out _⟩
      · have m48 : ((s[m].toNat : Int) == 48) = false := beq_eq_false_iff_ne.2 (by omega)
        have m49 : ((s[m].toNat : Int) == 49) = false := beq_eq_false_iff_ne.2 (by omega)
        have m50 : ((s[m].toNat : Int) == 50) = false := beq_eq_false_iff_ne.2 (by omega)
        have m51 : ((s[m].toNat : Int) == 51) = false := beq_eq_false_iff_ne.2 (by omega)
        have m52 : ((s[m].toNat : Int) == 52) = false := beq_eq_false_iff_ne.2 (by omega)
        have m53 : ((s[m].toNat : Int) == 53) = false := beq_eq_false_iff_ne.2 (by omega)
        have m54 : ((s[m].toNat : Int) == 54) = false := beq_eq_false_iff_ne.2 (by omega)
        have m55 : ((s[m].toNat : Int) == 55) = false := beq_eq_false_iff_ne.2 (by omega)
        have m56 : ((s[m].toNat : Int) == 56) = true := beq_iff_eq.2 (by omega)
        clear q
        go_wp2_with fail
        go_meet
        exact ⟨rfl, HP1.out _⟩
      · have m48 : ((s[m].toNat : Int) == 48) = false := beq_eq_false_iff_ne.2 (by omega)
        have m49 : ((s[m].toNat : Int) == 49) = false := beq_eq_false_iff_ne.2 (by omega)
        have m50 : ((s[m].toNat : Int) == 50) = false := beq_eq_false_iff_ne.2 (by omega)
        have m51 : ((s[m].toNat : Int) == 51) = false := beq_eq_false_iff_ne.2 (by omega)
        have m52 : ((s[m].toNat : Int) == 52) = false := beq_eq_false_iff_ne.2 (by omega)
        have m53 : ((s[m].toNat : Int) == 53) = false := beq_eq_false_iff_ne.2 (by omega)
        have m54 : ((s[m].toNat : Int) == 54) = false := beq_eq_false_iff_ne.2 (by omega)
        have m55 : ((s[m].toNat : Int) == 55) = false := beq_eq_false_iff_ne.2 (by omega)
        have m56 : ((s[m].toNat : Int) == 56) = false := beq_eq_false_iff_ne.2 (by omega)
        have m57 : ((s[m].toNat : Int) == 57) = true := beq_iff_eq.2 (by omega)
        clear q
        go_wp2_with fail
        go_meet
        exact ⟨rfl, HP1.out _⟩
    case rest =>
      clear QQ
      as_aux_lemma =>
      obtain ⟨rfl, hr1⟩ := hcut
      have HR1 := Lib.hid hr1
      clear hr1 c0 c1
      go_wp2_with fail
      go_step3
      go_wp2_with fail
      exact nth_pos s g m D P B W _ _ _ Z 1 HN.out _ rfl rfl hs (by omega) HSm.out HR1.out (fun r e w' hrn hh => HRes.out _ r e w' hrn hh)
end Go.Proofs.YtnibpdmbccfgoaaGreatDoor
