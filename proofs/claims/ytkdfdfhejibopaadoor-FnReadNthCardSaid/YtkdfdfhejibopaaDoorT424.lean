/- The reader's comments and white space. -/
import Derived.Test.YtkdfdfhejibopaaDoorT423
namespace Go.Proofs.YtkdfdfhejibopaaDoor
open Go.RowKit
set_option linter.unusedVariables false

def CmYes (s : ByteArray) (g k : Nat) (bd u : Bool) (B : Nat) (W : World) (e : Ending) (w' : World) : Prop := e = .returned (.tuple #[]) ∧ ∃ e', CmTo s (k + 2) e' ∧ RdB s g e' bd u B W w'
def CmNo (s : ByteArray) (g k : Nat) (B : Nat) (W : World) (e : Ending) (w' : World) : Prop := e = .returned (.tuple #[]) ∧ NoCm s (k + 2) ∧ RdB s g k true true B W w'
def CmP (s : ByteArray) (g k : Nat) (bd u : Bool) (B : Nat) (W : World) (e : Ending) (w' : World) : Prop := CmYes s g k bd u B W e w' ∨ CmNo s g k B W e w'

set_option maxRecDepth 100000 in
set_option maxHeartbeats 4000000 in
theorem comment_any (s : ByteArray) (g k : Nat) (bd u : Bool) (B : Nat) (W w : World) (hs : s.size ≤ 1000) (hk : k + 1 < s.size) (h : RdB s g k bd u B W w) :
    Calls Tryd.prog 41 #[.pointer (some ⟨g, 0, none⟩)] w (CmP s g k bd u B W) := by
  have HR := Lib.hid h
  obtain ⟨c0, c1⟩ := h.rd
  have c2 := h.c2
  have c3 := h.c3
  have f1 := h.fz 1
  have f2 := h.fz 2
  have f3 := h.fz 3
  clear h
  go_enter Tryd.func41, Tryd.ntmps41
  go_wp2_with fail
  go_loopg [2] (s.size - (k + 2)) (fun gk v2 wr => ∃ i : Nat, gk = s.size - i ∧ k + 2 ≤ i ∧ i ≤ s.size ∧ v2 = .int .i64 (i : Int) ∧ Hid (∀ x, k + 2 ≤ x → x < i → ¬ (bAt s x = 42 ∧ bAt s (x + 1) = 47)) ∧ w = wr)
  case atStart => exact ⟨k + 2, rfl, Nat.le_refl _, by omega, by go_num, (fun x q1 q2 => by omega), rfl⟩
  case round =>
    obtain ⟨i, rfl, hki, hi, rfl, HN, rfl⟩ := hrel
    by_cases hlt : i + 1 < s.size
    · have hlt0 : i < s.size := by omega
      have hb := bAt_in hlt0
      have hb1 := bAt_in hlt
      by_cases h42 : s[i].toNat = 42
      · have m0 : ((s[i].toNat : Int) == 42) = true := beq_iff_eq.2 (by omega)
        by_cases h47 : s[i + 1].toNat = 47
        · have m1 : ((s[i + 1].toNat : Int) == 47) = true := beq_iff_eq.2 (by omega)
          have HC : Hid (CmTo s (k + 2) (i + 2)) := ⟨i, hki, hlt, by rw [hb]; exact h42, by rw [hb1]; exact h47, rfl, HN.out⟩
          clear hb hb1 h42 h47
          go_wp2_with fail
          refine bodyPost_ret (results_none rfl _ _ _) rfl ?_
          exact .inl ⟨rfl, i + 2, HC.out, HR.out.setI (i + 2) _ (by omega)⟩
        · have m1 : ((s[i + 1].toNat : Int) == 47) = false := beq_eq_false_iff_ne.2 (by omega)
          have HN2 : Hid (∀ x, k + 2 ≤ x → x < i + 1 → ¬ (bAt s x = 42 ∧ bAt s (x + 1) = 47)) := fun x q1 q2 => by
            by_cases q : x < i
            · exact HN.out x q1 q
            · have : x = i := by omega
              subst this; rw [hb1]; exact fun r => h47 r.2
          clear hb hb1 h42 h47
          go_wp2_with fail
          go_roundg (s.size - (i + 1))
          case measure => omega
          case rel => exact ⟨i + 1, rfl, by omega, by omega, by go_num, HN2, by trivial⟩
      · have m0 : ((s[i].toNat : Int) == 42) = false := beq_eq_false_iff_ne.2 (by omega)
        have HN2 : Hid (∀ x, k + 2 ≤ x → x < i + 1 → ¬ (bAt s x = 42 ∧ bAt s (x + 1) = 47)) := fun x q1 q2 => by
          by_cases q : x < i
          · exact HN.out x q1 q
          · have : x = i := by omega
            subst this; rw [hb]; exact fun r => h42 r.1
        clear hb hb1 h42
        go_wp2_with fail
        go_roundg (s.size - (i + 1))
        case measure => omega
        case rel => exact ⟨i + 1, rfl, by omega, by omega, by go_num, HN2, by trivial⟩
    · have HNo : Hid (NoCm s (k + 2)) := fun x q1 q2 => HN.out x q1 (by omega)
      go_wp2_with fail
      go_end0
      exact .inr ⟨rfl, HNo.out, (HR.out.setB true).setU true⟩

def SpPost (s : ByteArray) (g k : Nat) (bd u : Bool) (B : Nat) (W : World) (e : Ending) (w' : World) : Prop :=
  ∃ (b : Bool) (e' : Nat) (bd' u' : Bool), e = .returned (.bool b) ∧ RdB s g e' bd' u' B W w' ∧ e' ≤ s.size ∧ k ≤ e' ∧ (u' = false → u = false ∧ (bd = false → bd' = false ∧ Sk s k e'))

set_option maxRecDepth 100000 in
set_option maxHeartbeats 4000000 in
theorem spaces_bad (s : ByteArray) (g k : Nat) (u : Bool) (B : Nat) (W w : World) (hs : s.size ≤ 1000) (hk : k ≤ s.size) (h : RdB s g k true u B W w) :
    Calls Tryd.prog 35 #[.pointer (some ⟨g, 0, none⟩)] w (SpPost s g k true u B W) := by
  have HR := Lib.hid h
  obtain ⟨c0, c1⟩ := h.rd
  have c2 := h.c2
  clear h
  go_enter Tryd.func35, Tryd.ntmps35
  go_wp2_with fail
  go_loopg [] 0 (fun gk wr => w = wr)
  case atStart => exact rfl
  case round =>
    obtain rfl := hrel
    go_wp2_with fail
    go_quiet (fail)
    go_wp2_with fail
    go_ret
    exact ⟨_, k, true, u, rfl, HR.out.drew _, hk, Nat.le_refl _, fun h => ⟨h, (fun q => by cases q)⟩⟩

set_option maxRecDepth 100000 in
set_option maxHeartbeats 8000000 in
theorem spaces_good (s : ByteArray) (g k : Nat) (u : Bool) (B : Nat) (W w : World) (hs : s.size ≤ 1000) (hk : k ≤ s.size) (h : RdB s g k false u B W w) :
    Calls Tryd.prog 35 #[.pointer (some ⟨g, 0, none⟩)] w (SpPost s g k false u B W) := by
  have HR := Lib.hid h
  obtain ⟨c0, c1⟩ := h.rd
  have c2 := h.c2
  clear h
  go_enter Tryd.func35, Tryd.ntmps35
  go_wp2_with fail
  go_loopg [] (2 * (s.size - k) + 1) (fun gk wr => ∃ (i : Nat) (bd1 u1 : Bool), gk = 2 * (s.size - i) + (if bd1 = true then 0 else 1) ∧ i ≤ s.size ∧ k ≤ i ∧ Hid (Star (SkR s) k i) ∧ Hid ((bd1 = false ∧ u1 = u) ∨ (bd1 = true ∧ u1 = true)) ∧ Hid (RdB s g i bd1 u1 B W wr))
  case atStart => exact ⟨k, false, u, by simp, hk, Nat.le_refl _, .zero, .inl ⟨rfl, rfl⟩, HR.out⟩
  case round =>
    obtain ⟨i, bd1, u1, rfl, hi, hki, HS, HU, HW⟩ := hrel
    clear c0 c1 c2 HR
    obtain ⟨c0, c1⟩ := HW.out.rd
    have c2 := HW.out.c2
    cases bd1
    · have hu1 : u1 = u := by rcases HU.out with ⟨_, q⟩ | ⟨q, _⟩
                              · exact q
                              · cases q
      subst hu1
      by_cases hlt : i < s.size
      · have hd : decide ((i : Int) < (s.size : Int)) = true := decide_eq_true (by omega)
        have HNx : Hid (∀ U, RdB s g i false u1 B W U → Calls Tryd.prog 27 #[.pointer (some ⟨g, 0, none⟩)] U (RdN (.int .u8 (bAt s i : Int)) U)) := fun U h => next_any s g i U (by omega) (by omega) h.rd
        have f1 := HW.out.fz 1
        obtain ⟨c, hc⟩ : ∃ c, c = bAt s i := ⟨_, rfl⟩
        have hc256 : c < 256 := by rw [hc]; exact bAt_lt _ _
        have HSp := Lib.hid (fun U => isSpace_any c hc256 U)
        rw [← hc] at HNx
        obtain ⟨bw, hbw⟩ : ∃ bw, bw = isWs c := ⟨_, rfl⟩
        rw [← hbw] at HSp
        have HBw : Hid (bw = isWs (bAt s i)) := by rw [Hid, hbw, hc]
        clear hc hbw
        go_wp2_with fail
        go_quiet (fail)
        go_wp2_with fail
        refine (HNx.out _ (HW.out.drew _)).mono ?_
        rintro e1 w1 ⟨rfl, q1, rfl⟩
        go_wp2_with fail
        refine (HSp.out _).mono ?_
        rintro e1 w1 ⟨rfl, rfl⟩
        cases bw
        · have HW2 := Lib.hid (HW.out.drew (nq + q1))
          have HHr : Hid (∀ U, RdB s g i false u1 B W U → Calls Tryd.prog 34 #[.pointer (some ⟨g, 0, none⟩), .string ⟨#[47, 42]⟩] U (RdN (.bool (hereT s ⟨#[47, 42]⟩ i)) U)) := fun U h => hereG_any s ⟨#[47, 42]⟩ (by decide) g i U hs hi h.rd
          have HBh : Hid (hereT s ⟨#[47, 42]⟩ i = decide (i + 1 < s.size ∧ bAt s i = 47 ∧ bAt s (i + 1) = 42)) := here2
          obtain ⟨bh, hbh⟩ : ∃ bh, bh = hereT s ⟨#[47, 42]⟩ i := ⟨_, rfl⟩
          rw [← hbh] at HHr HBh
          clear hbh
          cases bh
          · have HK : Hid (Sk s k i) := ⟨HS.out, hi, sk_stop (fun _ => HBw.out.symm) (fun q r t => absurd ⟨q, r, t⟩ (of_decide_eq_false HBh.out.symm))⟩
            go_wp2_with fail
            refine (HHr.out _ HW2.out).mono ?_
            rintro e1 w1 ⟨rfl, q2, rfl⟩
            have HW3 := Lib.hid (HW.out.drew (nq + q1 + q2))
            go_wp2_with fail
            go_ret
            refine ⟨_, i, false, u1, rfl, ?_, hi, hki, fun h => ⟨h, fun _ => ⟨rfl, HK.out⟩⟩⟩
            simpa [World.drewN_drewN] using HW3.out
          · obtain ⟨hl1, r1, r2⟩ := of_decide_eq_true HBh.out.symm
            have H1 := Lib.hid r1
            have H2 := Lib.hid r2
            clear r1 r2
            go_wp2_with fail
            refine (HHr.out _ HW2.out).mono ?_
            rintro e1 w1 ⟨rfl, q2, rfl⟩
            have HW3 := Lib.hid (HW.out.drew (nq + q1 + q2))
            have HCm := Lib.hid (comment_any s g i false u1 B W _ hs hl1 HW3.out)
            go_wp2_with fail
            refine HCm.out.mono ?_
            rintro e1 w2 hcm
            rcases hcm with ⟨rfl, e', hct, hr⟩ | ⟨rfl, hno, hr⟩
            · have HS2 := Lib.hid (HS.out.snoc (.inr ⟨hl1, H1.out, H2.out, hct⟩))
              have HR2 := Lib.hid hr
              have hlt2 : i < e' ∧ e' ≤ s.size := by have := SkR.lt (.inr ⟨hl1, H1.out, H2.out, hct⟩); exact ⟨this.1, this.2.1⟩
              obtain ⟨hl2, hl3⟩ := hlt2
              clear hct hr
              go_wp2_with fail
              go_roundg (2 * (s.size - e') + 1)
              case measure => omega
              case rel => exact ⟨e', false, u1, by simp, hl3, by omega, HS2, .inl ⟨rfl, rfl⟩, HR2⟩
            · have HR2 := Lib.hid hr
              clear hno hr
              go_wp2_with fail
              go_roundg (2 * (s.size - i))
              case measure => omega
              case rel => exact ⟨i, true, true, by simp, hi, hki, HS, .inr ⟨rfl, rfl⟩, HR2⟩
        · have HS2 := Lib.hid (HS.out.snoc (.inl ⟨hlt, HBw.out.symm, rfl⟩))
          go_wp2_with fail
          go_roundg (2 * (s.size - (i + 1)) + 1)
          case measure => omega
          case rel => exact ⟨i + 1, false, u1, by simp, by omega, by omega, HS2, .inl ⟨rfl, rfl⟩, (HW.out.drew _).setI _ _ (by omega)⟩
      · have hd : decide ((i : Int) < (s.size : Int)) = false := decide_eq_false (by omega)
        have HK : Hid (Sk s k i) := ⟨HS.out, hi, sk_stop (fun q => absurd q hlt) (fun q => absurd q (by omega))⟩
        go_wp2_with fail
        go_quiet (fail)
        go_wp2_with fail
        go_ret
        exact ⟨_, i, false, u1, rfl, HW.out.drew _, hi, hki, fun h => ⟨h, fun _ => ⟨rfl, HK.out⟩⟩⟩
    · have hu1 : u1 = true := by rcases HU.out with ⟨q, _⟩ | ⟨_, q⟩
                                 · cases q
                                 · exact q
      subst hu1
      go_wp2_with fail
      go_quiet (fail)
      go_wp2_with fail
      go_ret
      exact ⟨_, i, true, true, rfl, HW.out.drew _, hi, hki, (fun h => by cases h)⟩

theorem spaces_any (s : ByteArray) (g k : Nat) (bd u : Bool) (B : Nat) (W w : World) (hs : s.size ≤ 1000) (hk : k ≤ s.size) (h : RdB s g k bd u B W w) :
    Calls Tryd.prog 35 #[.pointer (some ⟨g, 0, none⟩)] w (SpPost s g k bd u B W) := by
  cases bd
  · exact spaces_good s g k u B W w hs hk h
  · exact spaces_bad s g k u B W w hs hk h
end Go.Proofs.YtkdfdfhejibopaaDoor
