/- spec.ReadIdentifier. -/
import Derived.Test.YtkdfdfhejibopaaGreatDoorT438
namespace Go.Proofs.YtkdfdfhejibopaaGreatDoor
open Go.RowKit
set_option linter.unusedVariables false

/-- Hyphens at the beginning. -/
structure Hy (s : ByteArray) (h : Nat) : Prop where
  le : h ≤ s.size
  all : ∀ x, x < h → bAt s x = 45
  stop : h < s.size → bAt s h ≠ 45
/-- Whether a name begins at a place. -/
def begN (s : ByteArray) (h : Nat) : Prop := h < s.size ∧ (isBgG (bAt s h) = true ∨ escAt s h = true)

def RidP (s : ByteArray) (w : World) (e : Ending) (w' : World) : Prop :=
  ∃ (O : ByteArray) (i : Nat) (ok sure : Bool), e = .returned (.tuple #[.string O, .int .i64 (i : Int), .bool ok, .bool sure]) ∧ Below w.heap.size w w' ∧ i ≤ s.size ∧
    (sure = true → rdb s = true ∧ ∃ h, Hy s h ∧ ((¬ begN s h ∧ ok = false) ∨
      (begN s h ∧ NmG s 0 O i ∧ (i < s.size → isNm (bAt s i) = false ∧ escAt s i = false) ∧ (ok = true ↔ 0 < i ∧ bAt s i ≠ 92))))

set_option maxRecDepth 100000 in
set_option maxHeartbeats 8000000 in
theorem sReadIdentifier_any (s : ByteArray) (w : World) (hs : s.size ≤ 1000) : Calls Tryz.prog 7 #[.string s] w (RidP s w) := by
  have HRd : Hid (∀ U, Calls Tryz.prog 6 #[.string s] U (RbP (rdb s) U)) := fun U => rdb_any s U (by omega)
  have HNm : Hid (∀ U, Calls Tryz.prog 13 #[.string s] U (RnmP s U)) := fun U => sReadName_any s U hs
  have HW := Lib.hid (RdW.made0 s w)
  go_enter Tryz.func7, Tryz.ntmps7
  go_upto_block 0 with fail
  obtain ⟨wo, hwo⟩ : ∃ wo : World, wo = (w.alloc (.cells #[.string s, .int .i64 0, .bool false, .bool false, .bool false] 42)) := ⟨_, rfl⟩
  rw [← hwo] at HW ⊢
  have c0 := HW.out.rd.s_
  clear hwo
  go_cut [7] (fun v wx => ∃ h : Nat, v = .int .i64 (h : Int) ∧ Hy s h ∧ wo = wx)
  case first =>
    go_wp2_with fail
    go_loopg [7] s.size (fun gk v wr => ∃ h : Nat, gk = s.size - h ∧ v = .int .i64 (h : Int) ∧ h ≤ s.size ∧ Hid (∀ x, x < h → bAt s x = 45) ∧ wo = wr)
    case atStart => exact ⟨0, rfl, rfl, Nat.zero_le _, (fun x hx => absurd hx (Nat.not_lt_zero x)), rfl⟩
    case round =>
      obtain ⟨h, rfl, rfl, hh, HA, rfl⟩ := hrel
      by_cases hlt : h < s.size
      · have hb := bAt_in hlt
        by_cases h45 : s[h].toNat = 45
        · have m0 : ((s[h].toNat : Int) == 45) = true := beq_iff_eq.2 (by omega)
          have HA2 : Hid (∀ x, x < h + 1 → bAt s x = 45) := fun x hx => by
            by_cases q : x < h
            · exact HA.out x q
            · obtain rfl : x = h := by omega
              rw [hb]; exact h45
          clear hb h45
          go_wp2_with fail
          go_roundg (s.size - (h + 1))
          case measure => omega
          case rel => exact ⟨h + 1, rfl, by go_num, hlt, HA2, by trivial⟩
        · have m0 : ((s[h].toNat : Int) == 45) = false := beq_eq_false_iff_ne.2 (by omega)
          have HH : Hid (Hy s h) := ⟨hh, HA.out, fun _ => by rw [hb]; exact h45⟩
          clear hb h45
          go_wp2_with fail
          go_meet
          exact ⟨h, rfl, HH.out, by trivial⟩
      · have HH : Hid (Hy s h) := ⟨hh, HA.out, fun q => absurd q hlt⟩
        go_wp2_with fail
        go_meet
        exact ⟨h, rfl, HH.out, by trivial⟩
  case rest =>
    obtain ⟨h, rfl, hy, rfl⟩ := hcut
    have HY := Lib.hid hy
    have hle := hy.le
    clear hy
    by_cases hlt : h < s.size
    · have m0 : ((h : Int) == (s.size : Int)) = false := beq_eq_false_iff_ne.2 (by omega)
      have m0' : (h == s.size) = false := beq_eq_false_iff_ne.2 (by omega)
      have hb := bAt_in hlt
      obtain ⟨c, hc⟩ : ∃ c, c = bAt s h := ⟨_, rfl⟩
      have hc256 : c < 256 := by rw [hc]; exact bAt_lt _ _
      have HBg := Lib.hid (fun U => beginG_any c hc256 U)
      have HC := Lib.hid hc
      rw [← hc] at hb
      unfold BooP at HBg
      obtain ⟨b, hbb⟩ : ∃ b, b = isBgG c := ⟨_, rfl⟩
      rw [← hbb, hb] at HBg
      have HBb := Lib.hid hbb
      have HEs := Lib.hid (escF_any s w.heap.size h wo (by omega) hle c0)
      obtain ⟨x, hx⟩ : ∃ x, x = escAt s h := ⟨_, rfl⟩
      rw [← hx] at HEs
      have HX := Lib.hid hx
      clear hc hc256 hb hbb hx
      cases b
      · cases x
        · -- no name
          have HNo : Hid (¬ begN s h) := fun ⟨_, q⟩ => by
            rw [← HC.out, ← HBb.out, ← HX.out] at q
            rcases q with q | q <;> cases q
          go_wp2_with fail
          refine (HBg.out _).mono ?_
          rintro e1 w1 ⟨rfl, rfl⟩
          go_wp2_with fail
          refine HEs.out.mono ?_
          rintro e1 w1 ⟨rfl, rfl⟩
          go_wp2_with fail
          refine (HRd.out _).mono ?_
          rintro e1 w2 ⟨rfl, rfl⟩
          go_wp2_with fail
          ((try simp only [Exit.inBlock, Exit.then]); refine bodyPost_ret (results_tmp4 rfl _ _ _) rfl ?_)
          exact ⟨_, 0, false, rdb s, rfl, HW.out.old, Nat.zero_le _, fun q => ⟨q, h, HY.out, .inl ⟨HNo.out, rfl⟩⟩⟩
        · have HYes : Hid (begN s h) := ⟨hlt, .inr HX.out.symm⟩
          go_wp2_with fail
          refine (HBg.out _).mono ?_
          rintro e1 w1 ⟨rfl, rfl⟩
          go_wp2_with fail
          refine HEs.out.mono ?_
          rintro e1 w1 ⟨rfl, rfl⟩
          go_wp2_with fail
          refine (HNm.out _).mono ?_
          rintro e1 w2 ⟨O, i, ok, sure, rfl, hb2, hi, hO, hx2⟩
          have HB2 := Lib.hid (bnext HW.out.old hb2)
          have HX2 := Lib.hid hx2
          clear hb2 hx2
          go_wp2_with fail
          ((try simp only [Exit.inBlock, Exit.then]); refine bodyPost_ret (results_tmp4 rfl _ _ _) rfl ?_)
          exact ⟨O, i, ok, sure, rfl, HB2.out, hi, fun q => ⟨(HX2.out q).2.1, h, HY.out, .inr ⟨HYes.out, (HX2.out q).1, (HX2.out q).2.2.1, (HX2.out q).2.2.2⟩⟩⟩
      · have HYes : Hid (begN s h) := ⟨hlt, .inl (by rw [← HC.out]; exact HBb.out.symm)⟩
        go_wp2_with fail
        refine (HBg.out _).mono ?_
        rintro e1 w1 ⟨rfl, rfl⟩
        go_wp2_with fail
        refine (HNm.out _).mono ?_
        rintro e1 w2 ⟨O, i, ok, sure, rfl, hb2, hi, hO, hx2⟩
        have HB2 := Lib.hid (bnext HW.out.old hb2)
        have HX2 := Lib.hid hx2
        clear hb2 hx2
        go_wp2_with fail
        ((try simp only [Exit.inBlock, Exit.then]); refine bodyPost_ret (results_tmp4 rfl _ _ _) rfl ?_)
        exact ⟨O, i, ok, sure, rfl, HB2.out, hi, fun q => ⟨(HX2.out q).2.1, h, HY.out, .inr ⟨HYes.out, (HX2.out q).1, (HX2.out q).2.2.1, (HX2.out q).2.2.2⟩⟩⟩
    · have m0 : ((h : Int) == (s.size : Int)) = true := beq_iff_eq.2 (by omega)
      have m0' : (h == s.size) = true := beq_iff_eq.2 (by omega)
      have HNo : Hid (¬ begN s h) := fun q => hlt q.1
      go_wp2_with fail
      refine (HRd.out _).mono ?_
      rintro e1 w2 ⟨rfl, rfl⟩
      go_wp2_with fail
      ((try simp only [Exit.inBlock, Exit.then]); refine bodyPost_ret (results_tmp4 rfl _ _ _) rfl ?_)
      exact ⟨_, 0, false, rdb s, rfl, HW.out.old, Nat.zero_le _, fun q => ⟨q, h, HY.out, .inl ⟨HNo.out, rfl⟩⟩⟩
end Go.Proofs.YtkdfdfhejibopaaGreatDoor
