/- The test of :nth-child and its kin, asked of one of some elements with one parent. -/
import Derived.Test.YtgilbckfkngaiaaT161
namespace Go.Proofs.Ytgilbckfkngaiaa
open Go.RowKit
set_option linter.unusedVariables false

theorem cntI_ne {A b v : Int} (h : A ≠ 0) : cntI A b v = (((v - b).tmod A == 0) && decide (0 ≤ (v - b).tdiv A)) := by unfold cntI; rw [if_neg h]
theorem cntI_zero {b v : Int} : cntI 0 b v = (v == b) := by unfold cntI; rw [if_pos rfl]
theorem tmod_small {x A : Int} (h : -2000 ≤ x ∧ x ≤ 2000) : -2000 ≤ x.tmod A ∧ x.tmod A ≤ 2000 := by
  have h1 : (x.tmod A).natAbs ≤ x.natAbs := by rw [Int.natAbs_tmod]; exact Nat.mod_le _ _
  omega
theorem tdiv_small {x A : Int} (h : -2000 ≤ x ∧ x ≤ 2000) : -2000 ≤ x.tdiv A ∧ x.tdiv A ≤ 2000 := by
  have h1 : (x.tdiv A).natAbs ≤ x.natAbs := by rw [Int.natAbs_tdiv]; exact Nat.div_le_self _ _
  omega

set_option maxRecDepth 100000 in
set_option maxHeartbeats 4000000 in
theorem nth_any (N : List ByteArray) (a : Nat) (ha : a < N.length) (hn : N.length ≤ 200) (A b : Int) (hA : A ≠ 0) (hAb : -1000 ≤ A ∧ A ≤ 1000) (hb : -1000 ≤ b ∧ b ≤ 1000) (last ty : Bool) (B : Nat) (bl : Nat → Nat) (st : Nat → Dn) (w : World)
    (hD : Dom w B (fun i => 0 ≤ i ∧ i < N.length + 1) bl st) (hB : Bro N st) :
    Calls Try.prog 139 #[.int .i64 A, .int .i64 b, .bool last, .bool ty, .pointer (some ⟨bl (a + 1), 0, none⟩)] w (CntPost (cntI A b (numN N a last ty)) w) := by
  have HC := Lib.hid (fun W (hW : Below w.heap.size w W) => broC hD hB hW)
  have c0 := (HC.out w (Below.refl _ _)).par a ha
  have c5 := (HC.out w (Below.refl _ _)).typ a ha
  have p1 := (HC.out w (Below.refl _ _)).fst
  have hnum : numN N a false ty = cntR (cntQ N a ty) 0 (a + 1) := rfl
  have hnum2 := numN_last N a ha ty
  obtain ⟨q, hq⟩ : ∃ q, q = cntQ N a ty := ⟨_, rfl⟩
  have hle : ∀ m, m ≤ N.length → cntR q 0 m ≤ 200 := fun m hm => Nat.le_trans (cntR_le _ _ _) (by omega)
  have HLe := Lib.hid hle
  have HSelf : Hid (q a = true) := by rw [Hid, hq]; exact cntQ_self N a ty
  have HQ : Hid (∀ j, q j = (!ty || ((N.getD j default).toList == (N.getD a default).toList))) := fun j => by rw [hq]; rfl
  have HS : Hid (∀ j, cntR q 0 (j + 1) = cntR q 0 j + if q j = true then 1 else 0) := fun j => by have := cntR_succ q 0 j; rwa [Nat.zero_add] at this
  rw [hnum, ← hq] at hnum2
  -- the number that is tested
  obtain ⟨v, hv⟩ : ∃ v, v = numN N a last ty := ⟨_, rfl⟩
  have HV0 : Hid (last = false → v = cntR q 0 (a + 1)) := fun h => by rw [hv, h, hnum, hq]
  have HV1 : Hid (last = true → v + cntR q 0 (a + 1) = cntR q 0 N.length + 1) := fun h => by rw [hv, h]; exact hnum2
  rw [← hv, cntI_ne hA]
  have hca : 1 ≤ cntR q 0 (a + 1) ∧ cntR q 0 (a + 1) ≤ 200 := ⟨by rw [HS.out a, HSelf.out, if_pos rfl]; omega, hle _ (by omega)⟩
  obtain ⟨ca, hcae⟩ : ∃ ca, ca = cntR q 0 (a + 1) := ⟨_, rfl⟩
  have HCa := Lib.hid hcae
  rw [← hcae] at HV0 HV1 hca
  have hv200 : v ≤ 400 := by
    cases last
    · have := HV0.out rfl; omega
    · have := HV1.out rfl; have := hle N.length (Nat.le_refl _); omega
  clear hD hB hle hnum hnum2 hq hv hcae
  have ev : IntKind.i64.wrap ((v : Int) - b) = (v : Int) - b := IntWalk.i64_in _ ⟨by omega, by omega⟩
  have em : IntKind.i64.wrap (((v : Int) - b).tmod A) = ((v : Int) - b).tmod A := by have := tmod_small (x := (v : Int) - b) (A := A) ⟨by omega, by omega⟩; exact IntWalk.i64_in _ ⟨by omega, by omega⟩
  have ed : IntKind.i64.wrap (((v : Int) - b).tdiv A) = ((v : Int) - b).tdiv A := by have := tdiv_small (x := (v : Int) - b) (A := A) ⟨by omega, by omega⟩; exact IntWalk.i64_in _ ⟨by omega, by omega⟩
  have hA0 : (A == 0) = false := beq_eq_false_iff_ne.2 hA
  go_enter Try.func139, Try.ntmps139
  go_wp2_with fail
  go_loopw [12, 13, 14] (fun x y z wr => ∃ j : Nat, j ≤ N.length ∧ (last = false → j ≤ a) ∧ x = .int .i64 (if a < j then (ca : Int) else -1) ∧ y = .int .i64 (cntR q 0 j) ∧ z = sibP bl N.length j ∧ Below w.heap.size w wr) (fun _ _ z _ => N.length + 1 - (if idxB bl N.length z = 0 then N.length + 1 else idxB bl N.length z))
  case atStart => exact ⟨0, by omega, by omega, rfl, rfl, by unfold sibP; rw [if_pos (by omega)], Below.refl _ _⟩
  case round =>
    obtain ⟨j, hj, hlast, rfl, rfl, rfl, hbw⟩ := hrel
    have HW := Lib.hid hbw
    have C := Lib.hid (HC.out wr hbw)
    have HJ := Lib.hid hlast
    clear c0 c5 p1 hlast
    by_cases hjn : j < N.length
    · have hsib : sibP bl N.length j = .pointer (some ⟨bl (j + 1), 0, none⟩) := by unfold sibP; rw [if_pos hjn]
      rw [hsib]
      have HM : Hid (idxB bl N.length (.pointer (some ⟨bl (j + 1), 0, none⟩)) = 1 + j) := idxB_at C.out hjn
      have HM1 : Hid ((if idxB bl N.length (sibP bl N.length (j + 1)) = 0 then N.length + 1 else idxB bl N.length (sibP bl N.length (j + 1))) = j + 2) := by
        unfold sibP
        by_cases h : j + 1 < N.length
        · rw [Hid, if_pos h, idxB_at C.out h, if_neg (by omega)]; omega
        · rw [Hid, if_neg h, idxB_none, if_pos rfl]; omega
      have e5 := C.out.typ j (by omega)
      have e7 := C.out.dat j (by omega)
      have a7 := C.out.dat a ha
      have e4 : wr.cell? ⟨bl (j + 1), 4, none⟩ = some (sibP bl N.length (j + 1)) := C.out.nxt j hjn
      obtain ⟨o4, ho4⟩ : ∃ o, sibP bl N.length (j + 1) = .pointer o := ⟨_, rfl⟩
      rw [ho4] at e4 HM1
      have HO4 := Lib.hid ho4
      have hcl0 := HLe.out j (by omega)
      clear hbw hsib ho4
      obtain ⟨yj, hyj⟩ : ∃ y, y = N.getD j default := ⟨_, rfl⟩
      obtain ⟨ya, hya⟩ : ∃ y, y = N.getD a default := ⟨_, rfl⟩
      have HQj : Hid (q j = (!ty || (yj.toList == ya.toList))) := by rw [Hid, HQ.out, hyj, hya]
      rw [← hyj] at e7
      rw [← hya] at a7
      clear hyj hya
      obtain ⟨xi, hxi⟩ : ∃ x : Int, x = if a < j then (ca : Int) else -1 := ⟨_, rfl⟩
      rw [← hxi]
      have HXi := Lib.hid hxi
      clear hxi
      cases ty
      · have hqj : q j = true := HQj.out
        have hcnt : cntR q 0 (j + 1) = cntR q 0 j + 1 := by have := HS.out j; rwa [hqj] at this
        have hcl := HLe.out (j + 1) (by omega)
        have HCnt := Lib.hid hcnt
        by_cases hja : j = a
        · subst hja
          have heq := fun n => BroC.same (N := N) (bl := bl) (W := wr) j n
          have hci : ((cntR q 0 j : Int) + 1) = (ca : Int) := by have := HCa.out; omega
          have hxf : xi = -1 := by rw [HXi.out, if_neg (by omega)]
          clear hcnt
          cases last
          · have hvv : v = ca := HV0.out rfl
            subst hvv
            have hz : ((v : Int) == -1) = false := beq_eq_false_iff_ne.2 (by omega)
            cases hr : (((v : Int) - b).tmod A == 0)
            all_goals
              go_wp2_with fail
              go_quiet (fail)
              go_wp2_with fail
              go_ret
              exact ⟨ret_b (by simp [hr]), below_drewN HW.out _⟩
          · go_wp2_with fail
            go_quiet (fail)
            go_wp2_with fail
            go_roundw
            case rel => exact ⟨j + 1, by omega, by simp, by rw [if_pos (by omega)], by rw [HCnt.out]; go_num, by rw [HO4.out], below_drewN HW.out _⟩
            case measure => rw [HM1.out, HM.out, if_neg (by omega)]; omega
        · have heq := fun n => C.out.other (show j < N.length by omega) ha hja n
          clear hcnt
          go_wp2_with fail
          go_quiet (fail)
          go_wp2_with fail
          go_roundw
          case rel => exact ⟨j + 1, by omega, fun h => by have := HJ.out h; omega, by rw [HXi.out]; by_cases h : a < j <;> simp [h] <;> omega, by rw [HCnt.out]; go_num, by rw [HO4.out], below_drewN HW.out _⟩
          case measure => rw [HM1.out, HM.out, if_neg (by omega)]; omega
      · cases hq2 : (yj.toList == ya.toList)
        · have hqj : q j = false := by rw [HQj.out, hq2]; rfl
          have hcnt : cntR q 0 (j + 1) = cntR q 0 j := by have := HS.out j; rwa [hqj] at this
          have HCnt := Lib.hid hcnt
          have hja : j ≠ a := by rintro rfl; have := HSelf.out; rw [hqj] at this; cases this
          clear hcnt
          go_wp2_with fail
          go_quiet (fail)
          go_wp2_with fail
          go_roundw
          case rel => exact ⟨j + 1, by omega, fun h => by have := HJ.out h; omega, by rw [HXi.out]; by_cases h : a < j <;> simp [h] <;> omega, by rw [HCnt.out], by rw [HO4.out], below_drewN HW.out _⟩
          case measure => rw [HM1.out, HM.out, if_neg (by omega)]; omega
        · have hqj : q j = true := by rw [HQj.out, hq2]; rfl
          have hcnt : cntR q 0 (j + 1) = cntR q 0 j + 1 := by have := HS.out j; rwa [hqj] at this
          have hcl := HLe.out (j + 1) (by omega)
          have HCnt := Lib.hid hcnt
          by_cases hja : j = a
          · subst hja
            have heq := fun n => BroC.same (N := N) (bl := bl) (W := wr) j n
            have hci : ((cntR q 0 j : Int) + 1) = (ca : Int) := by have := HCa.out; omega
            have hxf : xi = -1 := by rw [HXi.out, if_neg (by omega)]
            clear hcnt
            cases last
            · have hvv : v = ca := HV0.out rfl
              subst hvv
              have hz : ((v : Int) == -1) = false := beq_eq_false_iff_ne.2 (by omega)
              cases hr : (((v : Int) - b).tmod A == 0)
              all_goals
                go_wp2_with fail
                go_quiet (fail)
                go_wp2_with fail
                go_ret
                exact ⟨ret_b (by simp [hr]), below_drewN HW.out _⟩
            · go_wp2_with fail
              go_quiet (fail)
              go_wp2_with fail
              go_roundw
              case rel => exact ⟨j + 1, by omega, by simp, by rw [if_pos (by omega)], by rw [HCnt.out]; go_num, by rw [HO4.out], below_drewN HW.out _⟩
              case measure => rw [HM1.out, HM.out, if_neg (by omega)]; omega
          · have heq := fun n => C.out.other (show j < N.length by omega) ha hja n
            clear hcnt
            go_wp2_with fail
            go_quiet (fail)
            go_wp2_with fail
            go_roundw
            case rel => exact ⟨j + 1, by omega, fun h => by have := HJ.out h; omega, by rw [HXi.out]; by_cases h : a < j <;> simp [h] <;> omega, by rw [HCnt.out]; go_num, by rw [HO4.out], below_drewN HW.out _⟩
            case measure => rw [HM1.out, HM.out, if_neg (by omega)]; omega
    · have hjN : j = N.length := by omega
      have hl : last = true := by
        cases last
        · have := HJ.out rfl; omega
        · rfl
      subst hl
      subst hjN
      have hsib : sibP bl N.length N.length = .pointer none := by unfold sibP; rw [if_neg (by omega)]
      rw [hsib, if_pos ha]
      have hcl0 := HLe.out N.length (by omega)
      have hvv := HV1.out rfl
      have hz : ((ca : Int) == -1) = false := beq_eq_false_iff_ne.2 (by omega)
      have ev2 : (cntR q 0 N.length : Int) - (ca : Int) + 1 = (v : Int) := by omega
      clear hsib hbw hvv
      cases hr : (((v : Int) - b).tmod A == 0)
      all_goals
        go_wp2_with fail
        go_ret
        exact ⟨ret_b (by simp), HW.out⟩
end Go.Proofs.Ytgilbckfkngaiaa
