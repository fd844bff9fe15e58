/- Names as spec writes them (spec.Named), and the signs of attributes (spec.signsOf). -/
import Derived.Test.YtnibpdmbccfgoaaGreatDoorT657
import Derived.Deep.DeepCutAuto
import Derived.Deep.CutBlock
namespace Go.Proofs.YtnibpdmbccfgoaaGreatDoor
open Go.RowKit
set_option linter.unusedVariables false

theorem nmL_esc {s : ByteArray} {k : Nat} {O : ByteArray} (hO : O = bOf (nmL s k)) (h : escQ s k = true) : O ++ bOf (92 :: (hxS (bAt s k) ++ [32])) = bOf (nmL s (k + 1)) := by
  rw [hO, bOf_app]
  show _ = bOf (nmL s k ++ pieceL s k)
  unfold pieceL
  rw [if_pos h]; rfl
theorem get_one {s : ByteArray} {k : Nat} (h : k < s.size) : s.get! k = s[k] := by
  have := bAt_in h
  unfold bAt at this
  exact UInt8.toNat_inj.1 this
theorem nmL_chr {s : ByteArray} {k : Nat} {O : ByteArray} (hk : k < s.size) (hO : O = bOf (nmL s k)) (h : escQ s k = false) (hn : isNm (bAt s k) = true) : O ++ s.extract k (k + 1) = bOf (nmL s (k + 1)) := by
  rw [hO, one_extract s k hk, bOf_app]
  show _ = bOf (nmL s k ++ pieceL s k)
  unfold pieceL
  rw [if_neg (by rw [h]; simp), if_pos hn, get_one hk]
theorem nmL_bs {s : ByteArray} {k : Nat} {O : ByteArray} (hk : k < s.size) (hO : O = bOf (nmL s k)) (h : escQ s k = false) (hn : isNm (bAt s k) = false) : O ++ (ByteArray.mk #[92] ++ s.extract k (k + 1)) = bOf (nmL s (k + 1)) := by
  rw [hO, one_extract s k hk]
  have : ByteArray.mk #[92] ++ bOf [s[k]] = bOf [92, s[k]] := by
    show bOf [92] ++ bOf [s[k]] = _
    rw [bOf_app]; rfl
  rw [this, bOf_app]
  show _ = bOf (nmL s k ++ pieceL s k)
  unfold pieceL
  rw [if_neg (by rw [h]; simp), if_neg (by rw [hn]; simp), get_one hk]
theorem escQ_no {s : ByteArray} {k : Nat} (h : ¬ ((bAt s k < 32 ∨ bAt s k = 127) ∨ ((48 ≤ bAt s k ∧ bAt s k ≤ 57) ∧ (k = 0 ∨ (k = 1 ∧ bAt s 0 = 45))) ∨ (bAt s k = 45 ∧ k = 1 ∧ bAt s 0 = 45))) : escQ s k = false := by
  cases hq : escQ s k
  · rfl
  · exact absurd ((escQ_iff s k).1 hq) h

set_option maxRecDepth 100000 in
set_option maxHeartbeats 8000000 in
theorem named_any (s : ByteArray) (w : World) (hs : s.size ≤ 1000) : Calls Tryz.prog 33 #[.string s] w (StrP (bOf (namedL s)) w) := by
  by_cases h45 : s = ⟨#[45]⟩
  · have HV : Hid (namedL s = [92, 45]) := by unfold namedL Hid; rw [if_pos h45]
    have m0 : (s.toList == [45]) = true := by rw [h45, ByteArray.toList_eq]; rfl
    clear h45
    go_enter Tryz.func33, Tryz.ntmps33
    go_wp2_with fail
    go_ret
    refine ⟨?_, rfl⟩
    rw [HV.out]; rfl
  · have HV : Hid (namedL s = nmL s s.size) := by unfold namedL Hid; rw [if_neg h45]
    have m0 : (s.toList == [45]) = false := beq_eq_false_iff_ne.2 (fun q => h45 (ByteArray.ext (Array.ext' (by rw [ByteArray.toList_eq] at q; exact q))))
    clear h45
    go_enter Tryz.func33, Tryz.ntmps33
    go_wp2_with fail
    go_loopg [3, 4] s.size (fun gk vo vi wr => ∃ (k : Nat) (O : ByteArray), gk = s.size - k ∧ vi = .int .i64 (k : Int) ∧ vo = .string O ∧ k ≤ s.size ∧ O.size ≤ 4000 ∧ Hid (O = bOf (nmL s k)) ∧ w = wr)
    case atStart => exact ⟨0, _, rfl, rfl, rfl, Nat.zero_le _, by decide, rfl, rfl⟩
    case round =>
      obtain ⟨k, O, rfl, rfl, rfl, hk, hO, HO, rfl⟩ := hrel
      by_cases hlt : k < s.size
      · have hlt0 : 0 < s.size := by omega
        have hw : wrap64 (s[k].toNat : Int) = (s[k].toNat : Int) := wrap_byte _
        have hlt8 := s[k].toNat_lt
        have hb := bAt_in hlt
        have hb0 := bAt_in hlt0
        have HB := Lib.hid hb
        have HB0 := Lib.hid hb0
        have HEx := Lib.hid (one_extract s k hlt)
        have hX1 : (s.extract k (k + 1)).size ≤ 1 := by rw [HEx.out, bOf_size]; simp
        have hX2 : (ByteArray.mk #[92] ++ s.extract k (k + 1)).size ≤ 2 := by rw [ByteArray.size_append]; have : (ByteArray.mk #[92]).size = 1 := rfl; omega
        have HLn : Hid ((bOf (nmL s (k + 1))).size ≤ 4000) := by
          have := (nmL_len s (k + 1)).2
          rw [Hid, bOf_size]; omega
        have HNm : Hid (∀ U, Calls Tryz.prog 46 #[.int .u8 (s[k].toNat : Int)] U (BoolP (isNm s[k].toNat) U)) := fun U => nameByte_any s[k].toNat (by omega) U
        have HEs : Hid (∀ U, Calls Tryz.prog 45 #[.int .i64 (s[k].toNat : Int)] U (StrP (bOf (92 :: (hxS s[k].toNat ++ [32]))) U)) := fun U => escapeOf_any s[k].toNat (by omega) U
        have hX4 : (bOf (92 :: (hxS s[k].toNat ++ [32]))).size ≤ 4 := by rw [bOf_size]; have := hxS_len s[k].toNat; simp; omega
        obtain ⟨X, hX⟩ : ∃ X, X = bOf (92 :: (hxS s[k].toNat ++ [32])) := ⟨_, rfl⟩
        rw [← hX] at HEs hX4
        have HXe : Hid (X = bOf (92 :: (hxS (bAt s k) ++ [32]))) := by rw [Hid, hb]; exact hX
        clear hX hb hb0
        by_cases c1 : s[k].toNat < 32
        · have q1 : (s[k].toNat : Int) < 32 := by omega
          have q3 : (s[k].toNat : Int) < 48 := by omega
          have HQ : Hid (escQ s k = true) := (escQ_iff s k).2 (by rw [HB.out, HB0.out]; omega)
          clear hlt8 c1
          go_wp2_with fail
          refine (HEs.out _).mono ?_
          rintro e1 w1 ⟨rfl, rfl⟩
          go_wp2_with fail
          go_roundg (s.size - (k + 1))
          case measure => omega
          case rel => exact ⟨k + 1, _, rfl, by go_num, rfl, by omega, by rw [HXe.out, nmL_esc HO.out HQ.out]; exact HLn.out, by rw [Hid, HXe.out, nmL_esc HO.out HQ.out], by trivial⟩
        by_cases c2 : s[k].toNat = 127
        · have q1 : 32 ≤ (s[k].toNat : Int) := by omega
          have q2 : ((s[k].toNat : Int) == 127) = true := beq_iff_eq.2 (by omega)
          have q3 : 48 ≤ (s[k].toNat : Int) := by omega
          have q4 : 57 < (s[k].toNat : Int) := by omega
          have HQ : Hid (escQ s k = true) := (escQ_iff s k).2 (by rw [HB.out, HB0.out]; omega)
          clear hlt8 c1 c2
          go_wp2_with fail
          refine (HEs.out _).mono ?_
          rintro e1 w1 ⟨rfl, rfl⟩
          go_wp2_with fail
          go_roundg (s.size - (k + 1))
          case measure => omega
          case rel => exact ⟨k + 1, _, rfl, by go_num, rfl, by omega, by rw [HXe.out, nmL_esc HO.out HQ.out]; exact HLn.out, by rw [Hid, HXe.out, nmL_esc HO.out HQ.out], by trivial⟩
        by_cases c3 : 48 ≤ s[k].toNat ∧ s[k].toNat ≤ 57
        · by_cases k0 : k = 0
          · have q1 : 32 ≤ (s[k].toNat : Int) := by omega
            have q2 : ((s[k].toNat : Int) == 127) = false := beq_eq_false_iff_ne.2 (by omega)
            have q3 : 48 ≤ (s[k].toNat : Int) := by omega
            have q4 : (s[k].toNat : Int) ≤ 57 := by omega
            have q6 : ((k : Int) == 0) = true := beq_iff_eq.2 (by omega)
            have HQ : Hid (escQ s k = true) := (escQ_iff s k).2 (by rw [HB.out, HB0.out]; omega)
            clear hlt8 c1 c2 c3 k0
            go_wp2_with fail
            refine (HEs.out _).mono ?_
            rintro e1 w1 ⟨rfl, rfl⟩
            go_wp2_with fail
            go_roundg (s.size - (k + 1))
            case measure => omega
            case rel => exact ⟨k + 1, _, rfl, by go_num, rfl, by omega, by rw [HXe.out, nmL_esc HO.out HQ.out]; exact HLn.out, by rw [Hid, HXe.out, nmL_esc HO.out HQ.out], by trivial⟩
          · by_cases k1 : k = 1
            · by_cases s0 : s[0].toNat = 45
              · have q1 : 32 ≤ (s[k].toNat : Int) := by omega
                have q2 : ((s[k].toNat : Int) == 127) = false := beq_eq_false_iff_ne.2 (by omega)
                have q3 : 48 ≤ (s[k].toNat : Int) := by omega
                have q4 : (s[k].toNat : Int) ≤ 57 := by omega
                have q6 : ((k : Int) == 0) = false := beq_eq_false_iff_ne.2 (by omega)
                have q7 : ((k : Int) == 1) = true := beq_iff_eq.2 (by omega)
                have q8 : ((s[0].toNat : Int) == 45) = true := beq_iff_eq.2 (by omega)
                have HQ : Hid (escQ s k = true) := (escQ_iff s k).2 (by rw [HB.out, HB0.out]; omega)
                clear hlt8 c1 c2 c3 k0 k1 s0
                go_wp2_with fail
                refine (HEs.out _).mono ?_
                rintro e1 w1 ⟨rfl, rfl⟩
                go_wp2_with fail
                go_roundg (s.size - (k + 1))
                case measure => omega
                case rel => exact ⟨k + 1, _, rfl, by go_num, rfl, by omega, by rw [HXe.out, nmL_esc HO.out HQ.out]; exact HLn.out, by rw [Hid, HXe.out, nmL_esc HO.out HQ.out], by trivial⟩
              · have q1 : 32 ≤ (s[k].toNat : Int) := by omega
                have q2 : ((s[k].toNat : Int) == 127) = false := beq_eq_false_iff_ne.2 (by omega)
                have q3 : 48 ≤ (s[k].toNat : Int) := by omega
                have q4 : (s[k].toNat : Int) ≤ 57 := by omega
                have q6 : ((k : Int) == 0) = false := beq_eq_false_iff_ne.2 (by omega)
                have q7 : ((k : Int) == 1) = true := beq_iff_eq.2 (by omega)
                have q8 : ((s[0].toNat : Int) == 45) = false := beq_eq_false_iff_ne.2 (by omega)
                have q5 : ((s[k].toNat : Int) == 45) = false := beq_eq_false_iff_ne.2 (by omega)
                have HQ : Hid (escQ s k = false) := escQ_no (by rw [HB.out, HB0.out]; omega)
                have HN : Hid (isNm s[k].toNat = true) := by rw [Hid, isNm_iff]; omega
                clear hlt8 c1 c2 c3 k0 k1 s0
                go_wp2_with fail
                refine (HNm.out _).mono ?_
                rintro e1 w1 ⟨rfl, rfl⟩
                rw [HN.out]
                go_wp2_with fail
                go_roundg (s.size - (k + 1))
                case measure => omega
                case rel => exact ⟨k + 1, _, rfl, by go_num, rfl, by omega, by rw [nmL_chr hlt HO.out HQ.out (by rw [HB.out]; exact HN.out)]; exact HLn.out, by rw [Hid, nmL_chr hlt HO.out HQ.out (by rw [HB.out]; exact HN.out)], by trivial⟩
            · have q1 : 32 ≤ (s[k].toNat : Int) := by omega
              have q2 : ((s[k].toNat : Int) == 127) = false := beq_eq_false_iff_ne.2 (by omega)
              have q3 : 48 ≤ (s[k].toNat : Int) := by omega
              have q4 : (s[k].toNat : Int) ≤ 57 := by omega
              have q6 : ((k : Int) == 0) = false := beq_eq_false_iff_ne.2 (by omega)
              have q7 : ((k : Int) == 1) = false := beq_eq_false_iff_ne.2 (by omega)
              have q5 : ((s[k].toNat : Int) == 45) = false := beq_eq_false_iff_ne.2 (by omega)
              have HQ : Hid (escQ s k = false) := escQ_no (by rw [HB.out, HB0.out]; omega)
              have HN : Hid (isNm s[k].toNat = true) := by rw [Hid, isNm_iff]; omega
              clear hlt8 c1 c2 c3 k0 k1
              go_wp2_with fail
              refine (HNm.out _).mono ?_
              rintro e1 w1 ⟨rfl, rfl⟩
              rw [HN.out]
              go_wp2_with fail
              go_roundg (s.size - (k + 1))
              case measure => omega
              case rel => exact ⟨k + 1, _, rfl, by go_num, rfl, by omega, by rw [nmL_chr hlt HO.out HQ.out (by rw [HB.out]; exact HN.out)]; exact HLn.out, by rw [Hid, nmL_chr hlt HO.out HQ.out (by rw [HB.out]; exact HN.out)], by trivial⟩
        by_cases c4 : s[k].toNat < 48
        · by_cases c5 : s[k].toNat = 45
          · by_cases k1 : k = 1
            · by_cases s0 : s[0].toNat = 45
              · have q1 : 32 ≤ (s[k].toNat : Int) := by omega
                have q2 : ((s[k].toNat : Int) == 127) = false := beq_eq_false_iff_ne.2 (by omega)
                have q3 : (s[k].toNat : Int) < 48 := by omega
                have q5 : ((s[k].toNat : Int) == 45) = true := beq_iff_eq.2 (by omega)
                have q7 : ((k : Int) == 1) = true := beq_iff_eq.2 (by omega)
                have q8 : ((s[0].toNat : Int) == 45) = true := beq_iff_eq.2 (by omega)
                have HQ : Hid (escQ s k = true) := (escQ_iff s k).2 (by rw [HB.out, HB0.out]; omega)
                clear hlt8 c1 c2 c3 c4 c5 k1 s0
                go_wp2_with fail
                refine (HEs.out _).mono ?_
                rintro e1 w1 ⟨rfl, rfl⟩
                go_wp2_with fail
                go_roundg (s.size - (k + 1))
                case measure => omega
                case rel => exact ⟨k + 1, _, rfl, by go_num, rfl, by omega, by rw [HXe.out, nmL_esc HO.out HQ.out]; exact HLn.out, by rw [Hid, HXe.out, nmL_esc HO.out HQ.out], by trivial⟩
              · have q1 : 32 ≤ (s[k].toNat : Int) := by omega
                have q2 : ((s[k].toNat : Int) == 127) = false := beq_eq_false_iff_ne.2 (by omega)
                have q3 : (s[k].toNat : Int) < 48 := by omega
                have q5 : ((s[k].toNat : Int) == 45) = true := beq_iff_eq.2 (by omega)
                have q7 : ((k : Int) == 1) = true := beq_iff_eq.2 (by omega)
                have q8 : ((s[0].toNat : Int) == 45) = false := beq_eq_false_iff_ne.2 (by omega)
                have HQ : Hid (escQ s k = false) := escQ_no (by rw [HB.out, HB0.out]; omega)
                have HN : Hid (isNm s[k].toNat = true) := by rw [Hid, isNm_iff]; omega
                clear hlt8 c1 c2 c3 c4 c5 k1 s0
                go_wp2_with fail
                refine (HNm.out _).mono ?_
                rintro e1 w1 ⟨rfl, rfl⟩
                rw [HN.out]
                go_wp2_with fail
                go_roundg (s.size - (k + 1))
                case measure => omega
                case rel => exact ⟨k + 1, _, rfl, by go_num, rfl, by omega, by rw [nmL_chr hlt HO.out HQ.out (by rw [HB.out]; exact HN.out)]; exact HLn.out, by rw [Hid, nmL_chr hlt HO.out HQ.out (by rw [HB.out]; exact HN.out)], by trivial⟩
            · have q1 : 32 ≤ (s[k].toNat : Int) := by omega
              have q2 : ((s[k].toNat : Int) == 127) = false := beq_eq_false_iff_ne.2 (by omega)
              have q3 : (s[k].toNat : Int) < 48 := by omega
              have q5 : ((s[k].toNat : Int) == 45) = true := beq_iff_eq.2 (by omega)
              have q7 : ((k : Int) == 1) = false := beq_eq_false_iff_ne.2 (by omega)
              have HQ : Hid (escQ s k = false) := escQ_no (by rw [HB.out, HB0.out]; omega)
              have HN : Hid (isNm s[k].toNat = true) := by rw [Hid, isNm_iff]; omega
              clear hlt8 c1 c2 c3 c4 c5 k1
              go_wp2_with fail
              refine (HNm.out _).mono ?_
              rintro e1 w1 ⟨rfl, rfl⟩
              rw [HN.out]
              go_wp2_with fail
              go_roundg (s.size - (k + 1))
              case measure => omega
              case rel => exact ⟨k + 1, _, rfl, by go_num, rfl, by omega, by rw [nmL_chr hlt HO.out HQ.out (by rw [HB.out]; exact HN.out)]; exact HLn.out, by rw [Hid, nmL_chr hlt HO.out HQ.out (by rw [HB.out]; exact HN.out)], by trivial⟩
          cases hnm : isNm s[k].toNat
          · have q1 : 32 ≤ (s[k].toNat : Int) := by omega
            have q2 : ((s[k].toNat : Int) == 127) = false := beq_eq_false_iff_ne.2 (by omega)
            have q3 : (s[k].toNat : Int) < 48 := by omega
            have q5 : ((s[k].toNat : Int) == 45) = false := beq_eq_false_iff_ne.2 (by omega)
            have HQ : Hid (escQ s k = false) := escQ_no (by rw [HB.out, HB0.out]; omega)
            have HN : Hid (isNm s[k].toNat = false) := hnm
            clear hnm hlt8 c1 c2 c3 c4 c5
            go_wp2_with fail
            refine (HNm.out _).mono ?_
            rintro e1 w1 ⟨rfl, rfl⟩
            rw [HN.out]
            go_wp2_with fail
            go_roundg (s.size - (k + 1))
            case measure => omega
            case rel => exact ⟨k + 1, _, rfl, by go_num, rfl, by omega, by rw [nmL_bs hlt HO.out HQ.out (by rw [HB.out]; exact HN.out)]; exact HLn.out, by rw [Hid, nmL_bs hlt HO.out HQ.out (by rw [HB.out]; exact HN.out)], by trivial⟩
          · have q1 : 32 ≤ (s[k].toNat : Int) := by omega
            have q2 : ((s[k].toNat : Int) == 127) = false := beq_eq_false_iff_ne.2 (by omega)
            have q3 : (s[k].toNat : Int) < 48 := by omega
            have q5 : ((s[k].toNat : Int) == 45) = false := beq_eq_false_iff_ne.2 (by omega)
            have HQ : Hid (escQ s k = false) := escQ_no (by rw [HB.out, HB0.out]; omega)
            have HN : Hid (isNm s[k].toNat = true) := hnm
            clear hnm hlt8 c1 c2 c3 c4 c5
            go_wp2_with fail
            refine (HNm.out _).mono ?_
            rintro e1 w1 ⟨rfl, rfl⟩
            rw [HN.out]
            go_wp2_with fail
            go_roundg (s.size - (k + 1))
            case measure => omega
            case rel => exact ⟨k + 1, _, rfl, by go_num, rfl, by omega, by rw [nmL_chr hlt HO.out HQ.out (by rw [HB.out]; exact HN.out)]; exact HLn.out, by rw [Hid, nmL_chr hlt HO.out HQ.out (by rw [HB.out]; exact HN.out)], by trivial⟩

        have c5 : ¬ s[k].toNat = 45 := by omega
        cases hnm : isNm s[k].toNat
        · have q1 : 32 ≤ (s[k].toNat : Int) := by omega
          have q2 : ((s[k].toNat : Int) == 127) = false := beq_eq_false_iff_ne.2 (by omega)
          have q3 : 48 ≤ (s[k].toNat : Int) := by omega
          have q4 : 57 < (s[k].toNat : Int) := by omega
          have q5 : ((s[k].toNat : Int) == 45) = false := beq_eq_false_iff_ne.2 (by omega)
          have HQ : Hid (escQ s k = false) := escQ_no (by rw [HB.out, HB0.out]; omega)
          have HN : Hid (isNm s[k].toNat = false) := hnm
          clear hnm hlt8 c1 c2 c3 c4 c5
          go_wp2_with fail
          refine (HNm.out _).mono ?_
          rintro e1 w1 ⟨rfl, rfl⟩
          rw [HN.out]
          go_wp2_with fail
          go_roundg (s.size - (k + 1))
          case measure => omega
          case rel => exact ⟨k + 1, _, rfl, by go_num, rfl, by omega, by rw [nmL_bs hlt HO.out HQ.out (by rw [HB.out]; exact HN.out)]; exact HLn.out, by rw [Hid, nmL_bs hlt HO.out HQ.out (by rw [HB.out]; exact HN.out)], by trivial⟩
        · have q1 : 32 ≤ (s[k].toNat : Int) := by omega
          have q2 : ((s[k].toNat : Int) == 127) = false := beq_eq_false_iff_ne.2 (by omega)
          have q3 : 48 ≤ (s[k].toNat : Int) := by omega
          have q4 : 57 < (s[k].toNat : Int) := by omega
          have q5 : ((s[k].toNat : Int) == 45) = false := beq_eq_false_iff_ne.2 (by omega)
          have HQ : Hid (escQ s k = false) := escQ_no (by rw [HB.out, HB0.out]; omega)
          have HN : Hid (isNm s[k].toNat = true) := hnm
          clear hnm hlt8 c1 c2 c3 c4 c5
          go_wp2_with fail
          refine (HNm.out _).mono ?_
          rintro e1 w1 ⟨rfl, rfl⟩
          rw [HN.out]
          go_wp2_with fail
          go_roundg (s.size - (k + 1))
          case measure => omega
          case rel => exact ⟨k + 1, _, rfl, by go_num, rfl, by omega, by rw [nmL_chr hlt HO.out HQ.out (by rw [HB.out]; exact HN.out)]; exact HLn.out, by rw [Hid, nmL_chr hlt HO.out HQ.out (by rw [HB.out]; exact HN.out)], by trivial⟩
      · obtain rfl : k = s.size := by omega
        go_wp2_with fail
        go_ret
        refine ⟨?_, rfl⟩
        rw [HV.out, ← HO.out]; rfl
end Go.Proofs.YtnibpdmbccfgoaaGreatDoor
