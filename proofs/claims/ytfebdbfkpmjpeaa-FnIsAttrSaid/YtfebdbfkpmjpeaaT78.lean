/- White space alone, by the reference's helper. -/
import Derived.Test.YtfebdbfkpmjpeaaT61
import Derived.Test.YtfebdbfkpmjpeaaT77
namespace Go.Proofs.Ytfebdbfkpmjpeaa
open Go.RowKit
set_option linter.unusedVariables false

theorem get_byte {s : ByteArray} {i : Nat} (h : i < s.size) : (s.get! i).toNat = s[i].toNat := by
  have := get_at s i h
  rw [Nat.add_zero] at this
  rw [this]
theorem get_out {s : ByteArray} {i : Nat} (h : s.size ≤ i) : (s.get! i).toNat = 0 := by
  have : s.get! i = default := by
    show s.data.toList.toArray.getD i default = default
    simp [Array.getD]
    intro h2
    have : s.data.size = s.size := rfl
    omega
  rw [this]; rfl

def PtPost (s : ByteArray) (k : Nat) (w : World) (e : Ending) (w' : World) : Prop :=
  ∃ (p : Int) (n : Nat), e = .returned (.tuple #[.int .i64 p, .int .i64 n]) ∧ k + n ≤ s.size ∧ (Sp s k → p = (Utf8.decode s k).1 ∧ n = (Utf8.decode s k).2) ∧ w = w'

theorem pt_any (s : ByteArray) (k : Nat) (w : World) (hs : s.size ≤ 2147483647) (hk : k < s.size) : Calls Try.prog 206 #[.string s, .int .i64 k] w (PtPost s k w) := by
  by_cases h : Sp s k
  · have hsp := (h.at_ hk).1
    rw [Lib.decode_at] at hsp
    have b0 := get_byte hk
    rcases sp_bytes (s.size - k) (s.get! k).toNat (s.get! (k + 1)).toNat (s.get! (k + 2)).toNat (s.get! (k + 3)).toNat (s.get! (k + 1)).toNat_lt (s.get! (k + 2)).toNat_lt (s.get! (k + 3)).toNat_lt (s.get! k).toNat_lt hsp with ⟨q1, q2⟩ | ⟨q1, q2, q3, q4, q5⟩ | ⟨q1, q2, q3, q4, q5, q6, q7, q8⟩
    · refine (pt_one s k w hs hk (by omega)).mono ?_
      rintro e w' ⟨rfl, rfl⟩
      refine ⟨_, _, rfl, by omega, fun _ => ?_, rfl⟩
      rw [Lib.decode_at, q2]
      exact ⟨by rw [b0], rfl⟩
    · have hk1 : k + 1 < s.size := by omega
      have b1 := get_byte hk1
      refine (pt_two s k w hs hk hk1 (by omega) (by omega) (by omega)).mono ?_
      rintro e w' ⟨rfl, rfl⟩
      refine ⟨_, _, rfl, by omega, fun _ => ?_, rfl⟩
      rw [Lib.decode_at, q5]
      exact ⟨by rw [b1], rfl⟩
    · have hk1 : k + 1 < s.size := by omega
      have hk2 : k + 2 < s.size := by omega
      have b1 := get_byte hk1
      have b2 := get_byte hk2
      refine (pt_three s k w hs hk hk1 hk2 (by omega) (by omega) (by omega) (by omega) (by omega) (by omega)).mono ?_
      rintro e w' ⟨rfl, rfl⟩
      refine ⟨_, _, rfl, by omega, fun _ => ?_, rfl⟩
      rw [Lib.decode_at, q8]
      exact ⟨by rw [b0, b1, b2], rfl⟩
  · refine (point_any s k w hs hk).mono ?_
    rintro e w' ⟨p, n, rfl, h2, rfl⟩
    exact ⟨p, n, rfl, h2, fun q => absurd q h, rfl⟩

def BlankPost (s : ByteArray) (w : World) (e : Ending) (w' : World) : Prop := ∃ b, e = .returned (.bool b) ∧ (Sp s 0 → b = true) ∧ w = w'

set_option maxRecDepth 100000 in
set_option maxHeartbeats 4000000 in
theorem blankAll_any (s : ByteArray) (w : World) (hs : s.size ≤ 2147483647) : Calls Try.prog 231 #[.string s] w (BlankPost s w) := by
  go_enter Try.func231, Try.ntmps231
  go_wp2_with fail
  go_loopw [3] (fun x wr => ∃ k : Nat, k ≤ s.size ∧ x = .int .i64 k ∧ Hid (Sp s 0 → Sp s k) ∧ w = wr) (fun x _ => s.size - (intOf x).toNat)
  case atStart => exact ⟨0, Nat.zero_le _, rfl, id, rfl⟩
  case round =>
    obtain ⟨k, hk, rfl, hsp, rfl⟩ := hrel
    by_cases hlt : k < s.size
    · go_wp2_with fail
      refine (pt_any s k w hs hlt).mono ?_
      rintro e w1 ⟨p, n, rfl, hn, hpt, rfl⟩
      have HN : Hid (Sp s 0 → n ≠ 0 ∧ (9 ≤ p ∧ p ≤ 13 ∨ p = 32 ∨ p = 133 ∨ p = 160 ∨ p = 5760 ∨ (8192 ≤ p ∧ p ≤ 8202) ∨ p = 8232 ∨ p = 8233 ∨ p = 8239 ∨ p = 8287 ∨ p = 12288) ∧ Sp s (k + n)) := by
        intro h
        have h1 := hsp.out h
        obtain ⟨e1, e2⟩ := hpt h1
        have h2 := h1.at_ hlt
        have h3 := (isSp_iff _).1 h2.1
        have h4 := Lib.decode_width_pos s k hlt
        refine ⟨by omega, by omega, by rw [e2]; exact h2.2⟩
      clear hpt
      by_cases h0 : n = 0
      · subst h0
        have z0 : (((0 : Nat) : Int) == 0) = true := rfl
        go_wp2_with fail
        go_ret
        exact ⟨false, rfl, fun h => absurd rfl (HN.out h).1, rfl⟩
      · have z0 : ((n : Int) == 0) = false := beq_eq_false_iff_ne.2 (by omega)
        by_cases hc : 9 ≤ p ∧ p ≤ 13 ∨ p = 32 ∨ p = 133 ∨ p = 160 ∨ p = 5760 ∨ (8192 ≤ p ∧ p ≤ 8202) ∨ p = 8232 ∨ p = 8233 ∨ p = 8239 ∨ p = 8287 ∨ p = 12288
        · have HS : Hid (Sp s 0 → Sp s (k + n)) := fun h => (HN.out h).2.2
          clear HN
          rcases hc with ⟨h1, h2⟩ | rfl | rfl | rfl | rfl | ⟨h1, h2⟩ | rfl | rfl | rfl | rfl | rfl
          case inr.inr.inr.inr.inr.inl =>
            have y1 : decide (p ≤ 13) = false := by simp; omega
            have y3 : (p == 32) = false := beq_eq_false_iff_ne.2 (by omega)
            have y4 : (p == 133) = false := beq_eq_false_iff_ne.2 (by omega)
            have y5 : (p == 160) = false := beq_eq_false_iff_ne.2 (by omega)
            have y6 : (p == 5760) = false := beq_eq_false_iff_ne.2 (by omega)
            go_wp2_with fail
            go_roundw
            case rel => exact ⟨k + n, hn, by go_num, HS.out, by trivial⟩
            case measure => simp [intOf]; omega
          all_goals
            go_wp2_with fail
            go_roundw
            case rel => exact ⟨k + n, hn, by go_num, HS.out, by trivial⟩
            case measure => simp [intOf]; omega
        · have HF : Hid (Sp s 0 → false = true) := fun h => absurd (HN.out h).2.1 hc
          have y3 : (p == 32) = false := beq_eq_false_iff_ne.2 (by omega)
          have y4 : (p == 133) = false := beq_eq_false_iff_ne.2 (by omega)
          have y5 : (p == 160) = false := beq_eq_false_iff_ne.2 (by omega)
          have y6 : (p == 5760) = false := beq_eq_false_iff_ne.2 (by omega)
          have y7 : (p == 8232) = false := beq_eq_false_iff_ne.2 (by omega)
          have y8 : (p == 8233) = false := beq_eq_false_iff_ne.2 (by omega)
          have y9 : (p == 8239) = false := beq_eq_false_iff_ne.2 (by omega)
          have ya : (p == 8287) = false := beq_eq_false_iff_ne.2 (by omega)
          have yb : (p == 12288) = false := beq_eq_false_iff_ne.2 (by omega)
          have hq : p < 9 ∨ (13 < p ∧ p < 8192) ∨ 8202 < p := by omega
          clear hc HN
          rcases hq with hq | ⟨hq, hq2⟩ | hq
          · go_wp2_with fail
            go_ret
            exact ⟨false, rfl, HF.out, rfl⟩
          · have ya1 : decide (9 ≤ p) = true := by simp; omega
            have ya2 : decide (p ≤ 13) = false := by simp; omega
            have ya3 : decide (8192 ≤ p) = false := by simp; omega
            go_wp2_with fail
            go_ret
            exact ⟨false, rfl, HF.out, rfl⟩
          · have ya1 : decide (9 ≤ p) = true := by simp; omega
            have ya2 : decide (p ≤ 13) = false := by simp; omega
            have ya3 : decide (8192 ≤ p) = true := by simp; omega
            have ya4 : decide (p ≤ 8202) = false := by simp; omega
            go_wp2_with fail
            go_ret
            exact ⟨false, rfl, HF.out, rfl⟩
    · go_wp2_with fail
      go_ret
      exact ⟨true, rfl, fun _ => rfl, rfl⟩
end Go.Proofs.Ytfebdbfkpmjpeaa
