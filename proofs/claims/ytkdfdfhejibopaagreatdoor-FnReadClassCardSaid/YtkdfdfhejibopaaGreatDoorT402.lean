/- The reader: code points (spec.point), readable. -/
import Derived.Test.YtkdfdfhejibopaaGreatDoorT400
namespace Go.Proofs.YtkdfdfhejibopaaGreatDoor
open Go.RowKit
set_option linter.unusedVariables false

set_option maxRecDepth 100000 in
set_option maxHeartbeats 1000000 in
theorem pt2_lo (s : ByteArray) (k : Nat) (w : World) (hs : s.size ≤ 2147483647) (hk : k < s.size) (h1 : (s[k].toNat : Int) < 128) : Calls Tryz.prog 10 #[.string s, .int .i64 k] w fun e w' => e = .returned (.tuple #[.int .i64 (s[k].toNat : Int), .int .i64 1]) ∧ w = w' := by
  have hw : wrap64 (s[k].toNat : Int) = (s[k].toNat : Int) := wrap_byte _
  go_enter Tryz.func10, Tryz.ntmps10
  go_wp2_with fail
  go_ret2
  exact ⟨rfl, rfl⟩

set_option maxRecDepth 100000 in
set_option maxHeartbeats 1000000 in
theorem pt2_no (s : ByteArray) (k : Nat) (w : World) (hs : s.size ≤ 2147483647) (hk : k < s.size) (h1 : 128 ≤ (s[k].toNat : Int)) (h2 : (s[k].toNat : Int) < 194 ∨ 245 ≤ (s[k].toNat : Int)) : Calls Tryz.prog 10 #[.string s, .int .i64 k] w (AnyP s k w) := by
  have hw : wrap64 (s[k].toNat : Int) = (s[k].toNat : Int) := wrap_byte _
  rcases h2 with h2 | h2
  · go_enter Tryz.func10, Tryz.ntmps10
    go_wp2_with fail
    go_ret2
    exact ⟨0, 0, rfl, by omega, rfl⟩
  · go_enter Tryz.func10, Tryz.ntmps10
    go_wp2_with fail
    go_ret2
    exact ⟨0, 0, rfl, by omega, rfl⟩

set_option maxRecDepth 100000 in
set_option maxHeartbeats 1000000 in
theorem pt2_2 (s : ByteArray) (k : Nat) (w : World) (hs : s.size ≤ 2147483647) (hk : k < s.size) (h1 : 194 ≤ (s[k].toNat : Int)) (h2 : (s[k].toNat : Int) < 224) : Calls Tryz.prog 10 #[.string s, .int .i64 k] w (AnyP s k w) := by
  have hw : wrap64 (s[k].toNat : Int) = (s[k].toNat : Int) := wrap_byte _
  by_cases h3 : s.size < k + 2
  · go_enter Tryz.func10, Tryz.ntmps10
    go_wp2_with fail
    go_ret2
    exact ⟨0, 0, rfl, by omega, rfl⟩
  · go_enter Tryz.func10, Tryz.ntmps10
    go_wp2_with fail
    go_loopw [4, 5, 8] (fun x z y wr => ∃ (p : Int) (m : Nat), x = .int .i64 p ∧ z = .int .i64 2 ∧ 1 ≤ m ∧ m ≤ 2 ∧ y = .int .i64 ((k + m : Nat) : Int) ∧ w = wr) (fun _ _ y _ => k + 2 - (intOf y).toNat)
    case atStart => exact ⟨_, 1, rfl, rfl, by omega, by omega, by go_num, rfl⟩
    case round =>
      obtain ⟨p, m, rfl, rfl, hm1, hm2, rfl, rfl⟩ := hrel
      clear hw h1 h2
      by_cases hm : m < 2
      · have hlt : k + m < s.size := by omega
        have hw : wrap64 (s[k + m].toNat : Int) = (s[k + m].toNat : Int) := wrap_byte _
        by_cases c1 : (s[k + m].toNat : Int) < 128
        · go_wp2_with fail
          go_ret2
          exact ⟨0, 0, rfl, by omega, rfl⟩
        · by_cases c2 : 191 < (s[k + m].toNat : Int)
          · go_wp2_with fail
            go_ret2
            exact ⟨0, 0, rfl, by omega, rfl⟩
          · go_wp2_with fail
            go_roundw
            case rel => exact ⟨_, m + 1, rfl, rfl, by omega, by omega, by go_num, by trivial⟩
            case measure => simp [intOf]; omega
      · go_wp2_with fail
        all_goals go_ret2
        all_goals first
          | exact ⟨0, 0, rfl, by omega, rfl⟩
          | exact ⟨p, 2, rfl, by omega, rfl⟩

set_option maxRecDepth 100000 in
set_option maxHeartbeats 1000000 in
theorem pt2_3 (s : ByteArray) (k : Nat) (w : World) (hs : s.size ≤ 2147483647) (hk : k < s.size) (h1 : 224 ≤ (s[k].toNat : Int)) (h2 : (s[k].toNat : Int) < 240) : Calls Tryz.prog 10 #[.string s, .int .i64 k] w (AnyP s k w) := by
  have hw : wrap64 (s[k].toNat : Int) = (s[k].toNat : Int) := wrap_byte _
  by_cases h3 : s.size < k + 3
  · go_enter Tryz.func10, Tryz.ntmps10
    go_wp2_with fail
    go_ret2
    exact ⟨0, 0, rfl, by omega, rfl⟩
  · go_enter Tryz.func10, Tryz.ntmps10
    go_wp2_with fail
    go_loopw [4, 5, 8] (fun x z y wr => ∃ (p : Int) (m : Nat), x = .int .i64 p ∧ z = .int .i64 3 ∧ 1 ≤ m ∧ m ≤ 3 ∧ y = .int .i64 ((k + m : Nat) : Int) ∧ w = wr) (fun _ _ y _ => k + 3 - (intOf y).toNat)
    case atStart => exact ⟨_, 1, rfl, rfl, by omega, by omega, by go_num, rfl⟩
    case round =>
      obtain ⟨p, m, rfl, rfl, hm1, hm2, rfl, rfl⟩ := hrel
      clear hw h1 h2
      by_cases hm : m < 3
      · have hlt : k + m < s.size := by omega
        have hw : wrap64 (s[k + m].toNat : Int) = (s[k + m].toNat : Int) := wrap_byte _
        by_cases c1 : (s[k + m].toNat : Int) < 128
        · go_wp2_with fail
          go_ret2
          exact ⟨0, 0, rfl, by omega, rfl⟩
        · by_cases c2 : 191 < (s[k + m].toNat : Int)
          · go_wp2_with fail
            go_ret2
            exact ⟨0, 0, rfl, by omega, rfl⟩
          · go_wp2_with fail
            go_roundw
            case rel => exact ⟨_, m + 1, rfl, rfl, by omega, by omega, by go_num, by trivial⟩
            case measure => simp [intOf]; omega
      · go_wp2_with fail
        all_goals go_ret2
        all_goals first
          | exact ⟨0, 0, rfl, by omega, rfl⟩
          | exact ⟨p, 3, rfl, by omega, rfl⟩

set_option maxRecDepth 100000 in
set_option maxHeartbeats 1000000 in
theorem pt2_4 (s : ByteArray) (k : Nat) (w : World) (hs : s.size ≤ 2147483647) (hk : k < s.size) (h1 : 240 ≤ (s[k].toNat : Int)) (h2 : (s[k].toNat : Int) < 245) : Calls Tryz.prog 10 #[.string s, .int .i64 k] w (AnyP s k w) := by
  have hw : wrap64 (s[k].toNat : Int) = (s[k].toNat : Int) := wrap_byte _
  by_cases h3 : s.size < k + 4
  · go_enter Tryz.func10, Tryz.ntmps10
    go_wp2_with fail
    go_ret2
    exact ⟨0, 0, rfl, by omega, rfl⟩
  · go_enter Tryz.func10, Tryz.ntmps10
    go_wp2_with fail
    go_loopw [4, 5, 8] (fun x z y wr => ∃ (p : Int) (m : Nat), x = .int .i64 p ∧ z = .int .i64 4 ∧ 1 ≤ m ∧ m ≤ 4 ∧ y = .int .i64 ((k + m : Nat) : Int) ∧ w = wr) (fun _ _ y _ => k + 4 - (intOf y).toNat)
    case atStart => exact ⟨_, 1, rfl, rfl, by omega, by omega, by go_num, rfl⟩
    case round =>
      obtain ⟨p, m, rfl, rfl, hm1, hm2, rfl, rfl⟩ := hrel
      clear hw h1 h2
      by_cases hm : m < 4
      · have hlt : k + m < s.size := by omega
        have hw : wrap64 (s[k + m].toNat : Int) = (s[k + m].toNat : Int) := wrap_byte _
        by_cases c1 : (s[k + m].toNat : Int) < 128
        · go_wp2_with fail
          go_ret2
          exact ⟨0, 0, rfl, by omega, rfl⟩
        · by_cases c2 : 191 < (s[k + m].toNat : Int)
          · go_wp2_with fail
            go_ret2
            exact ⟨0, 0, rfl, by omega, rfl⟩
          · go_wp2_with fail
            go_roundw
            case rel => exact ⟨_, m + 1, rfl, rfl, by omega, by omega, by go_num, by trivial⟩
            case measure => simp [intOf]; omega
      · go_wp2_with fail
        all_goals go_ret2
        all_goals first
          | exact ⟨0, 0, rfl, by omega, rfl⟩
          | exact ⟨p, 4, rfl, by omega, rfl⟩

theorem pt2_any (s : ByteArray) (k : Nat) (w : World) (hs : s.size ≤ 2147483647) (hk : k < s.size) : Calls Tryz.prog 10 #[.string s, .int .i64 k] w (AnyP s k w) := by
  by_cases h1 : (s[k].toNat : Int) < 128
  · exact (pt2_lo s k w hs hk h1).mono fun e w' ⟨h, h2⟩ => ⟨_, 1, h, by omega, h2⟩
  · by_cases h2 : (s[k].toNat : Int) < 194
    · exact pt2_no s k w hs hk (by omega) (.inl h2)
    · by_cases h3 : (s[k].toNat : Int) < 224
      · exact pt2_2 s k w hs hk (by omega) h3
      · by_cases h4 : (s[k].toNat : Int) < 240
        · exact pt2_3 s k w hs hk (by omega) h4
        · by_cases h5 : (s[k].toNat : Int) < 245
          · exact pt2_4 s k w hs hk (by omega) h5
          · exact pt2_no s k w hs hk (by omega) (.inr (by omega))

set_option maxHeartbeats 1000000 in
theorem readable_any (s : ByteArray) (w : World) (hs : s.size ≤ 2147483647) : Calls Tryz.prog 6 #[.string s] w (AnyB w) := by
  go_enter Tryz.func6, Tryz.ntmps6
  go_wp2_with fail
  go_loopw [3] (fun x wr => ∃ k : Nat, k ≤ s.size ∧ x = .int .i64 k ∧ w = wr) (fun x _ => s.size - (intOf x).toNat)
  case atStart => exact ⟨0, by omega, rfl, rfl⟩
  case round =>
    obtain ⟨k, hk, rfl, rfl⟩ := hrel
    by_cases hlt : k < s.size
    · go_wp2_with fail
      refine (pt2_any s k _ hs hlt).mono ?_
      rintro e w1 ⟨p, n, rfl, hn, rfl⟩
      by_cases h0 : n = 0
      · have hz : ((n : Int) == 0) = true := beq_iff_eq.2 (by omega)
        have HZ := Lib.hid h0
        clear h0
        go_wp2_with fail
        go_ret
        exact ⟨_, rfl, rfl⟩
      · have hz : ((n : Int) == 0) = false := beq_eq_false_iff_ne.2 (by omega)
        cases hp : (p == 0)
        · cases hq : (p == 65279)
          · go_wp2_with fail
            go_roundw
            case rel => exact ⟨k + n, by omega, by go_num, by trivial⟩
            case measure => simp [intOf]; omega
          · go_wp2_with fail
            go_ret
            exact ⟨_, rfl, rfl⟩
        · go_wp2_with fail
          go_ret
          exact ⟨_, rfl, rfl⟩
    · go_wp2_with fail
      go_ret
      exact ⟨_, rfl, rfl⟩
end Go.Proofs.YtkdfdfhejibopaaGreatDoor
