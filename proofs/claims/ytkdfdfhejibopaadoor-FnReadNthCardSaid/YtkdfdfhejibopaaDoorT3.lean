/- The reference's looks at a text: they return, whatever the text. -/
import Derived.Test.YtkdfdfhejibopaaDoorT2
namespace Go.Proofs.YtkdfdfhejibopaaDoor
open Go.RowKit
set_option linter.unusedVariables false

/-- The call returns some truth value, and nothing has turned. -/
def AnyB (w : World) (e : Ending) (w' : World) : Prop := ∃ b, e = .returned (.bool b) ∧ w = w'

theorem wrap_byte (b : UInt8) : wrap64 (b.toNat : Int) = (b.toNat : Int) := by
  have := b.toNat_lt
  exact IntWalk.wrap64_in _ ⟨by omega, by omega⟩

/-- A code point and how many bytes it has: none, or as many as are there. -/
def AnyP (s : ByteArray) (k : Nat) (w : World) (e : Ending) (w' : World) : Prop :=
  ∃ (p : Int) (n : Nat), e = .returned (.tuple #[.int .i64 p, .int .i64 n]) ∧ k + n ≤ s.size ∧ w = w'


set_option maxRecDepth 100000 in
set_option maxHeartbeats 1000000 in
theorem point_2 (s : ByteArray) (k : Nat) (w : World) (hs : s.size ≤ 2147483647) (hk : k < s.size) (h1 : 192 ≤ (s[k].toNat : Int)) (h2 : (s[k].toNat : Int) < 224) : Calls Tryd.prog 17 #[.string s, .int .i64 k] w (AnyP s k w) := by
  have hw : wrap64 (s[k].toNat : Int) = (s[k].toNat : Int) := wrap_byte _
  by_cases h3 : s.size - k ≤ 1
  · go_enter Tryd.func17, Tryd.ntmps17
    go_wp2_with fail
    go_ret2
    exact ⟨0, 0, rfl, by omega, rfl⟩
  · go_enter Tryd.func17, Tryd.ntmps17
    go_wp2_with fail
    go_loopw [4, 9] (fun x y wr => ∃ (p : Int) (m : Nat), x = .int .i64 p ∧ 1 ≤ m ∧ m ≤ 2 ∧ y = .int .i64 m ∧ w = wr) (fun _ y _ => 2 - (intOf y).toNat)
    case atStart => exact ⟨_, 1, rfl, by omega, by omega, rfl, rfl⟩
    case round =>
      obtain ⟨p, m, rfl, hm1, hm2, rfl, rfl⟩ := hrel
      clear hw h1 h2
      by_cases hm : m ≤ 1
      · have hlt : k + m < s.size := by omega
        have hw : wrap64 (s[k + m].toNat : Int) = (s[k + m].toNat : Int) := wrap_byte _
        by_cases c1 : (s[k + m].toNat : Int) < 128
        · go_wp2_with fail
          go_ret2
          exact ⟨0, 0, rfl, by omega, rfl⟩
        · by_cases c2 : 192 ≤ (s[k + m].toNat : Int)
          · go_wp2_with fail
            go_ret2
            exact ⟨0, 0, rfl, by omega, rfl⟩
          · go_wp2_with fail
            go_roundw
            case rel => exact ⟨_, m + 1, rfl, by omega, by omega, by go_num, by trivial⟩
            case measure => simp [intOf]; omega
      · go_wp2_with fail
        all_goals go_ret2
        all_goals first
          | exact ⟨0, 0, rfl, by omega, rfl⟩
          | exact ⟨p, 2, rfl, by omega, rfl⟩

set_option maxRecDepth 100000 in
set_option maxHeartbeats 1000000 in
theorem point_3 (s : ByteArray) (k : Nat) (w : World) (hs : s.size ≤ 2147483647) (hk : k < s.size) (h1 : 224 ≤ (s[k].toNat : Int)) (h2 : (s[k].toNat : Int) < 240) : Calls Tryd.prog 17 #[.string s, .int .i64 k] w (AnyP s k w) := by
  have hw : wrap64 (s[k].toNat : Int) = (s[k].toNat : Int) := wrap_byte _
  by_cases h3 : s.size - k ≤ 2
  · go_enter Tryd.func17, Tryd.ntmps17
    go_wp2_with fail
    go_ret2
    exact ⟨0, 0, rfl, by omega, rfl⟩
  · go_enter Tryd.func17, Tryd.ntmps17
    go_wp2_with fail
    go_loopw [4, 9] (fun x y wr => ∃ (p : Int) (m : Nat), x = .int .i64 p ∧ 1 ≤ m ∧ m ≤ 3 ∧ y = .int .i64 m ∧ w = wr) (fun _ y _ => 3 - (intOf y).toNat)
    case atStart => exact ⟨_, 1, rfl, by omega, by omega, rfl, rfl⟩
    case round =>
      obtain ⟨p, m, rfl, hm1, hm2, rfl, rfl⟩ := hrel
      clear hw h1 h2
      by_cases hm : m ≤ 2
      · have hlt : k + m < s.size := by omega
        have hw : wrap64 (s[k + m].toNat : Int) = (s[k + m].toNat : Int) := wrap_byte _
        by_cases c1 : (s[k + m].toNat : Int) < 128
        · go_wp2_with fail
          go_ret2
          exact ⟨0, 0, rfl, by omega, rfl⟩
        · by_cases c2 : 192 ≤ (s[k + m].toNat : Int)
          · go_wp2_with fail
            go_ret2
            exact ⟨0, 0, rfl, by omega, rfl⟩
          · go_wp2_with fail
            go_roundw
            case rel => exact ⟨_, m + 1, rfl, by omega, by omega, by go_num, by trivial⟩
            case measure => simp [intOf]; omega
      · go_wp2_with fail
        all_goals go_ret2
        all_goals first
          | exact ⟨0, 0, rfl, by omega, rfl⟩
          | exact ⟨p, 3, rfl, by omega, rfl⟩

set_option maxRecDepth 100000 in
set_option maxHeartbeats 1000000 in
theorem point_4 (s : ByteArray) (k : Nat) (w : World) (hs : s.size ≤ 2147483647) (hk : k < s.size) (h1 : 240 ≤ (s[k].toNat : Int)) (h2 : (s[k].toNat : Int) < 248) : Calls Tryd.prog 17 #[.string s, .int .i64 k] w (AnyP s k w) := by
  have hw : wrap64 (s[k].toNat : Int) = (s[k].toNat : Int) := wrap_byte _
  by_cases h3 : s.size - k ≤ 3
  · go_enter Tryd.func17, Tryd.ntmps17
    go_wp2_with fail
    go_ret2
    exact ⟨0, 0, rfl, by omega, rfl⟩
  · go_enter Tryd.func17, Tryd.ntmps17
    go_wp2_with fail
    go_loopw [4, 9] (fun x y wr => ∃ (p : Int) (m : Nat), x = .int .i64 p ∧ 1 ≤ m ∧ m ≤ 4 ∧ y = .int .i64 m ∧ w = wr) (fun _ y _ => 4 - (intOf y).toNat)
    case atStart => exact ⟨_, 1, rfl, by omega, by omega, rfl, rfl⟩
    case round =>
      obtain ⟨p, m, rfl, hm1, hm2, rfl, rfl⟩ := hrel
      clear hw h1 h2
      by_cases hm : m ≤ 3
      · have hlt : k + m < s.size := by omega
        have hw : wrap64 (s[k + m].toNat : Int) = (s[k + m].toNat : Int) := wrap_byte _
        by_cases c1 : (s[k + m].toNat : Int) < 128
        · go_wp2_with fail
          go_ret2
          exact ⟨0, 0, rfl, by omega, rfl⟩
        · by_cases c2 : 192 ≤ (s[k + m].toNat : Int)
          · go_wp2_with fail
            go_ret2
            exact ⟨0, 0, rfl, by omega, rfl⟩
          · go_wp2_with fail
            go_roundw
            case rel => exact ⟨_, m + 1, rfl, by omega, by omega, by go_num, by trivial⟩
            case measure => simp [intOf]; omega
      · go_wp2_with fail
        all_goals go_ret2
        all_goals first
          | exact ⟨0, 0, rfl, by omega, rfl⟩
          | exact ⟨p, 4, rfl, by omega, rfl⟩

set_option maxRecDepth 100000 in
set_option maxHeartbeats 1000000 in
theorem point_lo (s : ByteArray) (k : Nat) (w : World) (hs : s.size ≤ 2147483647) (hk : k < s.size) (h : (s[k].toNat : Int) < 128) : Calls Tryd.prog 17 #[.string s, .int .i64 k] w (AnyP s k w) := by
  have hw : wrap64 (s[k].toNat : Int) = (s[k].toNat : Int) := wrap_byte _
  go_enter Tryd.func17, Tryd.ntmps17
  go_wp2_with fail
  go_ret2
  exact ⟨_, 1, rfl, by omega, rfl⟩

set_option maxRecDepth 100000 in
set_option maxHeartbeats 1000000 in
theorem point_no (s : ByteArray) (k : Nat) (w : World) (hs : s.size ≤ 2147483647) (hk : k < s.size) (h : 128 ≤ (s[k].toNat : Int)) (h2 : (s[k].toNat : Int) < 192 ∨ 248 ≤ (s[k].toNat : Int)) : Calls Tryd.prog 17 #[.string s, .int .i64 k] w (AnyP s k w) := by
  have hw : wrap64 (s[k].toNat : Int) = (s[k].toNat : Int) := wrap_byte _
  rcases h2 with h2 | h2
  · go_enter Tryd.func17, Tryd.ntmps17
    go_wp2_with fail
    go_ret2
    exact ⟨0, 0, rfl, by omega, rfl⟩
  · go_enter Tryd.func17, Tryd.ntmps17
    go_wp2_with fail
    go_ret2
    exact ⟨0, 0, rfl, by omega, rfl⟩

theorem point_any (s : ByteArray) (k : Nat) (w : World) (hs : s.size ≤ 2147483647) (hk : k < s.size) : Calls Tryd.prog 17 #[.string s, .int .i64 k] w (AnyP s k w) := by
  by_cases h1 : (s[k].toNat : Int) < 128
  · exact point_lo s k w hs hk h1
  · by_cases h2 : (s[k].toNat : Int) < 192
    · exact point_no s k w hs hk (by omega) (.inl h2)
    · by_cases h3 : (s[k].toNat : Int) < 224
      · exact point_2 s k w hs hk (by omega) h3
      · by_cases h4 : (s[k].toNat : Int) < 240
        · exact point_3 s k w hs hk (by omega) h4
        · by_cases h5 : (s[k].toNat : Int) < 248
          · exact point_4 s k w hs hk (by omega) h5
          · exact point_no s k w hs hk (by omega) (.inr (by omega))

set_option maxHeartbeats 1000000 in
theorem plain_any (s : ByteArray) (w : World) (hs : s.size ≤ 2147483647) : Calls Tryd.prog 8 #[.string s] w (AnyB w) := by
  go_enter Tryd.func8, Tryd.ntmps8
  go_wp2_with fail
  go_loopw [3] (fun x wr => ∃ k : Nat, k ≤ s.size ∧ x = .int .i64 k ∧ w = wr) (fun x _ => s.size - (intOf x).toNat)
  case atStart => exact ⟨0, by omega, rfl, rfl⟩
  case round =>
    obtain ⟨k, hk, rfl, rfl⟩ := hrel
    by_cases hlt : k < s.size
    · go_wp2_with fail
      refine (point_any s k _ hs hlt).mono ?_
      rintro e w1 ⟨p, n, rfl, hn, rfl⟩
      by_cases h0 : n = 0
      · have hz : ((n : Int) == 0) = true := beq_iff_eq.2 (by omega)
        have HZ := Lib.hid h0
        clear h0
        go_wp2_with fail
        go_ret
        exact ⟨_, rfl, rfl⟩
      · have hz : ((n : Int) == 0) = false := beq_eq_false_iff_ne.2 (by omega)
        cases hp : (p == 0)
        · go_wp2_with fail
          go_roundw
          case rel => exact ⟨k + n, by omega, by go_num, by trivial⟩
          case measure => simp [intOf]; omega
        · go_wp2_with fail
          go_ret
          exact ⟨_, rfl, rfl⟩
    · go_wp2_with fail
      go_ret
      exact ⟨_, rfl, rfl⟩
end Go.Proofs.YtkdfdfhejibopaaDoor
