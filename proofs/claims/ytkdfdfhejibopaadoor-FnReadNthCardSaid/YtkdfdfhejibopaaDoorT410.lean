/- Points that are read one behind the other: a plain text has no zero byte. -/
import Derived.Test.YtkdfdfhejibopaaDoorT400
namespace Go.Proofs.YtkdfdfhejibopaaDoor
open Go.RowKit
set_option linter.unusedVariables false

/-- A code point and how many bytes it has: none; a byte of ASCII; or bytes beyond ASCII. -/
def AnyH (s : ByteArray) (k : Nat) (w : World) (e : Ending) (w' : World) : Prop :=
  ∃ (p : Int) (n : Nat), e = .returned (.tuple #[.int .i64 p, .int .i64 n]) ∧ (n = 0 ∨ (n = 1 ∧ p = (bAt s k : Int) ∧ bAt s k < 128) ∨ (2 ≤ n ∧ k + n ≤ s.size ∧ ∀ j, k ≤ j → j < k + n → 128 ≤ bAt s j)) ∧ w = w'

set_option maxRecDepth 100000 in
set_option maxHeartbeats 1000000 in
theorem pointH_2 (s : ByteArray) (k : Nat) (w : World) (hs : s.size ≤ 2147483647) (hk : k < s.size) (h1 : 192 ≤ (s[k].toNat : Int)) (h2 : (s[k].toNat : Int) < 224) : Calls Tryd.prog 17 #[.string s, .int .i64 k] w (AnyH s k w) := by
  have hw : wrap64 (s[k].toNat : Int) = (s[k].toNat : Int) := wrap_byte _
  have HK : Hid (∀ j, k ≤ j → j < k + 1 → 128 ≤ bAt s j) := fun j q1 q2 => by
    obtain rfl : j = k := by omega
    rw [bAt_in hk]; omega
  by_cases h3 : s.size - k ≤ 1
  · go_enter Tryd.func17, Tryd.ntmps17
    go_wp2_with fail
    go_ret2
    exact ⟨0, 0, rfl, .inl rfl, rfl⟩
  · go_enter Tryd.func17, Tryd.ntmps17
    go_wp2_with fail
    go_loopw [4, 9] (fun x y wr => ∃ (p : Int) (m : Nat), x = .int .i64 p ∧ 1 ≤ m ∧ m ≤ 2 ∧ y = .int .i64 m ∧ Hid (∀ j, k ≤ j → j < k + m → 128 ≤ bAt s j) ∧ w = wr) (fun _ y _ => 2 - (intOf y).toNat)
    case atStart => exact ⟨_, 1, rfl, by omega, by omega, rfl, HK.out, rfl⟩
    case round =>
      obtain ⟨p, m, rfl, hm1, hm2, rfl, HB, rfl⟩ := hrel
      clear hw h1 h2
      by_cases hm : m ≤ 1
      · have hlt : k + m < s.size := by omega
        have hw : wrap64 (s[k + m].toNat : Int) = (s[k + m].toNat : Int) := wrap_byte _
        by_cases c1 : (s[k + m].toNat : Int) < 128
        · go_wp2_with fail
          go_ret2
          exact ⟨0, 0, rfl, .inl rfl, rfl⟩
        · by_cases c2 : 192 ≤ (s[k + m].toNat : Int)
          · go_wp2_with fail
            go_ret2
            exact ⟨0, 0, rfl, .inl rfl, rfl⟩
          · have HB2 : Hid (∀ j, k ≤ j → j < k + (m + 1) → 128 ≤ bAt s j) := fun j q1 q2 => by
              by_cases q : j < k + m
              · exact HB.out j q1 q
              · have : j = k + m := by omega
                subst this; rw [bAt_in hlt]; omega
            go_wp2_with fail
            go_roundw
            case rel => exact ⟨_, m + 1, rfl, by omega, by omega, by go_num, HB2.out, by trivial⟩
            case measure => simp [intOf]; omega
      · go_wp2_with fail
        all_goals go_ret2
        all_goals first
          | exact ⟨0, 0, rfl, .inl rfl, rfl⟩
          | exact ⟨p, 2, rfl, .inr (.inr ⟨by omega, by omega, fun j q1 q2 => HB.out j q1 (by omega)⟩), rfl⟩

set_option maxRecDepth 100000 in
set_option maxHeartbeats 1000000 in
theorem pointH_3 (s : ByteArray) (k : Nat) (w : World) (hs : s.size ≤ 2147483647) (hk : k < s.size) (h1 : 224 ≤ (s[k].toNat : Int)) (h2 : (s[k].toNat : Int) < 240) : Calls Tryd.prog 17 #[.string s, .int .i64 k] w (AnyH s k w) := by
  have hw : wrap64 (s[k].toNat : Int) = (s[k].toNat : Int) := wrap_byte _
  have HK : Hid (∀ j, k ≤ j → j < k + 1 → 128 ≤ bAt s j) := fun j q1 q2 => by
    obtain rfl : j = k := by omega
    rw [bAt_in hk]; omega
  by_cases h3 : s.size - k ≤ 2
  · go_enter Tryd.func17, Tryd.ntmps17
    go_wp2_with fail
    go_ret2
    exact ⟨0, 0, rfl, .inl rfl, rfl⟩
  · go_enter Tryd.func17, Tryd.ntmps17
    go_wp2_with fail
    go_loopw [4, 9] (fun x y wr => ∃ (p : Int) (m : Nat), x = .int .i64 p ∧ 1 ≤ m ∧ m ≤ 3 ∧ y = .int .i64 m ∧ Hid (∀ j, k ≤ j → j < k + m → 128 ≤ bAt s j) ∧ w = wr) (fun _ y _ => 3 - (intOf y).toNat)
    case atStart => exact ⟨_, 1, rfl, by omega, by omega, rfl, HK.out, rfl⟩
    case round =>
      obtain ⟨p, m, rfl, hm1, hm2, rfl, HB, rfl⟩ := hrel
      clear hw h1 h2
      by_cases hm : m ≤ 2
      · have hlt : k + m < s.size := by omega
        have hw : wrap64 (s[k + m].toNat : Int) = (s[k + m].toNat : Int) := wrap_byte _
        by_cases c1 : (s[k + m].toNat : Int) < 128
        · go_wp2_with fail
          go_ret2
          exact ⟨0, 0, rfl, .inl rfl, rfl⟩
        · by_cases c2 : 192 ≤ (s[k + m].toNat : Int)
          · go_wp2_with fail
            go_ret2
            exact ⟨0, 0, rfl, .inl rfl, rfl⟩
          · have HB2 : Hid (∀ j, k ≤ j → j < k + (m + 1) → 128 ≤ bAt s j) := fun j q1 q2 => by
              by_cases q : j < k + m
              · exact HB.out j q1 q
              · have : j = k + m := by omega
                subst this; rw [bAt_in hlt]; omega
            go_wp2_with fail
            go_roundw
            case rel => exact ⟨_, m + 1, rfl, by omega, by omega, by go_num, HB2.out, by trivial⟩
            case measure => simp [intOf]; omega
      · go_wp2_with fail
        all_goals go_ret2
        all_goals first
          | exact ⟨0, 0, rfl, .inl rfl, rfl⟩
          | exact ⟨p, 3, rfl, .inr (.inr ⟨by omega, by omega, fun j q1 q2 => HB.out j q1 (by omega)⟩), rfl⟩

set_option maxRecDepth 100000 in
set_option maxHeartbeats 1000000 in
theorem pointH_4 (s : ByteArray) (k : Nat) (w : World) (hs : s.size ≤ 2147483647) (hk : k < s.size) (h1 : 240 ≤ (s[k].toNat : Int)) (h2 : (s[k].toNat : Int) < 248) : Calls Tryd.prog 17 #[.string s, .int .i64 k] w (AnyH s k w) := by
  have hw : wrap64 (s[k].toNat : Int) = (s[k].toNat : Int) := wrap_byte _
  have HK : Hid (∀ j, k ≤ j → j < k + 1 → 128 ≤ bAt s j) := fun j q1 q2 => by
    obtain rfl : j = k := by omega
    rw [bAt_in hk]; omega
  by_cases h3 : s.size - k ≤ 3
  · go_enter Tryd.func17, Tryd.ntmps17
    go_wp2_with fail
    go_ret2
    exact ⟨0, 0, rfl, .inl rfl, rfl⟩
  · go_enter Tryd.func17, Tryd.ntmps17
    go_wp2_with fail
    go_loopw [4, 9] (fun x y wr => ∃ (p : Int) (m : Nat), x = .int .i64 p ∧ 1 ≤ m ∧ m ≤ 4 ∧ y = .int .i64 m ∧ Hid (∀ j, k ≤ j → j < k + m → 128 ≤ bAt s j) ∧ w = wr) (fun _ y _ => 4 - (intOf y).toNat)
    case atStart => exact ⟨_, 1, rfl, by omega, by omega, rfl, HK.out, rfl⟩
    case round =>
      obtain ⟨p, m, rfl, hm1, hm2, rfl, HB, rfl⟩ := hrel
      clear hw h1 h2
      by_cases hm : m ≤ 3
      · have hlt : k + m < s.size := by omega
        have hw : wrap64 (s[k + m].toNat : Int) = (s[k + m].toNat : Int) := wrap_byte _
        by_cases c1 : (s[k + m].toNat : Int) < 128
        · go_wp2_with fail
          go_ret2
          exact ⟨0, 0, rfl, .inl rfl, rfl⟩
        · by_cases c2 : 192 ≤ (s[k + m].toNat : Int)
          · go_wp2_with fail
            go_ret2
            exact ⟨0, 0, rfl, .inl rfl, rfl⟩
          · have HB2 : Hid (∀ j, k ≤ j → j < k + (m + 1) → 128 ≤ bAt s j) := fun j q1 q2 => by
              by_cases q : j < k + m
              · exact HB.out j q1 q
              · have : j = k + m := by omega
                subst this; rw [bAt_in hlt]; omega
            go_wp2_with fail
            go_roundw
            case rel => exact ⟨_, m + 1, rfl, by omega, by omega, by go_num, HB2.out, by trivial⟩
            case measure => simp [intOf]; omega
      · go_wp2_with fail
        all_goals go_ret2
        all_goals first
          | exact ⟨0, 0, rfl, .inl rfl, rfl⟩
          | exact ⟨p, 4, rfl, .inr (.inr ⟨by omega, by omega, fun j q1 q2 => HB.out j q1 (by omega)⟩), rfl⟩

set_option maxRecDepth 100000 in
set_option maxHeartbeats 1000000 in
theorem pointH_lo (s : ByteArray) (k : Nat) (w : World) (hs : s.size ≤ 2147483647) (hk : k < s.size) (h : (s[k].toNat : Int) < 128) : Calls Tryd.prog 17 #[.string s, .int .i64 k] w (AnyH s k w) := by
  have hw : wrap64 (s[k].toNat : Int) = (s[k].toNat : Int) := wrap_byte _
  go_enter Tryd.func17, Tryd.ntmps17
  go_wp2_with fail
  go_ret2
  exact ⟨_, 1, rfl, .inr (.inl ⟨rfl, by rw [bAt_in hk], by rw [bAt_in hk]; omega⟩), rfl⟩

set_option maxRecDepth 100000 in
set_option maxHeartbeats 1000000 in
theorem pointH_no (s : ByteArray) (k : Nat) (w : World) (hs : s.size ≤ 2147483647) (hk : k < s.size) (h : 128 ≤ (s[k].toNat : Int)) (h2 : (s[k].toNat : Int) < 192 ∨ 248 ≤ (s[k].toNat : Int)) : Calls Tryd.prog 17 #[.string s, .int .i64 k] w (AnyH s k w) := by
  have hw : wrap64 (s[k].toNat : Int) = (s[k].toNat : Int) := wrap_byte _
  rcases h2 with h2 | h2
  · go_enter Tryd.func17, Tryd.ntmps17
    go_wp2_with fail
    go_ret2
    exact ⟨0, 0, rfl, .inl rfl, rfl⟩
  · go_enter Tryd.func17, Tryd.ntmps17
    go_wp2_with fail
    go_ret2
    exact ⟨0, 0, rfl, .inl rfl, rfl⟩

theorem pointH_any (s : ByteArray) (k : Nat) (w : World) (hs : s.size ≤ 2147483647) (hk : k < s.size) : Calls Tryd.prog 17 #[.string s, .int .i64 k] w (AnyH s k w) := by
  by_cases h1 : (s[k].toNat : Int) < 128
  · exact pointH_lo s k w hs hk h1
  · by_cases h2 : (s[k].toNat : Int) < 192
    · exact pointH_no s k w hs hk (by omega) (.inl h2)
    · by_cases h3 : (s[k].toNat : Int) < 224
      · exact pointH_2 s k w hs hk (by omega) h3
      · by_cases h4 : (s[k].toNat : Int) < 240
        · exact pointH_3 s k w hs hk (by omega) h4
        · by_cases h5 : (s[k].toNat : Int) < 248
          · exact pointH_4 s k w hs hk (by omega) h5
          · exact pointH_no s k w hs hk (by omega) (.inr (by omega))

/-- No zero byte. -/
def NoZ (s : ByteArray) (k : Nat) : Prop := ∀ j, j < k → bAt s j ≠ 0
def PlainP (s : ByteArray) (w : World) (e : Ending) (w' : World) : Prop := ∃ b, e = .returned (.bool b) ∧ (b = true → NoZ s s.size) ∧ w = w'

set_option maxHeartbeats 1000000 in
theorem plainZ_any (s : ByteArray) (w : World) (hs : s.size ≤ 2147483647) : Calls Tryd.prog 8 #[.string s] w (PlainP s w) := by
  go_enter Tryd.func8, Tryd.ntmps8
  go_wp2_with fail
  go_loopw [3] (fun x wr => ∃ k : Nat, k ≤ s.size ∧ x = .int .i64 k ∧ Hid (NoZ s k) ∧ w = wr) (fun x _ => s.size - (intOf x).toNat)
  case atStart => exact ⟨0, by omega, rfl, fun j hj => absurd hj (Nat.not_lt_zero j), rfl⟩
  case round =>
    obtain ⟨k, hk, rfl, HZ, rfl⟩ := hrel
    by_cases hlt : k < s.size
    · go_wp2_with fail
      refine (pointH_any s k _ hs hlt).mono ?_
      rintro e w1 ⟨p, n, rfl, hn, rfl⟩
      by_cases h0 : n = 0
      · have hz : ((n : Int) == 0) = true := beq_iff_eq.2 (by omega)
        have HZ := Lib.hid h0
        clear h0 hn
        go_wp2_with fail
        go_ret
        exact ⟨_, rfl, (fun h => by cases h), rfl⟩
      · have hz : ((n : Int) == 0) = false := beq_eq_false_iff_ne.2 (by omega)
        cases hp : (p == 0)
        · have hp0 : p ≠ 0 := beq_eq_false_iff_ne.1 hp
          have HZ2 : Hid (NoZ s (k + n)) := fun j hj => by
            by_cases q : j < k
            · exact HZ.out j q
            · rcases hn with hn | ⟨hn, hp2, _⟩ | ⟨_, _, hn⟩
              · exact absurd hn h0
              · have : j = k := by omega
                subst this
                intro q2
                rw [q2] at hp2
                exact hp0 hp2
              · have := hn j (by omega) hj
                omega
          have hle : k + n ≤ s.size := by rcases hn with hn | ⟨hn, _⟩ | ⟨_, hn, _⟩ <;> omega
          clear hn hp0
          go_wp2_with fail
          go_roundw
          case rel => exact ⟨k + n, by omega, by go_num, HZ2.out, by trivial⟩
          case measure => simp [intOf]; omega
        · clear hn
          go_wp2_with fail
          go_ret
          exact ⟨_, rfl, (fun h => by cases h), rfl⟩
    · have HZ2 : Hid (NoZ s s.size) := fun j hj => HZ.out j (by omega)
      go_wp2_with fail
      go_ret
      exact ⟨_, rfl, fun _ => HZ2.out, rfl⟩
end Go.Proofs.YtkdfdfhejibopaaDoor
