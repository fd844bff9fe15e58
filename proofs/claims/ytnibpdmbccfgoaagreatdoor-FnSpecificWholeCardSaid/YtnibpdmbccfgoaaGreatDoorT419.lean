/- spec.point and spec.readable, as functions of the text. -/
import Derived.Test.YtnibpdmbccfgoaaGreatDoorJ2
namespace Go.Proofs.YtnibpdmbccfgoaaGreatDoor
open Go.RowKit
set_option linter.unusedVariables false

def isCo (c : Nat) : Bool := decide (128 ≤ c ∧ c ≤ 191)
/-- The bytes behind the first, and what they count. -/
def coB (s : ByteArray) (k : Nat) : Nat → Bool
  | 0 => true
  | m + 1 => coB s k m && isCo (bAt s (k + m + 1))
def pcF (s : ByteArray) (k : Nat) (c : Int) : Nat → Int
  | 0 => c
  | m + 1 => wrap64 (wrap64 (wrap64 (pcF s k c m * 64) + (bAt s (k + m + 1) : Int)) - 128)
theorem coB_no {s : ByteArray} {k j : Nat} (h : coB s k j = false) : ∀ d, coB s k (j + d) = false
  | 0 => h
  | d + 1 => by show (coB s k (j + d) && _) = false; rw [coB_no h d]; rfl
/-- A point of N + 1 bytes. -/
def ptG (s : ByteArray) (k N : Nat) (c least : Int) : Int × Nat :=
  if s.size < k + (N + 1) then (0, 0) else if coB s k N = true then
    (if pcF s k c N < least ∨ 1114111 < pcF s k c N ∨ (55296 ≤ pcF s k c N ∧ pcF s k c N < 57344) then (0, 0) else (pcF s k c N, N + 1)) else (0, 0)
def ptF (s : ByteArray) (k : Nat) : Int × Nat :=
  if bAt s k < 128 then ((bAt s k : Int), 1) else if bAt s k < 194 ∨ 245 ≤ bAt s k then (0, 0) else
  if bAt s k < 224 then ptG s k 1 ((bAt s k : Int) - 192) 128 else
  if bAt s k < 240 then ptG s k 2 ((bAt s k : Int) - 224) 2048 else ptG s k 3 ((bAt s k : Int) - 240) 65536
def PtP (r : Int × Nat) (w : World) (e : Ending) (w' : World) : Prop := e = .returned (.tuple #[.int .i64 r.1, .int .i64 ((r.2 : Nat) : Int)]) ∧ w = w'

set_option maxRecDepth 100000 in
set_option maxHeartbeats 1000000 in
theorem ptF_no (s : ByteArray) (k : Nat) (w : World) (hs : s.size ≤ 2147483647) (hk : k < s.size) (h1 : 128 ≤ (s[k].toNat : Int)) (h2 : (s[k].toNat : Int) < 194 ∨ 245 ≤ (s[k].toNat : Int)) : Calls Tryz.prog 37 #[.string s, .int .i64 k] w (PtP (0, 0) w) := by
  have hw : wrap64 (s[k].toNat : Int) = (s[k].toNat : Int) := wrap_byte _
  rcases h2 with h2 | h2
  · go_enter Tryz.func37, Tryz.ntmps37
    go_wp2_with fail
    go_ret2
    exact ⟨rfl, rfl⟩
  · go_enter Tryz.func37, Tryz.ntmps37
    go_wp2_with fail
    go_ret2
    exact ⟨rfl, rfl⟩

set_option maxRecDepth 100000 in
set_option maxHeartbeats 1000000 in
theorem ptF_2 (s : ByteArray) (k : Nat) (w : World) (hs : s.size ≤ 2147483647) (hk : k < s.size) (h1 : 194 ≤ (s[k].toNat : Int)) (h2 : (s[k].toNat : Int) < 224) : Calls Tryz.prog 37 #[.string s, .int .i64 k] w (PtP (ptG s k 1 ((s[k].toNat : Int) - 192) 128) w) := by
  have hw : wrap64 (s[k].toNat : Int) = (s[k].toNat : Int) := wrap_byte _
  by_cases h3 : s.size < k + 2
  · have HV : Hid (ptG s k 1 ((s[k].toNat : Int) - 192) 128 = (0, 0)) := if_pos h3
    go_enter Tryz.func37, Tryz.ntmps37
    go_wp2_with fail
    go_ret2
    exact ⟨by rw [HV.out]; rfl, rfl⟩
  · obtain ⟨c0, hc0⟩ : ∃ c0 : Int, c0 = (s[k].toNat : Int) - 192 := ⟨_, rfl⟩
    have HC := Lib.hid hc0
    rw [← hc0]
    clear hc0
    have HG : Hid (ptG s k 1 c0 128 = if coB s k 1 = true then (if pcF s k c0 1 < 128 ∨ 1114111 < pcF s k c0 1 ∨ (55296 ≤ pcF s k c0 1 ∧ pcF s k c0 1 < 57344) then (0, 0) else (pcF s k c0 1, 2)) else (0, 0)) := if_neg h3
    go_enter Tryz.func37, Tryz.ntmps37
    go_wp2_with fail
    go_loopw [4, 5, 8] (fun x z y wr => ∃ (p : Int) (m : Nat), x = .int .i64 p ∧ z = .int .i64 2 ∧ m ≤ 1 ∧ y = .int .i64 ((k + (m + 1) : Nat) : Int) ∧ Hid (p = pcF s k c0 m) ∧ Hid (coB s k m = true) ∧ w = wr) (fun _ _ y _ => k + 2 - (intOf y).toNat)
    case atStart => exact ⟨_, 0, rfl, rfl, by omega, by go_num, HC.out.symm, rfl, rfl⟩
    case round =>
      obtain ⟨p, m, rfl, rfl, hm2, rfl, HP, HB, rfl⟩ := hrel
      clear hw h1 h2
      by_cases hm : m < 1
      · have hlt : k + (m + 1) < s.size := by omega
        have hb := bAt_in hlt
        have hw : wrap64 (s[k + (m + 1)].toNat : Int) = (s[k + (m + 1)].toNat : Int) := wrap_byte _
        have HBn : Hid (isCo (bAt s (k + m + 1)) = false → ptG s k 1 c0 128 = (0, 0)) := fun q => by
          have q2 : coB s k (m + 1) = false := by show (coB s k m && isCo (bAt s (k + m + 1))) = false; rw [q, Bool.and_false]
          have q3 := coB_no q2 (1 - (m + 1))
          rw [show m + 1 + (1 - (m + 1)) = 1 by omega] at q3
          rw [HG.out, q3]; rfl
        have HBb : Hid (bAt s (k + m + 1) = s[k + (m + 1)].toNat) := hb
        clear hb
        by_cases c1 : (s[k + (m + 1)].toNat : Int) < 128
        · have HV : Hid (ptG s k 1 c0 128 = (0, 0)) := HBn.out (by rw [HBb.out]; exact decide_eq_false (by omega))
          go_wp2_with fail
          go_ret2
          exact ⟨by rw [HV.out]; rfl, rfl⟩
        · by_cases c2 : 191 < (s[k + (m + 1)].toNat : Int)
          · have HV : Hid (ptG s k 1 c0 128 = (0, 0)) := HBn.out (by rw [HBb.out]; exact decide_eq_false (by omega))
            go_wp2_with fail
            go_ret2
            exact ⟨by rw [HV.out]; rfl, rfl⟩
          · have HB2 : Hid (coB s k (m + 1) = true) := by
              show (coB s k m && isCo (bAt s (k + m + 1))) = true
              rw [HB.out, HBb.out, Bool.true_and]; exact decide_eq_true (by omega)
            have HP2 : Hid (wrap64 (wrap64 (wrap64 (p * 64) + (s[k + (m + 1)].toNat : Int)) - 128) = pcF s k c0 (m + 1)) := by
              rw [Hid, HP.out, ← HBb.out]; rfl
            go_wp2_with fail
            go_roundw
            case rel => exact ⟨_, m + 1, rfl, rfl, by omega, by go_num, HP2, HB2, by trivial⟩
            case measure => simp [intOf]; omega
      · have hmN : m = 1 := by omega
        subst hmN
        have HG2 : Hid (ptG s k 1 c0 128 = if p < 128 ∨ 1114111 < p ∨ (55296 ≤ p ∧ p < 57344) then (0, 0) else (p, 2)) := by
          rw [Hid, HG.out, if_pos HB.out, ← HP.out]
        by_cases hbad : p < 128 ∨ 1114111 < p ∨ (55296 ≤ p ∧ p < 57344)
        · have HV : Hid (ptG s k 1 c0 128 = (0, 0)) := by rw [Hid, HG2.out, if_pos hbad]
          have HBad := Lib.hid hbad
          clear hbad
          go_wp2_with fail
          all_goals go_ret2
          all_goals first
            | exact ⟨by rw [HV.out]; rfl, rfl⟩
            | (have := HBad.out; exfalso; omega)
        · have HV : Hid (ptG s k 1 c0 128 = (p, 2)) := by rw [Hid, HG2.out, if_neg hbad]
          have HBad := Lib.hid hbad
          clear hbad
          go_wp2_with fail
          all_goals go_ret2
          all_goals first
            | exact ⟨by rw [HV.out]; rfl, rfl⟩
            | (have := HBad.out; exfalso; omega)

set_option maxRecDepth 100000 in
set_option maxHeartbeats 1000000 in
theorem ptF_3 (s : ByteArray) (k : Nat) (w : World) (hs : s.size ≤ 2147483647) (hk : k < s.size) (h1 : 224 ≤ (s[k].toNat : Int)) (h2 : (s[k].toNat : Int) < 240) : Calls Tryz.prog 37 #[.string s, .int .i64 k] w (PtP (ptG s k 2 ((s[k].toNat : Int) - 224) 2048) w) := by
  have hw : wrap64 (s[k].toNat : Int) = (s[k].toNat : Int) := wrap_byte _
  by_cases h3 : s.size < k + 3
  · have HV : Hid (ptG s k 2 ((s[k].toNat : Int) - 224) 2048 = (0, 0)) := if_pos h3
    go_enter Tryz.func37, Tryz.ntmps37
    go_wp2_with fail
    go_ret2
    exact ⟨by rw [HV.out]; rfl, rfl⟩
  · obtain ⟨c0, hc0⟩ : ∃ c0 : Int, c0 = (s[k].toNat : Int) - 224 := ⟨_, rfl⟩
    have HC := Lib.hid hc0
    rw [← hc0]
    clear hc0
    have HG : Hid (ptG s k 2 c0 2048 = if coB s k 2 = true then (if pcF s k c0 2 < 2048 ∨ 1114111 < pcF s k c0 2 ∨ (55296 ≤ pcF s k c0 2 ∧ pcF s k c0 2 < 57344) then (0, 0) else (pcF s k c0 2, 3)) else (0, 0)) := if_neg h3
    go_enter Tryz.func37, Tryz.ntmps37
    go_wp2_with fail
    go_loopw [4, 5, 8] (fun x z y wr => ∃ (p : Int) (m : Nat), x = .int .i64 p ∧ z = .int .i64 3 ∧ m ≤ 2 ∧ y = .int .i64 ((k + (m + 1) : Nat) : Int) ∧ Hid (p = pcF s k c0 m) ∧ Hid (coB s k m = true) ∧ w = wr) (fun _ _ y _ => k + 3 - (intOf y).toNat)
    case atStart => exact ⟨_, 0, rfl, rfl, by omega, by go_num, HC.out.symm, rfl, rfl⟩
    case round =>
      obtain ⟨p, m, rfl, rfl, hm2, rfl, HP, HB, rfl⟩ := hrel
      clear hw h1 h2
      by_cases hm : m < 2
      · have hlt : k + (m + 1) < s.size := by omega
        have hb := bAt_in hlt
        have hw : wrap64 (s[k + (m + 1)].toNat : Int) = (s[k + (m + 1)].toNat : Int) := wrap_byte _
        have HBn : Hid (isCo (bAt s (k + m + 1)) = false → ptG s k 2 c0 2048 = (0, 0)) := fun q => by
          have q2 : coB s k (m + 1) = false := by show (coB s k m && isCo (bAt s (k + m + 1))) = false; rw [q, Bool.and_false]
          have q3 := coB_no q2 (2 - (m + 1))
          rw [show m + 1 + (2 - (m + 1)) = 2 by omega] at q3
          rw [HG.out, q3]; rfl
        have HBb : Hid (bAt s (k + m + 1) = s[k + (m + 1)].toNat) := hb
        clear hb
        by_cases c1 : (s[k + (m + 1)].toNat : Int) < 128
        · have HV : Hid (ptG s k 2 c0 2048 = (0, 0)) := HBn.out (by rw [HBb.out]; exact decide_eq_false (by omega))
          go_wp2_with fail
          go_ret2
          exact ⟨by rw [HV.out]; rfl, rfl⟩
        · by_cases c2 : 191 < (s[k + (m + 1)].toNat : Int)
          · have HV : Hid (ptG s k 2 c0 2048 = (0, 0)) := HBn.out (by rw [HBb.out]; exact decide_eq_false (by omega))
            go_wp2_with fail
            go_ret2
            exact ⟨by rw [HV.out]; rfl, rfl⟩
          · have HB2 : Hid (coB s k (m + 1) = true) := by
              show (coB s k m && isCo (bAt s (k + m + 1))) = true
              rw [HB.out, HBb.out, Bool.true_and]; exact decide_eq_true (by omega)
            have HP2 : Hid (wrap64 (wrap64 (wrap64 (p * 64) + (s[k + (m + 1)].toNat : Int)) - 128) = pcF s k c0 (m + 1)) := by
              rw [Hid, HP.out, ← HBb.out]; rfl
            go_wp2_with fail
            go_roundw
            case rel => exact ⟨_, m + 1, rfl, rfl, by omega, by go_num, HP2, HB2, by trivial⟩
            case measure => simp [intOf]; omega
      · have hmN : m = 2 := by omega
        subst hmN
        have HG2 : Hid (ptG s k 2 c0 2048 = if p < 2048 ∨ 1114111 < p ∨ (55296 ≤ p ∧ p < 57344) then (0, 0) else (p, 3)) := by
          rw [Hid, HG.out, if_pos HB.out, ← HP.out]
        by_cases hbad : p < 2048 ∨ 1114111 < p ∨ (55296 ≤ p ∧ p < 57344)
        · have HV : Hid (ptG s k 2 c0 2048 = (0, 0)) := by rw [Hid, HG2.out, if_pos hbad]
          have HBad := Lib.hid hbad
          clear hbad
          go_wp2_with fail
          all_goals go_ret2
          all_goals first
            | exact ⟨by rw [HV.out]; rfl, rfl⟩
            | (have := HBad.out; exfalso; omega)
        · have HV : Hid (ptG s k 2 c0 2048 = (p, 3)) := by rw [Hid, HG2.out, if_neg hbad]
          have HBad := Lib.hid hbad
          clear hbad
          go_wp2_with fail
          all_goals go_ret2
          all_goals first
            | exact ⟨by rw [HV.out]; rfl, rfl⟩
            | (have := HBad.out; exfalso; omega)

set_option maxRecDepth 100000 in
set_option maxHeartbeats 1000000 in
theorem ptF_4 (s : ByteArray) (k : Nat) (w : World) (hs : s.size ≤ 2147483647) (hk : k < s.size) (h1 : 240 ≤ (s[k].toNat : Int)) (h2 : (s[k].toNat : Int) < 245) : Calls Tryz.prog 37 #[.string s, .int .i64 k] w (PtP (ptG s k 3 ((s[k].toNat : Int) - 240) 65536) w) := by
  have hw : wrap64 (s[k].toNat : Int) = (s[k].toNat : Int) := wrap_byte _
  by_cases h3 : s.size < k + 4
  · have HV : Hid (ptG s k 3 ((s[k].toNat : Int) - 240) 65536 = (0, 0)) := if_pos h3
    go_enter Tryz.func37, Tryz.ntmps37
    go_wp2_with fail
    go_ret2
    exact ⟨by rw [HV.out]; rfl, rfl⟩
  · obtain ⟨c0, hc0⟩ : ∃ c0 : Int, c0 = (s[k].toNat : Int) - 240 := ⟨_, rfl⟩
    have HC := Lib.hid hc0
    rw [← hc0]
    clear hc0
    have HG : Hid (ptG s k 3 c0 65536 = if coB s k 3 = true then (if pcF s k c0 3 < 65536 ∨ 1114111 < pcF s k c0 3 ∨ (55296 ≤ pcF s k c0 3 ∧ pcF s k c0 3 < 57344) then (0, 0) else (pcF s k c0 3, 4)) else (0, 0)) := if_neg h3
    go_enter Tryz.func37, Tryz.ntmps37
    go_wp2_with fail
    go_loopw [4, 5, 8] (fun x z y wr => ∃ (p : Int) (m : Nat), x = .int .i64 p ∧ z = .int .i64 4 ∧ m ≤ 3 ∧ y = .int .i64 ((k + (m + 1) : Nat) : Int) ∧ Hid (p = pcF s k c0 m) ∧ Hid (coB s k m = true) ∧ w = wr) (fun _ _ y _ => k + 4 - (intOf y).toNat)
    case atStart => exact ⟨_, 0, rfl, rfl, by omega, by go_num, HC.out.symm, rfl, rfl⟩
    case round =>
      obtain ⟨p, m, rfl, rfl, hm2, rfl, HP, HB, rfl⟩ := hrel
      clear hw h1 h2
      by_cases hm : m < 3
      · have hlt : k + (m + 1) < s.size := by omega
        have hb := bAt_in hlt
        have hw : wrap64 (s[k + (m + 1)].toNat : Int) = (s[k + (m + 1)].toNat : Int) := wrap_byte _
        have HBn : Hid (isCo (bAt s (k + m + 1)) = false → ptG s k 3 c0 65536 = (0, 0)) := fun q => by
          have q2 : coB s k (m + 1) = false := by show (coB s k m && isCo (bAt s (k + m + 1))) = false; rw [q, Bool.and_false]
          have q3 := coB_no q2 (3 - (m + 1))
          rw [show m + 1 + (3 - (m + 1)) = 3 by omega] at q3
          rw [HG.out, q3]; rfl
        have HBb : Hid (bAt s (k + m + 1) = s[k + (m + 1)].toNat) := hb
        clear hb
        by_cases c1 : (s[k + (m + 1)].toNat : Int) < 128
        · have HV : Hid (ptG s k 3 c0 65536 = (0, 0)) := HBn.out (by rw [HBb.out]; exact decide_eq_false (by omega))
          go_wp2_with fail
          go_ret2
          exact ⟨by rw [HV.out]; rfl, rfl⟩
        · by_cases c2 : 191 < (s[k + (m + 1)].toNat : Int)
          · have HV : Hid (ptG s k 3 c0 65536 = (0, 0)) := HBn.out (by rw [HBb.out]; exact decide_eq_false (by omega))
            go_wp2_with fail
            go_ret2
            exact ⟨by rw [HV.out]; rfl, rfl⟩
          · have HB2 : Hid (coB s k (m + 1) = true) := by
              show (coB s k m && isCo (bAt s (k + m + 1))) = true
              rw [HB.out, HBb.out, Bool.true_and]; exact decide_eq_true (by omega)
            have HP2 : Hid (wrap64 (wrap64 (wrap64 (p * 64) + (s[k + (m + 1)].toNat : Int)) - 128) = pcF s k c0 (m + 1)) := by
              rw [Hid, HP.out, ← HBb.out]; rfl
            go_wp2_with fail
            go_roundw
            case rel => exact ⟨_, m + 1, rfl, rfl, by omega, by go_num, HP2, HB2, by trivial⟩
            case measure => simp [intOf]; omega
      · have hmN : m = 3 := by omega
        subst hmN
        have HG2 : Hid (ptG s k 3 c0 65536 = if p < 65536 ∨ 1114111 < p ∨ (55296 ≤ p ∧ p < 57344) then (0, 0) else (p, 4)) := by
          rw [Hid, HG.out, if_pos HB.out, ← HP.out]
        by_cases hbad : p < 65536 ∨ 1114111 < p ∨ (55296 ≤ p ∧ p < 57344)
        · have HV : Hid (ptG s k 3 c0 65536 = (0, 0)) := by rw [Hid, HG2.out, if_pos hbad]
          have HBad := Lib.hid hbad
          clear hbad
          go_wp2_with fail
          all_goals go_ret2
          all_goals first
            | exact ⟨by rw [HV.out]; rfl, rfl⟩
            | (have := HBad.out; exfalso; omega)
        · have HV : Hid (ptG s k 3 c0 65536 = (p, 4)) := by rw [Hid, HG2.out, if_neg hbad]
          have HBad := Lib.hid hbad
          clear hbad
          go_wp2_with fail
          all_goals go_ret2
          all_goals first
            | exact ⟨by rw [HV.out]; rfl, rfl⟩
            | (have := HBad.out; exfalso; omega)

theorem ptF_any (s : ByteArray) (k : Nat) (w : World) (hs : s.size ≤ 2147483647) (hk : k < s.size) : Calls Tryz.prog 37 #[.string s, .int .i64 k] w (PtP (ptF s k) w) := by
  have hb := bAt_in hk
  unfold ptF
  rw [hb]
  by_cases h1 : s[k].toNat < 128
  · rw [if_pos h1]
    exact pt2_lo s k w hs hk (by omega)
  rw [if_neg h1]
  by_cases h2 : s[k].toNat < 194 ∨ 245 ≤ s[k].toNat
  · rw [if_pos h2]
    exact ptF_no s k w hs hk (by omega) (by omega)
  rw [if_neg h2]
  by_cases h3 : s[k].toNat < 224
  · rw [if_pos h3]
    exact ptF_2 s k w hs hk (by omega) (by omega)
  rw [if_neg h3]
  by_cases h4 : s[k].toNat < 240
  · rw [if_pos h4]
    exact ptF_3 s k w hs hk (by omega) (by omega)
  rw [if_neg h4]
  exact ptF_4 s k w hs hk (by omega) (by omega)

/-- The bounds of a point. -/
theorem ptF_le (s : ByteArray) (k : Nat) (hk : k < s.size) : k + (ptF s k).2 ≤ s.size := by
  have hG : ∀ N c l, k + (ptG s k N c l).2 ≤ s.size := fun N c l => by
    unfold ptG
    split
    · show k + 0 ≤ _; omega
    · split
      · split
        · show k + 0 ≤ _; omega
        · show k + (N + 1) ≤ _; omega
      · show k + 0 ≤ _; omega
  unfold ptF
  split
  · show k + 1 ≤ _; omega
  · split
    · show k + 0 ≤ _; omega
    · split
      · exact hG _ _ _
      · split
        · exact hG _ _ _
        · exact hG _ _ _

/-- One code point that a text may hold; the text from a place on. -/
def ptOk (s : ByteArray) (k : Nat) : Bool := decide ((ptF s k).2 ≠ 0 ∧ (ptF s k).1 ≠ 0 ∧ (ptF s k).1 ≠ 65279)
def rdbN (s : ByteArray) : Nat → Nat → Bool
  | 0, k => decide (s.size ≤ k)
  | n + 1, k => if s.size ≤ k then true else ptOk s k && rdbN s n (k + (ptF s k).2)
/-- Whether a text is UTF-8 without zero bytes and byte order marks. -/
def rdb (s : ByteArray) : Bool := rdbN s s.size 0
theorem rdbN_end {s : ByteArray} {k : Nat} (h : s.size ≤ k) : ∀ n, rdbN s n k = true
  | 0 => decide_eq_true h
  | n + 1 => if_pos h
theorem rdbN_enough (s : ByteArray) : ∀ n k, s.size - k ≤ n → rdbN s n k = rdbN s (s.size - k) k
  | 0, k, h => by rw [show s.size - k = 0 by omega]
  | n + 1, k, h => by
    by_cases q : s.size ≤ k
    · rw [rdbN_end q, rdbN_end q]
    · obtain ⟨d, hd⟩ : ∃ d, s.size - k = d + 1 := ⟨s.size - k - 1, by omega⟩
      rw [hd]
      show (if s.size ≤ k then true else ptOk s k && rdbN s n (k + (ptF s k).2)) = (if s.size ≤ k then true else ptOk s k && rdbN s d (k + (ptF s k).2))
      rw [if_neg q, if_neg q]
      cases hp : ptOk s k
      · rfl
      · have h0 := (of_decide_eq_true hp).1
        rw [rdbN_enough s n _ (by omega), rdbN_enough s d _ (by omega)]
theorem rdbN_step {s : ByteArray} {k : Nat} (h : k < s.size) : rdbN s (s.size - k) k = (ptOk s k && rdbN s (s.size - (k + (ptF s k).2)) (k + (ptF s k).2)) := by
  obtain ⟨d, hd⟩ : ∃ d, s.size - k = d + 1 := ⟨s.size - k - 1, by omega⟩
  rw [hd]
  show (if s.size ≤ k then true else ptOk s k && rdbN s d (k + (ptF s k).2)) = _
  rw [if_neg (by omega)]
  cases hp : ptOk s k
  · rfl
  · have h0 := (of_decide_eq_true hp).1
    rw [rdbN_enough s d _ (by omega)]
def RbP (b : Bool) (w : World) (e : Ending) (w' : World) : Prop := e = .returned (.bool b) ∧ w = w'

set_option maxHeartbeats 1000000 in
theorem rdb_any (s : ByteArray) (w : World) (hs : s.size ≤ 2147483647) : Calls Tryz.prog 25 #[.string s] w (RbP (rdb s) w) := by
  go_enter Tryz.func25, Tryz.ntmps25
  go_wp2_with fail
  go_loopw [3] (fun x wr => ∃ k : Nat, k ≤ s.size ∧ x = .int .i64 k ∧ Hid (rdb s = rdbN s (s.size - k) k) ∧ w = wr) (fun x _ => s.size - (intOf x).toNat)
  case atStart => exact ⟨0, by omega, rfl, rfl, rfl⟩
  case round =>
    obtain ⟨k, hk, rfl, HK, rfl⟩ := hrel
    by_cases hlt : k < s.size
    · have HS : Hid (rdb s = (ptOk s k && rdbN s (s.size - (k + (ptF s k).2)) (k + (ptF s k).2))) := HK.out.trans (rdbN_step hlt)
      have hle := ptF_le s k hlt
      have HPt := Lib.hid (fun U => ptF_any s k U hs hlt)
      have HO : Hid (ptOk s k = decide ((ptF s k).2 ≠ 0 ∧ (ptF s k).1 ≠ 0 ∧ (ptF s k).1 ≠ 65279)) := rfl
      unfold PtP at HPt
      obtain ⟨p, hp⟩ : ∃ p, p = (ptF s k).1 := ⟨_, rfl⟩
      obtain ⟨n, hn⟩ : ∃ n, n = (ptF s k).2 := ⟨_, rfl⟩
      rw [← hp, ← hn] at HPt HO
      rw [← hn] at HS hle
      clear hp hn HK
      go_wp2_with fail
      refine (HPt.out _).mono ?_
      rintro e w1 ⟨rfl, rfl⟩
      by_cases h0 : n = 0
      · have hz : ((n : Int) == 0) = true := beq_iff_eq.2 (by omega)
        have HV : Hid (rdb s = false) := by rw [Hid, HS.out, HO.out, decide_eq_false (fun h => h.1 h0)]; rfl
        clear h0
        go_wp2_with fail
        go_ret
        exact ⟨by rw [HV.out]; rfl, rfl⟩
      · have hz : ((n : Int) == 0) = false := beq_eq_false_iff_ne.2 (by omega)
        cases hp : (p == 0)
        · cases hq : (p == 65279)
          · have HK2 : Hid (rdb s = rdbN s (s.size - (k + n)) (k + n)) := by
              rw [Hid, HS.out, HO.out, decide_eq_true ⟨h0, beq_eq_false_iff_ne.1 hp, beq_eq_false_iff_ne.1 hq⟩, Bool.true_and]
            go_wp2_with fail
            go_roundw
            case rel => exact ⟨k + n, by omega, by go_num, HK2, by trivial⟩
            case measure => simp [intOf]; omega
          · have HV : Hid (rdb s = false) := by rw [Hid, HS.out, HO.out, decide_eq_false (fun h => h.2.2 (beq_iff_eq.1 hq))]; rfl
            go_wp2_with fail
            go_ret
            exact ⟨by rw [HV.out]; rfl, rfl⟩
        · have HV : Hid (rdb s = false) := by rw [Hid, HS.out, HO.out, decide_eq_false (fun h => h.2.1 (beq_iff_eq.1 hp))]; rfl
          go_wp2_with fail
          go_ret
          exact ⟨by rw [HV.out]; rfl, rfl⟩
    · have HV : Hid (rdb s = true) := HK.out.trans (rdbN_end (by omega) _)
      go_wp2_with fail
      go_ret
      exact ⟨by rw [HV.out]; rfl, rfl⟩
end Go.Proofs.YtnibpdmbccfgoaaGreatDoor
