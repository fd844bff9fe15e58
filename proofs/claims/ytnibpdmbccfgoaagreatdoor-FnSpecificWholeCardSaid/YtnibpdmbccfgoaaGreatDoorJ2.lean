/- FnSpecificWhole: texts joined (joinf.py) -/
import Derived.Test.YtnibpdmbccfgoaaGreatDoorJ1
import Derived.Deep.QuietTactic
import Derived.BigQuiet
import Derived.IntWalk
namespace Go.Proofs.YtnibpdmbccfgoaaGreatDoor
open Go.RowKit
set_option linter.unusedVariables false

set_option maxRecDepth 100000 in
set_option maxHeartbeats 1000000 in
theorem pt2_lo (s : ByteArray) (k : Nat) (w : World) (hs : s.size ≤ 2147483647) (hk : k < s.size) (h1 : (s[k].toNat : Int) < 128) : Calls Tryz.prog 37 #[.string s, .int .i64 k] w fun e w' => e = .returned (.tuple #[.int .i64 (s[k].toNat : Int), .int .i64 1]) ∧ w = w' := by
  have hw : wrap64 (s[k].toNat : Int) = (s[k].toNat : Int) := wrap_byte _
  go_enter Tryz.func37, Tryz.ntmps37
  go_wp2_with fail
  go_ret2
  exact ⟨rfl, rfl⟩

set_option maxRecDepth 100000 in
set_option maxHeartbeats 1000000 in
theorem pt2_no (s : ByteArray) (k : Nat) (w : World) (hs : s.size ≤ 2147483647) (hk : k < s.size) (h1 : 128 ≤ (s[k].toNat : Int)) (h2 : (s[k].toNat : Int) < 194 ∨ 245 ≤ (s[k].toNat : Int)) : Calls Tryz.prog 37 #[.string s, .int .i64 k] w (AnyP s k w) := by
  have hw : wrap64 (s[k].toNat : Int) = (s[k].toNat : Int) := wrap_byte _
  rcases h2 with h2 | h2
  · go_enter Tryz.func37, Tryz.ntmps37
    go_wp2_with fail
    go_ret2
    exact ⟨0, 0, rfl, by omega, rfl⟩
  · go_enter Tryz.func37, Tryz.ntmps37
    go_wp2_with fail
    go_ret2
    exact ⟨0, 0, rfl, by omega, rfl⟩

set_option maxRecDepth 100000 in
set_option maxHeartbeats 1000000 in
theorem pt2_2 (s : ByteArray) (k : Nat) (w : World) (hs : s.size ≤ 2147483647) (hk : k < s.size) (h1 : 194 ≤ (s[k].toNat : Int)) (h2 : (s[k].toNat : Int) < 224) : Calls Tryz.prog 37 #[.string s, .int .i64 k] w (AnyP s k w) := by
  have hw : wrap64 (s[k].toNat : Int) = (s[k].toNat : Int) := wrap_byte _
  by_cases h3 : s.size < k + 2
  · go_enter Tryz.func37, Tryz.ntmps37
    go_wp2_with fail
    go_ret2
    exact ⟨0, 0, rfl, by omega, rfl⟩
  · go_enter Tryz.func37, Tryz.ntmps37
    go_wp2_with fail
    go_loopw [4, 5, 8] (fun x z y wr => ∃ (p : Int) (m : Nat), x = .int .i64 p ∧ z = .int .i64 2 ∧ 1 ≤ m ∧ m ≤ 2 ∧ y = .int .i64 ((k + m : Nat) : Int) ∧ w = wr) (fun _ _ y _ => k + 2 - (intOf y).toNat)
    case atStart => exact ⟨_, 1, rfl, rfl, by omega, by omega, by go_num, rfl⟩
    case round =>
      obtain ⟨p, m, rfl, rfl, hm1, hm2, rfl, rfl⟩ := hrel
      clear hw h1 h2
      by_cases hm : m < 2
      · have hlt : k + m < s.size := by omega
        have hw : wrap64 (s[k + m].toNat : Int) = (s[k + m].toNat : Int) := wrap_byte _
        by_cases c1 : (s[k + m].toNat : Int) < 128
        · go_wp2_with fail
          go_ret2
          exact ⟨0, 0, rfl, by omega, rfl⟩
        · by_cases c2 : 191 < (s[k + m].toNat : Int)
          · go_wp2_with fail
            go_ret2
            exact ⟨0, 0, rfl, by omega, rfl⟩
          · go_wp2_with fail
            go_roundw
            case rel => exact ⟨_, m + 1, rfl, rfl, by omega, by omega, by go_num, by trivial⟩
            case measure => simp [intOf]; omega
      · go_wp2_with fail
        all_goals go_ret2
        all_goals first
          | exact ⟨0, 0, rfl, by omega, rfl⟩
          | exact ⟨p, 2, rfl, by omega, rfl⟩

set_option maxRecDepth 100000 in
set_option maxHeartbeats 1000000 in
theorem pt2_3 (s : ByteArray) (k : Nat) (w : World) (hs : s.size ≤ 2147483647) (hk : k < s.size) (h1 : 224 ≤ (s[k].toNat : Int)) (h2 : (s[k].toNat : Int) < 240) : Calls Tryz.prog 37 #[.string s, .int .i64 k] w (AnyP s k w) := by
  have hw : wrap64 (s[k].toNat : Int) = (s[k].toNat : Int) := wrap_byte _
  by_cases h3 : s.size < k + 3
  · go_enter Tryz.func37, Tryz.ntmps37
    go_wp2_with fail
    go_ret2
    exact ⟨0, 0, rfl, by omega, rfl⟩
  · go_enter Tryz.func37, Tryz.ntmps37
    go_wp2_with fail
    go_loopw [4, 5, 8] (fun x z y wr => ∃ (p : Int) (m : Nat), x = .int .i64 p ∧ z = .int .i64 3 ∧ 1 ≤ m ∧ m ≤ 3 ∧ y = .int .i64 ((k + m : Nat) : Int) ∧ w = wr) (fun _ _ y _ => k + 3 - (intOf y).toNat)
    case atStart => exact ⟨_, 1, rfl, rfl, by omega, by omega, by go_num, rfl⟩
    case round =>
      obtain ⟨p, m, rfl, rfl, hm1, hm2, rfl, rfl⟩ := hrel
      clear hw h1 h2
      by_cases hm : m < 3
      · have hlt : k + m < s.size := by omega
        have hw : wrap64 (s[k + m].toNat : Int) = (s[k + m].toNat : Int) := wrap_byte _
        by_cases c1 : (s[k + m].toNat : Int) < 128
        · go_wp2_with fail
          go_ret2
          exact ⟨0, 0, rfl, by omega, rfl⟩
        · by_cases c2 : 191 < (s[k + m].toNat : Int)
          · go_wp2_with fail
            go_ret2
            exact ⟨0, 0, rfl, by omega, rfl⟩
          · go_wp2_with fail
            go_roundw
            case rel => exact ⟨_, m + 1, rfl, rfl, by omega, by omega, by go_num, by trivial⟩
            case measure => simp [intOf]; omega
      · go_wp2_with fail
        all_goals go_ret2
        all_goals first
          | exact ⟨0, 0, rfl, by omega, rfl⟩
          | exact ⟨p, 3, rfl, by omega, rfl⟩

set_option maxRecDepth 100000 in
set_option maxHeartbeats 1000000 in
theorem pt2_4 (s : ByteArray) (k : Nat) (w : World) (hs : s.size ≤ 2147483647) (hk : k < s.size) (h1 : 240 ≤ (s[k].toNat : Int)) (h2 : (s[k].toNat : Int) < 245) : Calls Tryz.prog 37 #[.string s, .int .i64 k] w (AnyP s k w) := by
  have hw : wrap64 (s[k].toNat : Int) = (s[k].toNat : Int) := wrap_byte _
  by_cases h3 : s.size < k + 4
  · go_enter Tryz.func37, Tryz.ntmps37
    go_wp2_with fail
    go_ret2
    exact ⟨0, 0, rfl, by omega, rfl⟩
  · go_enter Tryz.func37, Tryz.ntmps37
    go_wp2_with fail
    go_loopw [4, 5, 8] (fun x z y wr => ∃ (p : Int) (m : Nat), x = .int .i64 p ∧ z = .int .i64 4 ∧ 1 ≤ m ∧ m ≤ 4 ∧ y = .int .i64 ((k + m : Nat) : Int) ∧ w = wr) (fun _ _ y _ => k + 4 - (intOf y).toNat)
    case atStart => exact ⟨_, 1, rfl, rfl, by omega, by omega, by go_num, rfl⟩
    case round =>
      obtain ⟨p, m, rfl, rfl, hm1, hm2, rfl, rfl⟩ := hrel
      clear hw h1 h2
      by_cases hm : m < 4
      · have hlt : k + m < s.size := by omega
        have hw : wrap64 (s[k + m].toNat : Int) = (s[k + m].toNat : Int) := wrap_byte _
        by_cases c1 : (s[k + m].toNat : Int) < 128
        · go_wp2_with fail
          go_ret2
          exact ⟨0, 0, rfl, by omega, rfl⟩
        · by_cases c2 : 191 < (s[k + m].toNat : Int)
          · go_wp2_with fail
            go_ret2
            exact ⟨0, 0, rfl, by omega, rfl⟩
          · go_wp2_with fail
            go_roundw
            case rel => exact ⟨_, m + 1, rfl, rfl, by omega, by omega, by go_num, by trivial⟩
            case measure => simp [intOf]; omega
      · go_wp2_with fail
        all_goals go_ret2
        all_goals first
          | exact ⟨0, 0, rfl, by omega, rfl⟩
          | exact ⟨p, 4, rfl, by omega, rfl⟩

theorem pt2_any (s : ByteArray) (k : Nat) (w : World) (hs : s.size ≤ 2147483647) (hk : k < s.size) : Calls Tryz.prog 37 #[.string s, .int .i64 k] w (AnyP s k w) := by
  by_cases h1 : (s[k].toNat : Int) < 128
  · exact (pt2_lo s k w hs hk h1).mono fun e w' ⟨h, h2⟩ => ⟨_, 1, h, by omega, h2⟩
  · by_cases h2 : (s[k].toNat : Int) < 194
    · exact pt2_no s k w hs hk (by omega) (.inl h2)
    · by_cases h3 : (s[k].toNat : Int) < 224
      · exact pt2_2 s k w hs hk (by omega) h3
      · by_cases h4 : (s[k].toNat : Int) < 240
        · exact pt2_3 s k w hs hk (by omega) h4
        · by_cases h5 : (s[k].toNat : Int) < 245
          · exact pt2_4 s k w hs hk (by omega) h5
          · exact pt2_no s k w hs hk (by omega) (.inr (by omega))

set_option maxHeartbeats 1000000 in
theorem readable_any (s : ByteArray) (w : World) (hs : s.size ≤ 2147483647) : Calls Tryz.prog 25 #[.string s] w (AnyB w) := by
  go_enter Tryz.func25, Tryz.ntmps25
  go_wp2_with fail
  go_loopw [3] (fun x wr => ∃ k : Nat, k ≤ s.size ∧ x = .int .i64 k ∧ w = wr) (fun x _ => s.size - (intOf x).toNat)
  case atStart => exact ⟨0, by omega, rfl, rfl⟩
  case round =>
    obtain ⟨k, hk, rfl, rfl⟩ := hrel
    by_cases hlt : k < s.size
    · go_wp2_with fail
      refine (pt2_any s k _ hs hlt).mono ?_
      rintro e w1 ⟨p, n, rfl, hn, rfl⟩
      by_cases h0 : n = 0
      · have hz : ((n : Int) == 0) = true := beq_iff_eq.2 (by omega)
        have HZ := Lib.hid h0
        clear h0
        go_wp2_with fail
        go_ret
        exact ⟨_, rfl, rfl⟩
      · have hz : ((n : Int) == 0) = false := beq_eq_false_iff_ne.2 (by omega)
        cases hp : (p == 0)
        · cases hq : (p == 65279)
          · go_wp2_with fail
            go_roundw
            case rel => exact ⟨k + n, by omega, by go_num, by trivial⟩
            case measure => simp [intOf]; omega
          · go_wp2_with fail
            go_ret
            exact ⟨_, rfl, rfl⟩
        · go_wp2_with fail
          go_ret
          exact ⟨_, rfl, rfl⟩
    · go_wp2_with fail
      go_ret
      exact ⟨_, rfl, rfl⟩
end Go.Proofs.YtnibpdmbccfgoaaGreatDoor

namespace Go.Proofs.YtnibpdmbccfgoaaGreatDoor
open Go.RowKit
set_option linter.unusedVariables false

theorem bAt_out {s : ByteArray} {k : Nat} (h : s.size ≤ k) : bAt s k = 0 := by
  unfold bAt
  have : s.get! k = default := by
    show s.data.toList.toArray.getD k default = default
    simp [Array.getD]
    intro h2
    have : s.data.size = s.size := rfl
    omega
  rw [this]; rfl

theorem ext2 {s : ByteArray} {k : Nat} (h : k + 2 ≤ s.size) (a b : UInt8) : s.extract k (k + 2) = ⟨#[a, b]⟩ ↔ s[k] = a ∧ s[k + 1] = b := by
  have hs : (s.extract k (k + 2)).size = 2 := by rw [ByteArray.size_extract]; omega
  constructor
  · intro e
    have h0 : (s.extract k (k + 2))[0]'(by omega) = s[k] := by rw [ByteArray.getElem_extract]; simp
    have h1 : (s.extract k (k + 2))[1]'(by omega) = s[k + 1] := by rw [ByteArray.getElem_extract]
    constructor
    · rw [← h0]; simp only [e]; rfl
    · rw [← h1]; simp only [e]; rfl
  · rintro ⟨rfl, rfl⟩
    apply ByteArray.ext
    apply Array.ext
    · have : (s.extract k (k + 2)).data.size = 2 := hs
      rw [this]; rfl
    · intro i h1 h2
      have h3 : i < 2 := h2
      have : i = 0 ∨ i = 1 := by omega
      rcases this with rfl | rfl
      · have : (s.extract k (k + 2))[0]'(by omega) = s[k + 0] := ByteArray.getElem_extract ..
        exact this
      · have : (s.extract k (k + 2))[1]'(by omega) = s[k + 1] := ByteArray.getElem_extract ..
        exact this

theorem tl_beq (a b : ByteArray) : (a.toList == b.toList) = decide (a = b) := by
  rw [Bool.eq_iff_iff, decide_eq_true_eq, beq_iff_eq]
  constructor
  · intro h
    rw [ByteArray.toList_eq, ByteArray.toList_eq] at h
    cases a; cases b
    congr 1
    exact Array.toList_inj.1 h
  · rintro rfl; rfl

theorem u8_nat {x : UInt8} {n : Nat} (h : n < 256) : x = UInt8.ofNat n ↔ x.toNat = n := by
  constructor
  · rintro rfl; simp; omega
  · intro e; rw [← e]; simp

def RdN (v : Value) (w : World) (e : Ending) (w' : World) : Prop := e = .returned v ∧ ∃ q, w' = w.drewN q

/-- The reader in memory. -/
structure RdAt (s : ByteArray) (g k : Nat) (w : World) : Prop where
  s_ : w.cell? ⟨g, 0, none⟩ = some (.string s)
  at_ : w.cell? ⟨g, 1, none⟩ = some (.int .i64 (k : Int))

def StB (b : Bool) (w : World) (e : Ending) (w' : World) : Prop := e = .returned (.bool b) ∧ w = w'

def crlf : ByteArray := ⟨#[13, 10]⟩
def isCrlf (s : ByteArray) (k : Nat) : Bool := decide (k + 1 < s.size ∧ bAt s k = 13 ∧ bAt s (k + 1) = 10)

def hxI (c : Nat) : Int := if isHx c then (hxD c : Int) else -1

end Go.Proofs.YtnibpdmbccfgoaaGreatDoor
