/- A text written as a string: spec.escapeOf, spec.Quoted. -/
import Derived.Test.YtkdfdfhejibopaaDoorT410
import Derived.Test.YtkdfdfhejibopaaDoorT411
namespace Go.Proofs.YtkdfdfhejibopaaDoor
open Go.RowKit
set_option linter.unusedVariables false

def digB : ByteArray := ⟨#[48, 49, 50, 51, 52, 53, 54, 55, 56, 57, 97, 98, 99, 100, 101, 102]⟩
theorem dig_at {d : Nat} (h : d < 16) : digB.extract d (d + 1) = bOf [hxB d] := by
  have : ∀ d : Fin 16, digB.extract d.val (d.val + 1) = bOf [hxB d.val] := by decide +kernel
  exact this ⟨d, h⟩

def EscSt (c x : Nat) (O : ByteArray) : Prop :=
  (x = c ∧ O = bOf []) ∨ (x = c / 16 ∧ 0 < c ∧ O = bOf [hxB (c % 16)]) ∨ (x = 0 ∧ 16 ≤ c ∧ O = bOf [hxB (c / 16), hxB (c % 16)])
theorem EscSt.step {c x : Nat} {O : ByteArray} (h : EscSt c x O) (hx : 0 < x) (hc : c < 256) : EscSt c (x / 16) (bOf [hxB (x % 16)] ++ O) := by
  rcases h with ⟨rfl, rfl⟩ | ⟨h1, h2, rfl⟩ | ⟨h1, _⟩
  · exact .inr (.inl ⟨rfl, hx, by rw [bOf_app]; rfl⟩)
  · subst h1
    refine .inr (.inr ⟨by omega, by omega, ?_⟩)
    rw [bOf_app, Nat.mod_eq_of_lt (by omega : c / 16 < 16)]
    rfl
  · omega
theorem EscSt.fin {c : Nat} {O : ByteArray} (h : EscSt c 0 O) (hc : 1 ≤ c) : O = bOf (hxS c) := by
  unfold hxS
  rcases h with ⟨h1, _⟩ | ⟨h1, h2, rfl⟩ | ⟨_, h2, rfl⟩
  · omega
  · rw [if_neg (by omega), if_pos (by omega), Nat.mod_eq_of_lt (by omega)]
  · rw [if_neg (by omega), if_neg (by omega)]
theorem EscSt.len {c x : Nat} {O : ByteArray} (h : EscSt c x O) : O.size ≤ 2 := by
  rcases h with ⟨_, rfl⟩ | ⟨_, _, rfl⟩ | ⟨_, _, rfl⟩ <;> (rw [bOf_size]; simp)

def StrP (X : ByteArray) (w : World) (e : Ending) (w' : World) : Prop := e = .returned (.string X) ∧ w = w'

set_option maxRecDepth 100000 in
set_option maxHeartbeats 2000000 in
theorem escapeOf_any (c : Nat) (h1 : 1 ≤ c) (h2 : c < 256) (w : World) : Calls Tryd.prog 18 #[.int .i64 (c : Int)] w (StrP (bOf (92 :: (hxS c ++ [32]))) w) := by
  go_enter Tryd.func18, Tryd.ntmps18
  go_wp2_with fail
  go_loopw [0, 3] (fun vx vo wr => ∃ (x : Nat) (O : ByteArray), vx = .int .i64 (x : Int) ∧ vo = .string O ∧ x < 256 ∧ O.size ≤ 2 ∧ Hid (EscSt c x O) ∧ w = wr) (fun vx _ _ => (intOf vx).toNat)
  case atStart => exact ⟨c, ByteArray.empty, rfl, rfl, h2, by decide, .inl ⟨rfl, rfl⟩, rfl⟩
  case round =>
    obtain ⟨x, O, rfl, rfl, hx, hO, HS, rfl⟩ := hrel
    by_cases h0 : 0 < x
    · have HD := Lib.hid (dig_at (d := x % 16) (by omega))
      have HS2 := Lib.hid (HS.out.step h0 h2)
      have hm : x % 16 < 16 := by omega
      go_wp2_with fail
      go_roundw
      case rel => exact ⟨x / 16, _, by go_num, rfl, by omega, by
        have := HS2.out.len
        rw [← HD.out] at this
        exact this, by
        have := HS2.out
        rw [← HD.out] at this
        exact this, by trivial⟩
      case measure => simp [intOf]; omega
    · obtain rfl : x = 0 := by omega
      have HF := Lib.hid (HS.out.fin h1)
      go_wp2_with fail
      go_ret
      refine ⟨?_, rfl⟩
      rw [HF.out]
      show Ending.returned (.string (bOf [92] ++ bOf (hxS c) ++ bOf [32])) = _
      rw [bOf_app, bOf_app]
      rfl

theorem encQ_len (b : UInt8) : (encQ b).length ≤ 4 := by
  unfold encQ hxS
  split
  · split
    · simp
    · split <;> simp
  · split <;> simp

theorem take_snoc (s : ByteArray) (k : Nat) (h : k < s.size) : s.data.toList.take (k + 1) = s.data.toList.take k ++ [s[k]] := by
  rw [List.take_succ_eq_append_getElem (by simpa using h)]; rfl
theorem one_extract (s : ByteArray) (k : Nat) (h : k < s.size) : s.extract k (k + 1) = bOf [s[k]] := by
  have e := bOf_data s
  have hl : s.data.toList.length = s.size := by rw [Array.length_toList]; rfl
  conv => lhs; rw [← e]
  rw [bOf_extract _ _ _ (by omega), take_snoc s k h, List.drop_append]
  simp [hl, Nat.min_eq_left (Nat.le_of_lt h)]

def encT (s : ByteArray) (k : Nat) : List UInt8 := 34 :: encL (s.data.toList.take k)
theorem encT_succ (s : ByteArray) (k : Nat) (h : k < s.size) : encT s (k + 1) = encT s k ++ encQ s[k] := by
  unfold encT
  rw [take_snoc s k h, encL_app, encL_cons, encL_nil, List.append_nil]
  rfl
theorem encT_len (s : ByteArray) : ∀ k, k ≤ s.size → (encT s k).length ≤ 1 + 4 * k
  | 0, _ => by simp [encT, encL]
  | k + 1, h => by
    have h1 := encT_len s k (by omega)
    have h2 := encQ_len s[k]
    rw [encT_succ s k (by omega), List.length_append]
    omega

set_option maxRecDepth 100000 in
set_option maxHeartbeats 4000000 in
theorem quoted_any (s : ByteArray) (w : World) (hs : s.size ≤ 1000) (hz : NoZ s s.size) : Calls Tryd.prog 9 #[.string s] w (StrP (bOf (encT s s.size ++ [34])) w) := by
  have HZ := Lib.hid hz
  clear hz
  go_enter Tryd.func9, Tryd.ntmps9
  go_wp2_with fail
  go_loopw [3, 4] (fun vo vi wr => ∃ (k : Nat) (O : ByteArray), vi = .int .i64 (k : Int) ∧ vo = .string O ∧ k ≤ s.size ∧ O.size ≤ 5000 ∧ Hid (O = bOf (encT s k)) ∧ w = wr) (fun _ vi _ => s.size - (intOf vi).toNat)
  case atStart => exact ⟨0, _, rfl, rfl, by omega, by decide, rfl, rfl⟩
  case round =>
    obtain ⟨k, O, rfl, rfl, hk, hO, HO, rfl⟩ := hrel
    by_cases hlt : k < s.size
    · have hw : wrap64 (s[k].toNat : Int) = (s[k].toNat : Int) := wrap_byte _
      have HE : Hid (bOf (encT s (k + 1)) = O ++ bOf (encQ s[k])) := by rw [Hid, encT_succ s k hlt, HO.out, bOf_app]
      have HL : Hid ((bOf (encT s (k + 1))).size ≤ 5000) := by
        have := encT_len s (k + 1) (by omega)
        rw [Hid, bOf_size]; omega
      have hnz : s[k].toNat ≠ 0 := by have := HZ.out k hlt; rwa [bAt_in hlt] at this
      have hlt8 := s[k].toNat_lt
      by_cases hc : s[k].toNat < 32 ∨ s[k].toNat = 127
      · have HQ : Hid (encQ s[k] = 92 :: (hxS s[k].toNat ++ [32])) := by unfold encQ Hid; rw [if_pos]; unfold isCtl; simp; omega
        have HX := Lib.hid (escapeOf_any s[k].toNat (by omega) (by omega) w)
        have hX4 : (bOf (92 :: (hxS s[k].toNat ++ [32]))).size ≤ 4 := by rw [bOf_size, ← HQ.out]; exact encQ_len _
        obtain ⟨X, hX⟩ : ∃ X, X = bOf (92 :: (hxS s[k].toNat ++ [32])) := ⟨_, rfl⟩
        rw [← hX] at HX hX4
        have HXe : Hid (X = bOf (encQ s[k])) := by rw [Hid, HQ.out]; exact hX
        obtain ⟨c, hce⟩ : ∃ c : Nat, c = s[k].toNat := ⟨_, rfl⟩
        clear hX
        have hd : (c < 32) ∨ (32 ≤ c ∧ c = 127) := by omega
        rcases hd with hd | ⟨hd, hd2⟩
        · have q1 : (s[k].toNat : Int) < 32 := by omega
          clear hc hnz hlt8 hd hce
          go_wp2_with fail
          refine HX.out.mono ?_
          rintro e1 w1 ⟨rfl, rfl⟩
          go_wp2_with fail
          go_roundw
          case rel => exact ⟨k + 1, _, by go_num, rfl, by omega, by rw [HXe.out, ← HE.out]; exact HL.out, by rw [Hid, HXe.out, ← HE.out], by trivial⟩
          case measure => simp [intOf]; omega
        · have q1 : 32 ≤ (s[k].toNat : Int) := by omega
          have q2 : ((s[k].toNat : Int) == 127) = true := beq_iff_eq.2 (by omega)
          clear hc hnz hlt8 hd hd2 hce
          go_wp2_with fail
          refine HX.out.mono ?_
          rintro e1 w1 ⟨rfl, rfl⟩
          go_wp2_with fail
          go_roundw
          case rel => exact ⟨k + 1, _, by go_num, rfl, by omega, by rw [HXe.out, ← HE.out]; exact HL.out, by rw [Hid, HXe.out, ← HE.out], by trivial⟩
          case measure => simp [intOf]; omega
      · have q1 : 32 ≤ (s[k].toNat : Int) := by omega
        have q2 : ((s[k].toNat : Int) == 127) = false := beq_eq_false_iff_ne.2 (by omega)
        have hctl : isCtl s[k].toNat = false := by unfold isCtl; simp; omega
        have HX := Lib.hid (one_extract s k hlt)
        have hXs : (s.extract k (k + 1)).size = 1 := by rw [HX.out, bOf_size]; rfl
        obtain ⟨X, hX⟩ : ∃ X, X = s.extract k (k + 1) := ⟨_, rfl⟩
        have hX1 : (s.extract k (k + 1)).size ≤ 1 := by omega
        have hX2 : (ByteArray.mk #[92] ++ s.extract k (k + 1)).size ≤ 2 := by rw [ByteArray.size_append, hXs]; decide
        clear hXs hX
        by_cases h34 : s[k].toNat = 34
        · have q3 : ((s[k].toNat : Int) == 34) = true := beq_iff_eq.2 (by omega)
          have HQ : Hid (bOf (encQ s[k]) = ByteArray.mk #[92] ++ s.extract k (k + 1)) := by
            unfold encQ Hid
            rw [hctl, if_neg (by simp), if_pos (by unfold isQu; simp [h34]), HX.out]
            show _ = bOf [92] ++ bOf [s[k]]
            rw [bOf_app]; rfl
          clear hc hnz hlt8 hctl h34
          go_wp2_with fail
          go_roundw
          case rel => exact ⟨k + 1, _, by go_num, rfl, by omega, by rw [← HQ.out, ← HE.out]; exact HL.out, by rw [Hid, ← HQ.out, ← HE.out], by trivial⟩
          case measure => simp [intOf]; omega
        · have q3 : ((s[k].toNat : Int) == 34) = false := beq_eq_false_iff_ne.2 (by omega)
          by_cases h92 : s[k].toNat = 92
          · have q4 : ((s[k].toNat : Int) == 92) = true := beq_iff_eq.2 (by omega)
            have HQ : Hid (bOf (encQ s[k]) = ByteArray.mk #[92] ++ s.extract k (k + 1)) := by
              unfold encQ Hid
              rw [hctl, if_neg (by simp), if_pos (by unfold isQu; simp [h92]), HX.out]
              show _ = bOf [92] ++ bOf [s[k]]
              rw [bOf_app]; rfl
            clear hc hnz hlt8 hctl h34 h92
            go_wp2_with fail
            go_roundw
            case rel => exact ⟨k + 1, _, by go_num, rfl, by omega, by rw [← HQ.out, ← HE.out]; exact HL.out, by rw [Hid, ← HQ.out, ← HE.out], by trivial⟩
            case measure => simp [intOf]; omega
          · have q4 : ((s[k].toNat : Int) == 92) = false := beq_eq_false_iff_ne.2 (by omega)
            have HQ : Hid (bOf (encQ s[k]) = s.extract k (k + 1)) := by
              unfold encQ Hid
              rw [hctl, if_neg (by simp), if_neg (by unfold isQu; simp [h34, h92]), HX.out]
            clear hc hnz hlt8 hctl h34 h92
            go_wp2_with fail
            go_roundw
            case rel => exact ⟨k + 1, _, by go_num, rfl, by omega, by rw [← HQ.out, ← HE.out]; exact HL.out, by rw [Hid, ← HQ.out, ← HE.out], by trivial⟩
            case measure => simp [intOf]; omega
    · obtain rfl : k = s.size := by omega
      go_wp2_with fail
      go_ret
      refine ⟨?_, rfl⟩
      rw [HO.out]
      show Ending.returned (.string (bOf (encT s s.size) ++ bOf [34])) = _
      rw [bOf_app]
end Go.Proofs.YtkdfdfhejibopaaDoor
