/- Strings, names and numbers as spec writes them: spec.escapeOf, Quoted, Named, decimal, signed, Counted, signsOf. -/
import Derived.Test.YtnibpdmbccfgoaaGreatDoorJ10
import Derived.Deep.LoopGhost
namespace Go.Proofs.YtnibpdmbccfgoaaGreatDoor
open Go.RowKit
set_option linter.unusedVariables false

def digB : ByteArray := ⟨#[48, 49, 50, 51, 52, 53, 54, 55, 56, 57, 97, 98, 99, 100, 101, 102]⟩
theorem dig_at {d : Nat} (h : d < 16) : digB.extract d (d + 1) = bOf [hxB d] := by
  have : ∀ d : Fin 16, digB.extract d.val (d.val + 1) = bOf [hxB d.val] := by decide +kernel
  exact this ⟨d, h⟩

def EscSt (c x : Nat) (O : ByteArray) : Prop :=
  (x = c ∧ O = bOf []) ∨ (x = c / 16 ∧ 0 < c ∧ O = bOf [hxB (c % 16)]) ∨ (x = 0 ∧ 16 ≤ c ∧ O = bOf [hxB (c / 16), hxB (c % 16)])
theorem EscSt.step {c x : Nat} {O : ByteArray} (h : EscSt c x O) (hx : 0 < x) (hc : c < 256) : EscSt c (x / 16) (bOf [hxB (x % 16)] ++ O) := by
  rcases h with ⟨rfl, rfl⟩ | ⟨h1, h2, rfl⟩ | ⟨h1, _⟩
  · exact .inr (.inl ⟨rfl, hx, by rw [bOf_app]; rfl⟩)
  · subst h1
    refine .inr (.inr ⟨by omega, by omega, ?_⟩)
    rw [bOf_app, Nat.mod_eq_of_lt (by omega : c / 16 < 16)]
    rfl
  · omega
theorem EscSt.fin {c : Nat} {O : ByteArray} (h : EscSt c 0 O) : O = bOf (hxS c) := by
  unfold hxS
  rcases h with ⟨h1, rfl⟩ | ⟨h1, h2, rfl⟩ | ⟨_, h2, rfl⟩
  · rw [if_pos h1.symm]
  · rw [if_neg (by omega), if_pos (by omega), Nat.mod_eq_of_lt (by omega)]
  · rw [if_neg (by omega), if_neg (by omega)]
theorem EscSt.len {c x : Nat} {O : ByteArray} (h : EscSt c x O) : O.size ≤ 2 := by
  rcases h with ⟨_, rfl⟩ | ⟨_, _, rfl⟩ | ⟨_, _, rfl⟩ <;> (rw [bOf_size]; simp)

def StrP (X : ByteArray) (w : World) (e : Ending) (w' : World) : Prop := e = .returned (.string X) ∧ w = w'

set_option maxRecDepth 100000 in
set_option maxHeartbeats 2000000 in
theorem escapeOf_any (c : Nat) (h2 : c < 256) (w : World) : Calls Tryz.prog 45 #[.int .i64 (c : Int)] w (StrP (bOf (92 :: (hxS c ++ [32]))) w) := by
  go_enter Tryz.func45, Tryz.ntmps45
  go_wp2_with fail
  go_loopw [0, 3] (fun vx vo wr => ∃ (x : Nat) (O : ByteArray), vx = .int .i64 (x : Int) ∧ vo = .string O ∧ x < 256 ∧ O.size ≤ 2 ∧ Hid (EscSt c x O) ∧ w = wr) (fun vx _ _ => (intOf vx).toNat)
  case atStart => exact ⟨c, ByteArray.empty, rfl, rfl, h2, by decide, .inl ⟨rfl, rfl⟩, rfl⟩
  case round =>
    obtain ⟨x, O, rfl, rfl, hx, hO, HS, rfl⟩ := hrel
    by_cases h0 : 0 < x
    · have HD := Lib.hid (dig_at (d := x % 16) (by omega))
      have HS2 := Lib.hid (HS.out.step h0 h2)
      have hm : x % 16 < 16 := by omega
      go_wp2_with fail
      go_roundw
      case rel => exact ⟨x / 16, _, by go_num, rfl, by omega, by
        have := HS2.out.len
        rw [← HD.out] at this
        exact this, by
        have := HS2.out
        rw [← HD.out] at this
        exact this, by trivial⟩
      case measure => simp [intOf]; omega
    · obtain rfl : x = 0 := by omega
      have HF := Lib.hid HS.out.fin
      go_wp2_with fail
      go_ret
      refine ⟨?_, rfl⟩
      rw [HF.out]
      show Ending.returned (.string (bOf [92] ++ bOf (hxS c) ++ bOf [32])) = _
      rw [bOf_app, bOf_app]
      rfl

theorem encQ_len (b : UInt8) : (encQ b).length ≤ 4 := by
  unfold encQ hxS
  split
  · split
    · simp
    · split <;> simp
  · split <;> simp

theorem take_snoc (s : ByteArray) (k : Nat) (h : k < s.size) : s.data.toList.take (k + 1) = s.data.toList.take k ++ [s[k]] := by
  rw [List.take_succ_eq_append_getElem (by simpa using h)]; rfl
theorem one_extract (s : ByteArray) (k : Nat) (h : k < s.size) : s.extract k (k + 1) = bOf [s[k]] := by
  have e := bOf_data s
  have hl : s.data.toList.length = s.size := by rw [Array.length_toList]; rfl
  conv => lhs; rw [← e]
  rw [bOf_extract _ _ _ (by omega), take_snoc s k h, List.drop_append]
  simp [hl, Nat.min_eq_left (Nat.le_of_lt h)]

def encT (s : ByteArray) (k : Nat) : List UInt8 := 34 :: encL (s.data.toList.take k)
theorem encT_succ (s : ByteArray) (k : Nat) (h : k < s.size) : encT s (k + 1) = encT s k ++ encQ s[k] := by
  unfold encT
  rw [take_snoc s k h, encL_app, encL_cons, encL_nil, List.append_nil]
  rfl
theorem encT_len (s : ByteArray) : ∀ k, k ≤ s.size → (encT s k).length ≤ 1 + 4 * k
  | 0, _ => by simp [encT, encL]
  | k + 1, h => by
    have h1 := encT_len s k (by omega)
    have h2 := encQ_len s[k]
    rw [encT_succ s k (by omega), List.length_append]
    omega

set_option maxRecDepth 100000 in
set_option maxHeartbeats 4000000 in
theorem quoted_any (s : ByteArray) (w : World) (hs : s.size ≤ 1000) : Calls Tryz.prog 35 #[.string s] w (StrP (bOf (encT s s.size ++ [34])) w) := by
  go_enter Tryz.func35, Tryz.ntmps35
  go_wp2_with fail
  go_loopw [3, 4] (fun vo vi wr => ∃ (k : Nat) (O : ByteArray), vi = .int .i64 (k : Int) ∧ vo = .string O ∧ k ≤ s.size ∧ O.size ≤ 5000 ∧ Hid (O = bOf (encT s k)) ∧ w = wr) (fun _ vi _ => s.size - (intOf vi).toNat)
  case atStart => exact ⟨0, _, rfl, rfl, by omega, by decide, rfl, rfl⟩
  case round =>
    obtain ⟨k, O, rfl, rfl, hk, hO, HO, rfl⟩ := hrel
    by_cases hlt : k < s.size
    · have hw : wrap64 (s[k].toNat : Int) = (s[k].toNat : Int) := wrap_byte _
      have HE : Hid (bOf (encT s (k + 1)) = O ++ bOf (encQ s[k])) := by rw [Hid, encT_succ s k hlt, HO.out, bOf_app]
      have HL : Hid ((bOf (encT s (k + 1))).size ≤ 5000) := by
        have := encT_len s (k + 1) (by omega)
        rw [Hid, bOf_size]; omega
      have hlt8 := s[k].toNat_lt
      by_cases hc : s[k].toNat < 32 ∨ s[k].toNat = 127
      · have HQ : Hid (encQ s[k] = 92 :: (hxS s[k].toNat ++ [32])) := by unfold encQ Hid; rw [if_pos]; unfold isCtl; simp; omega
        have HX := Lib.hid (escapeOf_any s[k].toNat (by omega) w)
        have hX4 : (bOf (92 :: (hxS s[k].toNat ++ [32]))).size ≤ 4 := by rw [bOf_size, ← HQ.out]; exact encQ_len _
        obtain ⟨X, hX⟩ : ∃ X, X = bOf (92 :: (hxS s[k].toNat ++ [32])) := ⟨_, rfl⟩
        rw [← hX] at HX hX4
        have HXe : Hid (X = bOf (encQ s[k])) := by rw [Hid, HQ.out]; exact hX
        obtain ⟨c, hce⟩ : ∃ c : Nat, c = s[k].toNat := ⟨_, rfl⟩
        clear hX
        have hd : (c < 32) ∨ (32 ≤ c ∧ c = 127) := by omega
        rcases hd with hd | ⟨hd, hd2⟩
        · have q1 : (s[k].toNat : Int) < 32 := by omega
          clear hc hlt8 hd hce
          go_wp2_with fail
          refine HX.out.mono ?_
          rintro e1 w1 ⟨rfl, rfl⟩
          go_wp2_with fail
          go_roundw
          case rel => exact ⟨k + 1, _, by go_num, rfl, by omega, by rw [HXe.out, ← HE.out]; exact HL.out, by rw [Hid, HXe.out, ← HE.out], by trivial⟩
          case measure => simp [intOf]; omega
        · have q1 : 32 ≤ (s[k].toNat : Int) := by omega
          have q2 : ((s[k].toNat : Int) == 127) = true := beq_iff_eq.2 (by omega)
          clear hc hlt8 hd hd2 hce
          go_wp2_with fail
          refine HX.out.mono ?_
          rintro e1 w1 ⟨rfl, rfl⟩
          go_wp2_with fail
          go_roundw
          case rel => exact ⟨k + 1, _, by go_num, rfl, by omega, by rw [HXe.out, ← HE.out]; exact HL.out, by rw [Hid, HXe.out, ← HE.out], by trivial⟩
          case measure => simp [intOf]; omega
      · have q1 : 32 ≤ (s[k].toNat : Int) := by omega
        have q2 : ((s[k].toNat : Int) == 127) = false := beq_eq_false_iff_ne.2 (by omega)
        have hctl : isCtl s[k].toNat = false := by unfold isCtl; simp; omega
        have HX := Lib.hid (one_extract s k hlt)
        have hXs : (s.extract k (k + 1)).size = 1 := by rw [HX.out, bOf_size]; rfl
        obtain ⟨X, hX⟩ : ∃ X, X = s.extract k (k + 1) := ⟨_, rfl⟩
        have hX1 : (s.extract k (k + 1)).size ≤ 1 := by omega
        have hX2 : (ByteArray.mk #[92] ++ s.extract k (k + 1)).size ≤ 2 := by rw [ByteArray.size_append, hXs]; decide
        clear hXs hX
        by_cases h34 : s[k].toNat = 34
        · have q3 : ((s[k].toNat : Int) == 34) = true := beq_iff_eq.2 (by omega)
          have HQ : Hid (bOf (encQ s[k]) = ByteArray.mk #[92] ++ s.extract k (k + 1)) := by
            unfold encQ Hid
            rw [hctl, if_neg (by simp), if_pos (by unfold isQu; simp [h34]), HX.out]
            show _ = bOf [92] ++ bOf [s[k]]
            rw [bOf_app]; rfl
          clear hc hlt8 hctl h34
          go_wp2_with fail
          go_roundw
          case rel => exact ⟨k + 1, _, by go_num, rfl, by omega, by rw [← HQ.out, ← HE.out]; exact HL.out, by rw [Hid, ← HQ.out, ← HE.out], by trivial⟩
          case measure => simp [intOf]; omega
        · have q3 : ((s[k].toNat : Int) == 34) = false := beq_eq_false_iff_ne.2 (by omega)
          by_cases h92 : s[k].toNat = 92
          · have q4 : ((s[k].toNat : Int) == 92) = true := beq_iff_eq.2 (by omega)
            have HQ : Hid (bOf (encQ s[k]) = ByteArray.mk #[92] ++ s.extract k (k + 1)) := by
              unfold encQ Hid
              rw [hctl, if_neg (by simp), if_pos (by unfold isQu; simp [h92]), HX.out]
              show _ = bOf [92] ++ bOf [s[k]]
              rw [bOf_app]; rfl
            clear hc hlt8 hctl h34 h92
            go_wp2_with fail
            go_roundw
            case rel => exact ⟨k + 1, _, by go_num, rfl, by omega, by rw [← HQ.out, ← HE.out]; exact HL.out, by rw [Hid, ← HQ.out, ← HE.out], by trivial⟩
            case measure => simp [intOf]; omega
          · have q4 : ((s[k].toNat : Int) == 92) = false := beq_eq_false_iff_ne.2 (by omega)
            have HQ : Hid (bOf (encQ s[k]) = s.extract k (k + 1)) := by
              unfold encQ Hid
              rw [hctl, if_neg (by simp), if_neg (by unfold isQu; simp [h34, h92]), HX.out]
            clear hc hlt8 hctl h34 h92
            go_wp2_with fail
            go_roundw
            case rel => exact ⟨k + 1, _, by go_num, rfl, by omega, by rw [← HQ.out, ← HE.out]; exact HL.out, by rw [Hid, ← HQ.out, ← HE.out], by trivial⟩
            case measure => simp [intOf]; omega
    · obtain rfl : k = s.size := by omega
      go_wp2_with fail
      go_ret
      refine ⟨?_, rfl⟩
      rw [HO.out]
      show Ending.returned (.string (bOf (encT s s.size) ++ bOf [34])) = _
      rw [bOf_app]
theorem quoted_any2 (s : ByteArray) (w : World) (hs : s.size ≤ 1000) : Calls Tryz.prog 35 #[.string s] w (StrP (bOf (34 :: (encL s.data.toList ++ [34]))) w) := by
  have h := quoted_any s w hs
  have e : encT s s.size ++ [34] = 34 :: (encL s.data.toList ++ [34]) := by
    unfold encT
    rw [List.take_of_length_le (by rw [Array.length_toList]; exact Nat.le_refl _)]; rfl
  rw [e] at h
  exact h

/-- A byte with which a name may begin. -/
def isBg (c : Nat) : Bool := decide (97 ≤ c ∧ c ≤ 122) || decide (65 ≤ c ∧ c ≤ 90) || decide (c = 95) || decide (127 < c)
theorem isBg_iff (c : Nat) : isBg c = true ↔ (97 ≤ c ∧ c ≤ 122) ∨ (65 ≤ c ∧ c ≤ 90) ∨ c = 95 ∨ 127 < c := by
  unfold isBg
  simp only [Bool.or_eq_true, decide_eq_true_eq, or_assoc]
theorem isBg_no (c : Nat) : isBg c = false ↔ ¬ ((97 ≤ c ∧ c ≤ 122) ∨ (65 ≤ c ∧ c ≤ 90) ∨ c = 95 ∨ 127 < c) := by
  rw [← isBg_iff, Bool.not_eq_true]
def BoolP (b : Bool) (w : World) (e : Ending) (w' : World) : Prop := e = .returned (.bool b) ∧ w = w'

set_option maxRecDepth 100000 in
set_option maxHeartbeats 2000000 in
theorem beginByte_any (c : Nat) (hc : c < 256) (w : World) : Calls Tryz.prog 59 #[.int .u8 (c : Int)] w (BoolP (isBg c) w) := by
  have hcases : (128 ≤ c) ∨ (122 < c ∧ c ≤ 127) ∨ (97 ≤ c ∧ c ≤ 122) ∨ (c = 96) ∨ (c = 95) ∨ (90 < c ∧ c < 95) ∨ (65 ≤ c ∧ c ≤ 90) ∨ (57 < c ∧ c < 65) ∨ (c ≤ 57) := by omega
  rcases hcases with h | h | h | h | h | h | h | h | h
  all_goals
    have HV : Hid (isBg c = true ↔ (97 ≤ c ∧ c ≤ 122) ∨ (65 ≤ c ∧ c ≤ 90) ∨ c = 95 ∨ 127 < c) := isBg_iff c
    go_enter Tryz.func59, Tryz.ntmps59
    go_wp2_with fail
    all_goals go_ret
    all_goals exact ⟨ret_b (by rw [Bool.eq_iff_iff, HV.out]; simp; try omega), rfl⟩

set_option maxRecDepth 100000 in
set_option maxHeartbeats 2000000 in
theorem nameByte_any (c : Nat) (hc : c < 256) (w : World) : Calls Tryz.prog 46 #[.int .u8 (c : Int)] w (BoolP (isNm c) w) := by
  have HB := Lib.hid (fun U => beginByte_any c hc U)
  obtain ⟨b, hb⟩ : ∃ b, b = isBg c := ⟨_, rfl⟩
  rw [← hb] at HB
  cases b
  · have h0 := (isBg_no c).1 hb.symm
    have HV : Hid (isNm c = true ↔ c = 45 ∨ (48 ≤ c ∧ c ≤ 57)) := by rw [Hid, isNm_iff]; omega
    clear hb h0
    by_cases h45 : c = 45
    · have m0 : ((c : Int) == 45) = true := beq_iff_eq.2 (by omega)
      have HT : Hid (isNm c = true) := by rw [Hid, HV.out]; exact .inl h45
      clear h45
      go_enter Tryz.func46, Tryz.ntmps46
      go_wp2_with fail
      refine (HB.out _).mono ?_
      rintro e1 w1 ⟨rfl, rfl⟩
      go_wp2_with fail
      go_ret
      exact ⟨ret_b HT.out, rfl⟩
    · have m0 : ((c : Int) == 45) = false := beq_eq_false_iff_ne.2 (by omega)
      have hcases : (57 < c) ∨ (48 ≤ c ∧ c ≤ 57) ∨ c < 48 := by omega
      have HT : Hid (isNm c = true ↔ 48 ≤ c ∧ c ≤ 57) := by rw [Hid, HV.out]; omega
      clear h45
      rcases hcases with h | h | h
      all_goals
        go_enter Tryz.func46, Tryz.ntmps46
        go_wp2_with fail
        refine (HB.out _).mono ?_
        rintro e1 w1 ⟨rfl, rfl⟩
        go_wp2_with fail
        all_goals go_ret
        all_goals exact ⟨ret_b (by rw [Bool.eq_iff_iff, HT.out]; simp; try omega), rfl⟩
  · have h0 := (isBg_iff c).1 hb.symm
    have HV : Hid (isNm c = true) := by rw [Hid, isNm_iff]; omega
    clear hb h0
    go_enter Tryz.func46, Tryz.ntmps46
    go_wp2_with fail
    refine (HB.out _).mono ?_
    rintro e1 w1 ⟨rfl, rfl⟩
    go_wp2_with fail
    go_ret
    exact ⟨ret_b HV.out, rfl⟩

/-! Numbers. -/
def digD : ByteArray := ⟨#[48, 49, 50, 51, 52, 53, 54, 55, 56, 57]⟩
theorem digD_at {d : Nat} (h : d < 10) : digD.extract d (d + 1) = bOf [UInt8.ofNat (48 + d)] := by
  have : ∀ d : Fin 10, digD.extract d.val (d.val + 1) = bOf [UInt8.ofNat (48 + d.val)] := by decide +kernel
  exact this ⟨d, h⟩
theorem decL_small {f n : Nat} (h : n < 10) : decL f n = [UInt8.ofNat (48 + n)] := by
  cases f with
  | zero => show dg1 n = _; unfold dg1; rw [Nat.mod_eq_of_lt h]
  | succ f => unfold decL; rw [if_pos h]; unfold dg1; rw [Nat.mod_eq_of_lt h]
theorem dec1_any (f n : Nat) (h : n < 10) (w : World) : Calls Tryz.prog 47 #[.int .i64 (n : Int)] w (StrP (bOf (decL f n)) w) := by
  have HD := Lib.hid (digD_at h)
  have HL := Lib.hid (decL_small (f := f) h)
  go_enter Tryz.func47, Tryz.ntmps47
  go_wp2_with fail
  go_ret
  refine ⟨?_, rfl⟩
  rw [HL.out, ← HD.out]
  rfl
theorem decimal_any : ∀ (f n : Nat) (w : World), n < 10 ^ (f + 1) → f ≤ 3 → Calls Tryz.prog 47 #[.int .i64 (n : Int)] w (StrP (bOf (decL f n)) w)
  | 0, n, w, h, _ => dec1_any 0 n (by simpa using h) w
  | f + 1, n, w, h, hf => by
    by_cases h10 : n < 10
    · exact dec1_any (f + 1) n h10 w
    · have h1 : n / 10 < 10 ^ (f + 1) := by rw [Nat.pow_succ] at h; omega
      have HI : Hid (∀ U, Calls Tryz.prog 47 #[.int .i64 ((n / 10 : Nat) : Int)] U (StrP (bOf (decL f (n / 10))) U)) := fun U => decimal_any f (n / 10) U h1 (by omega)
      have HD : Hid (∀ U, Calls Tryz.prog 47 #[.int .i64 ((n % 10 : Nat) : Int)] U (StrP (bOf [UInt8.ofNat (48 + n % 10)]) U)) := fun U => by
        have := dec1_any 0 (n % 10) (by omega) U
        rw [decL_small (by omega)] at this
        exact this
      have HL : Hid (decL (f + 1) n = decL f (n / 10) ++ [UInt8.ofNat (48 + n % 10)]) := by
        unfold Hid
        conv => lhs; unfold decL
        rw [if_neg h10]; rfl
      have HZ := Lib.hid (decL_len f (n / 10)).2
      obtain ⟨X, hX⟩ : ∃ X, X = bOf (decL f (n / 10)) := ⟨_, rfl⟩
      have hXs : X.size ≤ 4 := by rw [hX, bOf_size]; have := HZ.out; omega
      obtain ⟨Y, hY⟩ : ∃ Y, Y = bOf [UInt8.ofNat (48 + n % 10)] := ⟨_, rfl⟩
      have hYs : Y.size ≤ 1 := by rw [hY, bOf_size]; simp
      rw [← hX] at HI
      rw [← hY] at HD
      have HA : Hid (bOf (decL (f + 1) n) = X ++ Y) := by rw [Hid, HL.out, hX, hY, bOf_app]
      have hn : n ≤ 9999 := by
        have : (10 : Nat) ^ (f + 1 + 1) ≤ 10 ^ 4 := Nat.pow_le_pow_right (by omega) (by omega)
        omega
      rw [show ((n / 10 : Nat) : Int) = (n : Int) / 10 by omega] at HI
      rw [show ((n % 10 : Nat) : Int) = (n : Int) % 10 by omega] at HD
      clear hX hY h h1
      go_enter Tryz.func47, Tryz.ntmps47
      go_wp2_with fail
      refine (HI.out _).mono ?_
      rintro e1 w1 ⟨rfl, rfl⟩
      go_wp2_with fail
      refine (HD.out _).mono ?_
      rintro e2 w2 ⟨rfl, rfl⟩
      go_wp2_with fail
      go_ret
      refine ⟨?_, rfl⟩
      rw [HA.out]; rfl
theorem dec_any (n : Nat) (w : World) (h : n ≤ 9999) : Calls Tryz.prog 47 #[.int .i64 (n : Int)] w (StrP (bOf (decL 3 n)) w) := decimal_any 3 n w (by omega) (Nat.le_refl _)
theorem bOf_cons (a : UInt8) (l : List UInt8) : bOf (a :: l) = bOf [a] ++ bOf l := by rw [bOf_app]; rfl
theorem signed_any (n : Int) (w : World) (h1 : -9999 ≤ n) (h2 : n ≤ 9999) : Calls Tryz.prog 48 #[.int .i64 n] w (StrP (bOf (signL n)) w) := by
  have HD : Hid (∀ U, Calls Tryz.prog 47 #[.int .i64 (n.natAbs : Int)] U (StrP (bOf (decL 3 n.natAbs)) U)) := fun U => dec_any n.natAbs U (by omega)
  have hl := (decL_len 3 n.natAbs).2
  obtain ⟨X, hX⟩ : ∃ X, X = bOf (decL 3 n.natAbs) := ⟨_, rfl⟩
  have hXs : X.size ≤ 4 := by rw [hX, bOf_size]; omega
  rw [← hX] at HD
  by_cases c : n < 0
  · have HA : Hid (bOf (signL n) = bOf [45] ++ X) := by unfold signL Hid; rw [if_pos c, bOf_cons, hX]
    rw [show (n.natAbs : Int) = -n by omega] at HD
    clear hX hl
    go_enter Tryz.func48, Tryz.ntmps48
    go_wp2_with fail
    refine (HD.out _).mono ?_
    rintro e1 w1 ⟨rfl, rfl⟩
    go_wp2_with fail
    go_ret
    refine ⟨?_, rfl⟩
    rw [HA.out]; rfl
  · have HA : Hid (bOf (signL n) = bOf [43] ++ X) := by unfold signL Hid; rw [if_neg c, bOf_cons, hX]
    rw [show (n.natAbs : Int) = n by omega] at HD
    clear hX hl
    go_enter Tryz.func48, Tryz.ntmps48
    go_wp2_with fail
    refine (HD.out _).mono ?_
    rintro e1 w1 ⟨rfl, rfl⟩
    go_wp2_with fail
    go_ret
    refine ⟨?_, rfl⟩
    rw [HA.out]; rfl
theorem counted_any (a b : Int) (w : World) (h1 : -9999 ≤ a) (h2 : a ≤ 9999) (h3 : -9999 ≤ b) (h4 : b ≤ 9999) : Calls Tryz.prog 36 #[.int .i64 a, .int .i64 b] w (StrP (bOf (cntL a b)) w) := by
  have HD : Hid (∀ U, Calls Tryz.prog 47 #[.int .i64 (a.natAbs : Int)] U (StrP (bOf (decL 3 a.natAbs)) U)) := fun U => dec_any a.natAbs U (by omega)
  have HS : Hid (∀ U, Calls Tryz.prog 48 #[.int .i64 b] U (StrP (bOf (signL b)) U)) := fun U => signed_any b U h3 h4
  have hl := (decL_len 3 a.natAbs).2
  have hl2 := (signL_len b).2
  obtain ⟨X, hX⟩ : ∃ X, X = bOf (decL 3 a.natAbs) := ⟨_, rfl⟩
  obtain ⟨Y, hY⟩ : ∃ Y, Y = bOf (signL b) := ⟨_, rfl⟩
  have hXs : X.size ≤ 4 := by rw [hX, bOf_size]; omega
  have hYs : Y.size ≤ 5 := by rw [hY, bOf_size]; omega
  rw [← hX] at HD
  rw [← hY] at HS
  by_cases c : a < 0
  · have HA : Hid (bOf (cntL a b) = bOf [45] ++ X ++ bOf [110] ++ Y) := by
      unfold cntL Hid; rw [if_pos c, hX, hY, bOf_app, bOf_app, bOf_app]; congr 1; simp
    rw [show (a.natAbs : Int) = -a by omega] at HD
    clear hX hY hl hl2
    go_enter Tryz.func36, Tryz.ntmps36
    go_wp2_with fail
    refine (HD.out _).mono ?_
    rintro e1 w1 ⟨rfl, rfl⟩
    go_wp2_with fail
    refine (HS.out _).mono ?_
    rintro e1 w1 ⟨rfl, rfl⟩
    go_wp2_with fail
    go_ret
    refine ⟨?_, rfl⟩
    rw [HA.out]; rfl
  · have HA : Hid (bOf (cntL a b) = X ++ bOf [110] ++ Y) := by
      unfold cntL Hid; rw [if_neg c, hX, hY, bOf_app, bOf_app]; congr 1; simp
    rw [show (a.natAbs : Int) = a by omega] at HD
    clear hX hY hl hl2
    go_enter Tryz.func36, Tryz.ntmps36
    go_wp2_with fail
    refine (HD.out _).mono ?_
    rintro e1 w1 ⟨rfl, rfl⟩
    go_wp2_with fail
    refine (HS.out _).mono ?_
    rintro e1 w1 ⟨rfl, rfl⟩
    go_wp2_with fail
    go_ret
    refine ⟨?_, rfl⟩
    rw [HA.out]; rfl
end Go.Proofs.YtnibpdmbccfgoaaGreatDoor
