/- FnLower: the law's walk. -/
import Derived.Test.YtflafpkbmmnpaaaA
namespace Go.Proofs.Ytflafpkbmmnpaaa
open Go.RowKit

theorem size_lowS (s : ByteArray) : (lowS s).size = s.size := by
  show (lowS s).data.size = _
  simp [lowS]

theorem low_idem (s : ByteArray) : lowS (lowS s) = lowS s := by
  unfold lowS
  congr 1
  simp only [List.map_map]
  congr 1
  apply List.map_congr_left
  intro b _
  show Lib.lowerB (Lib.lowerB b) = Lib.lowerB b
  by_cases h : Lib.isUpperB b = true
  · have h2 := Lib.lowerB_int b h
    rw [Lib.lowerB, if_pos h] at h2
    have h3 : Lib.isUpperB (b + 32) = false := by
      have hb : 65 ≤ b.toNat := by
        simp only [Lib.isUpperB, Bool.and_eq_true, decide_eq_true_eq] at h
        have := UInt8.le_iff_toNat_le.1 h.1
        simpa using this
      rw [Lib.isUpperB_int, h2]
      simp; omega
    have e : Lib.lowerB b = b + 32 := by simp [Lib.lowerB, h]
    rw [e]
    simp [Lib.lowerB, h3]
  · have e : Lib.lowerB b = b := by simp [Lib.lowerB, h]
    rw [e, e]

set_option maxHeartbeats 400000 in
theorem cLower_any (s : ByteArray) (w : World) (hs : s.size ≤ 2147483647) :
    Calls Try.prog 12 #[.string s] w fun e w' => e = .returned (.string (lowS s)) ∧ Below w.heap.size w w' := by
  go_enter Try.func12, Try.ntmps12
  go_wp2_with (go_at_call 17; refine (toLower_any _ _ hs).mono ?_; rintro e w' ⟨rfl, hb⟩)
  go_ret
  exact ⟨rfl, hb⟩

set_option maxHeartbeats 400000 in
theorem iLower_any (s : ByteArray) (w : World) (hs : s.size ≤ 2147483647) :
    Calls Try.prog 5 #[.string s] w fun e w' => e = .returned (.string (lowS s)) ∧ Below w.heap.size w w' := by
  go_enter Try.func5, Try.ntmps5
  go_wp2_with (go_at_call 12; refine (cLower_any _ _ hs).mono ?_; rintro e w' ⟨rfl, hb⟩)
  go_ret
  exact ⟨rfl, hb⟩

set_option maxHeartbeats 400000 in
theorem FnLower_walk (a0 : ByteArray) (w : World) (_h : a0.size ≤ maxLen) :
    Calls Try.prog 3 #[.string a0] w fun e w' => e = .returned (.bool true) ∧ Below w.heap.size w w' := by
  by_cases h1 : 2147483647 < a0.size
  · go_enter Try.func3, Try.ntmps3
    go_wp2
    go_ret
    exact ⟨rfl, Below.refl _ _⟩
  · by_cases h2 : 1000 < a0.size
    · go_enter Try.func3, Try.ntmps3
      go_wp2
      go_ret
      exact ⟨rfl, Below.refl _ _⟩
    · have hl := size_lowS a0
      have hl' : (lowS a0).size ≤ 2147483647 := by omega
      clear hl
      go_enter Try.func3, Try.ntmps3
      go_wp2_with fail
      refine (iLower_any _ _ (by omega)).mono ?_
      rintro e w1 ⟨rfl, hb1⟩
      go_wp2_with fail
      refine (specLower_any _ _ (by omega)).mono ?_
      rintro e w2 ⟨rfl, hb2⟩
      go_wp2_with fail
      refine (iLower_any _ _ (by omega)).mono ?_
      rintro e w3 ⟨rfl, hb3⟩
      go_wp2_with fail
      refine (iLower_any _ _ hl').mono ?_
      rintro e w4 ⟨rfl, hb4⟩
      go_wp2_with fail
      refine (iLower_any _ _ (by omega)).mono ?_
      rintro e w5 ⟨rfl, hb5⟩
      go_wp2_with fail
      go_ret
      exact ⟨by rw [low_idem]; simp, hb1.trans (((hb2.mono hb1.size).trans (hb3.mono (by have := hb1.size; have := hb2.size; omega))).trans ((hb4.mono (by have := hb1.size; have := hb2.size; have := hb3.size; omega)).trans (hb5.mono (by have := hb1.size; have := hb2.size; have := hb3.size; have := hb4.size; omega))))⟩
end Go.Proofs.Ytflafpkbmmnpaaa
