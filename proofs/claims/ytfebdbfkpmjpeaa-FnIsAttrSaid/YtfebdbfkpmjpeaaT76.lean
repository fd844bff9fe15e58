/- White space by the program's own helpers (cascadia). -/
import Derived.Test.YtfebdbfkpmjpeaaT60
import Derived.Laws.RangeAny
import Derived.Lib.OthersKept
namespace Go.Proofs.Ytfebdbfkpmjpeaa
open Go.RowKit
set_option linter.unusedVariables false

set_option maxRecDepth 100000 in
set_option maxHeartbeats 1000000 in
theorem sp_yes_c (r : Nat) (w : World) (h : isSp r = true) : Calls Try.prog 235 #[.int .i32 r] w fun e w' => e = .returned (.bool true) ∧ w = w' := by
  have hc : (r = 9 ∨ r = 10 ∨ r = 11 ∨ r = 12 ∨ r = 13) ∨ (8192 ≤ r ∧ r ≤ 8202) ∨ r = 32 ∨ r = 133 ∨ r = 160 ∨ r = 5760 ∨ r = 8232 ∨ r = 8233 ∨ r = 8239 ∨ r = 8287 ∨ r = 12288 := by
    rw [isSp_iff] at h; omega
  rcases hc with (rfl | rfl | rfl | rfl | rfl) | hc | rfl | rfl | rfl | rfl | rfl | rfl | rfl | rfl | rfl
  case inr.inl =>
    obtain ⟨h1, h2⟩ := hc
    have z9 : ((r : Int) == 9) = false := beq_eq_false_iff_ne.2 (by omega)
    have z10 : ((r : Int) == 10) = false := beq_eq_false_iff_ne.2 (by omega)
    have z11 : ((r : Int) == 11) = false := beq_eq_false_iff_ne.2 (by omega)
    have z12 : ((r : Int) == 12) = false := beq_eq_false_iff_ne.2 (by omega)
    have z13 : ((r : Int) == 13) = false := beq_eq_false_iff_ne.2 (by omega)
    have z32 : ((r : Int) == 32) = false := beq_eq_false_iff_ne.2 (by omega)
    have z133 : ((r : Int) == 133) = false := beq_eq_false_iff_ne.2 (by omega)
    have z160 : ((r : Int) == 160) = false := beq_eq_false_iff_ne.2 (by omega)
    have z5760 : ((r : Int) == 5760) = false := beq_eq_false_iff_ne.2 (by omega)
    have z8232 : ((r : Int) == 8232) = false := beq_eq_false_iff_ne.2 (by omega)
    have z8233 : ((r : Int) == 8233) = false := beq_eq_false_iff_ne.2 (by omega)
    have z8239 : ((r : Int) == 8239) = false := beq_eq_false_iff_ne.2 (by omega)
    have z8287 : ((r : Int) == 8287) = false := beq_eq_false_iff_ne.2 (by omega)
    have z12288 : ((r : Int) == 12288) = false := beq_eq_false_iff_ne.2 (by omega)
    have y1 : decide ((8192 : Int) ≤ (r : Int)) = true := by simp; omega
    have y2 : decide ((r : Int) ≤ 8202) = true := by simp; omega
    clear h
    go_enter Try.func235, Try.ntmps235
    go_wp2_with fail
    go_ret
    exact ⟨rfl, rfl⟩
  all_goals
    clear h
    go_enter Try.func235, Try.ntmps235
    go_wp2_with fail
    go_ret
    exact ⟨rfl, rfl⟩

set_option maxRecDepth 100000 in
set_option maxHeartbeats 1000000 in
theorem sp_no_c (r : Nat) (w : World) (h : isSp r = false) : Calls Try.prog 235 #[.int .i32 r] w fun e w' => e = .returned (.bool false) ∧ w = w' := by
  have hn : ¬ ((9 ≤ r ∧ r ≤ 13) ∨ r = 32 ∨ r = 133 ∨ r = 160 ∨ r = 5760 ∨ (8192 ≤ r ∧ r ≤ 8202) ∨ r = 8232 ∨ r = 8233 ∨ r = 8239 ∨ r = 8287 ∨ r = 12288) := by
    rw [← isSp_iff, h]; simp
  have z9 : ((r : Int) == 9) = false := beq_eq_false_iff_ne.2 (by omega)
  have z10 : ((r : Int) == 10) = false := beq_eq_false_iff_ne.2 (by omega)
  have z11 : ((r : Int) == 11) = false := beq_eq_false_iff_ne.2 (by omega)
  have z12 : ((r : Int) == 12) = false := beq_eq_false_iff_ne.2 (by omega)
  have z13 : ((r : Int) == 13) = false := beq_eq_false_iff_ne.2 (by omega)
  have z32 : ((r : Int) == 32) = false := beq_eq_false_iff_ne.2 (by omega)
  have z133 : ((r : Int) == 133) = false := beq_eq_false_iff_ne.2 (by omega)
  have z160 : ((r : Int) == 160) = false := beq_eq_false_iff_ne.2 (by omega)
  have z5760 : ((r : Int) == 5760) = false := beq_eq_false_iff_ne.2 (by omega)
  have z8232 : ((r : Int) == 8232) = false := beq_eq_false_iff_ne.2 (by omega)
  have z8233 : ((r : Int) == 8233) = false := beq_eq_false_iff_ne.2 (by omega)
  have z8239 : ((r : Int) == 8239) = false := beq_eq_false_iff_ne.2 (by omega)
  have z8287 : ((r : Int) == 8287) = false := beq_eq_false_iff_ne.2 (by omega)
  have z12288 : ((r : Int) == 12288) = false := beq_eq_false_iff_ne.2 (by omega)
  clear h
  by_cases hr : 8192 ≤ r
  · have h2 : 8202 < r := by omega
    have y1 : decide ((8192 : Int) ≤ (r : Int)) = true := by simp; omega
    have y2 : decide ((r : Int) ≤ 8202) = false := by simp; omega
    clear hn
    go_enter Try.func235, Try.ntmps235
    go_wp2_with fail
    go_ret
    exact ⟨rfl, rfl⟩
  · have y1 : decide ((8192 : Int) ≤ (r : Int)) = false := by simp; omega
    clear hn
    go_enter Try.func235, Try.ntmps235
    go_wp2_with fail
    go_ret
    exact ⟨rfl, rfl⟩

end Go.Proofs.Ytfebdbfkpmjpeaa
