/- A white space's bytes. -/
import Derived.Test.YtfebdbfkpmjpeaaT59
namespace Go.Proofs.Ytfebdbfkpmjpeaa
open Go.RowKit
set_option linter.unusedVariables false

theorem isSp_iff (r : Nat) : isSp r = true ↔ (9 ≤ r ∧ r ≤ 13) ∨ r = 32 ∨ r = 133 ∨ r = 160 ∨ r = 5760 ∨ (8192 ≤ r ∧ r ≤ 8202) ∨ r = 8232 ∨ r = 8233 ∨ r = 8239 ∨ r = 8287 ∨ r = 12288 := by
  simp [isSp, or_assoc]

set_option maxRecDepth 100000 in
/-- The bytes of a white space, by its width. -/
theorem sp_bytes (n b0 b1 b2 b3 : Nat) (h1 : b1 < 256) (h2 : b2 < 256) (h3 : b3 < 256) (h0 : b0 < 256) (h : isSp (Lib.decodeN n b0 b1 b2 b3).1 = true) :
    (b0 < 128 ∧ Lib.decodeN n b0 b1 b2 b3 = (b0, 1)) ∨
    (b0 = 194 ∧ 2 ≤ n ∧ 128 ≤ b1 ∧ b1 < 192 ∧ Lib.decodeN n b0 b1 b2 b3 = (b1, 2)) ∨
    (225 ≤ b0 ∧ b0 ≤ 227 ∧ 3 ≤ n ∧ 128 ≤ b1 ∧ b1 < 192 ∧ 128 ≤ b2 ∧ b2 < 192 ∧ Lib.decodeN n b0 b1 b2 b3 = ((b0 - 224) * 4096 + (b1 - 128) * 64 + (b2 - 128), 3)) := by
  rw [isSp_iff] at h
  by_cases c1 : b0 < 128
  · exact .inl ⟨c1, by unfold Lib.decodeN; rw [if_pos c1]⟩
  · right
    unfold Lib.decodeN at h ⊢
    rw [if_neg c1] at h ⊢
    by_cases c2 : b0 / 32 = 6 ∧ (1 < n ∧ b1 / 64 = 2)
    · rw [if_pos c2] at h ⊢
      by_cases c3 : b0 % 32 * 64 + b1 % 64 ≥ 128
      · rw [if_pos c3] at h ⊢
        dsimp only at h
        refine .inl ⟨by omega, by omega, by omega, by omega, Prod.ext (by dsimp only; omega) rfl⟩
      · rw [if_neg c3] at h
        dsimp only at h
        omega
    · rw [if_neg c2] at h ⊢
      by_cases c4 : b0 / 16 = 14 ∧ (1 < n ∧ b1 / 64 = 2) ∧ (2 < n ∧ b2 / 64 = 2)
      · rw [if_pos c4] at h ⊢
        split at h
        · rename_i c5
          rw [if_pos c5]
          dsimp only at h
          refine .inr ⟨by omega, by omega, by omega, by omega, by omega, by omega, by omega, Prod.ext (by dsimp only; omega) rfl⟩
        · dsimp only at h
          omega
      · rw [if_neg c4] at h
        exfalso
        split at h
        · split at h <;> (dsimp only at h; omega)
        · dsimp only at h
          omega
end Go.Proofs.Ytfebdbfkpmjpeaa
