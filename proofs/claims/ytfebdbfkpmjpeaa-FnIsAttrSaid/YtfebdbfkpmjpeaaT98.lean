/- The attribute selectors, as the reference takes them. -/
import Derived.Test.YtfebdbfkpmjpeaaT97

namespace Go.Proofs.Ytfebdbfkpmjpeaa
open Go.RowKit
set_option linter.unusedVariables false

/-- A name, as the reference takes it. -/
structure NameR (s : ByteArray) : Prop where
  pos : 0 < s.size
  most : s.size ≤ 40
  first : 97 ≤ s[0].toNat ∧ s[0].toNat ≤ 122
  rest : ∀ k (hk : k < s.size), 1 ≤ k → (97 ≤ s[k].toNat ∧ s[k].toNat ≤ 122) ∨ (48 ≤ s[k].toNat ∧ s[k].toNat ≤ 57) ∨ s[k].toNat = 45
def NamePost (s : ByteArray) (w : World) (e : Ending) (w' : World) : Prop := ∃ b, e = .returned (.bool b) ∧ (b = true ↔ NameR s) ∧ w = w'

set_option maxRecDepth 100000 in
set_option maxHeartbeats 2000000 in
theorem name_ex (s : ByteArray) (w : World) (hs : s.size ≤ 2147483647) : Calls Try.prog 59 #[.string s] w (NamePost s w) := by
  by_cases h0 : s.size = 0
  · have hz : ((s.size : Int) == 0) = true := beq_iff_eq.2 (by omega)
    have HN : Hid (false = true ↔ NameR s) := ⟨fun h => (by cases h), fun h => absurd h.pos (by omega)⟩
    go_enter Try.func59, Try.ntmps59
    go_wp2_with fail
    all_goals (go_ret; exact ⟨_, rfl, HN.out, rfl⟩)
  · have h1 : 0 < s.size := by omega
    have hz : ((s.size : Int) == 0) = false := beq_eq_false_iff_ne.2 (by omega)
    clear h0
    by_cases h2 : 40 < s.size
    · have HN : Hid (false = true ↔ NameR s) := ⟨fun h => (by cases h), fun h => absurd h.most (by omega)⟩
      go_enter Try.func59, Try.ntmps59
      go_wp2_with fail
      all_goals (go_ret; exact ⟨_, rfl, HN.out, rfl⟩)
    · by_cases h3 : (s[0].toNat : Int) < 97
      · have HN : Hid (false = true ↔ NameR s) := ⟨fun h => (by cases h), fun h => absurd h.first.1 (by omega)⟩
        go_enter Try.func59, Try.ntmps59
        go_wp2_with fail
        all_goals (go_ret; exact ⟨_, rfl, HN.out, rfl⟩)
      · by_cases h4 : 122 < (s[0].toNat : Int)
        · have HN : Hid (false = true ↔ NameR s) := ⟨fun h => (by cases h), fun h => absurd h.first.2 (by omega)⟩
          go_enter Try.func59, Try.ntmps59
          go_wp2_with fail
          all_goals (go_ret; exact ⟨_, rfl, HN.out, rfl⟩)
        · have HF : Hid (97 ≤ s[0].toNat ∧ s[0].toNat ≤ 122) := ⟨by omega, by omega⟩
          go_enter Try.func59, Try.ntmps59
          go_wp2_with fail
          go_loopw [3] (fun x wr => ∃ k : Nat, 1 ≤ k ∧ k ≤ s.size ∧ x = .int .i64 k ∧ w = wr ∧ Hid (∀ j (hj : j < s.size), 1 ≤ j → j < k → (97 ≤ s[j].toNat ∧ s[j].toNat ≤ 122) ∨ (48 ≤ s[j].toNat ∧ s[j].toNat ≤ 57) ∨ s[j].toNat = 45)) (fun x _ => s.size - (intOf x).toNat)
          case atStart => exact ⟨1, by omega, by omega, rfl, rfl, fun j hj h1 h2 => by omega⟩
          case round =>
            obtain ⟨k, hk1, hk2, rfl, rfl, hb⟩ := hrel
            clear hz
            by_cases hke : k < s.size
            · have step (h : (97 ≤ s[k].toNat ∧ s[k].toNat ≤ 122) ∨ (48 ≤ s[k].toNat ∧ s[k].toNat ≤ 57) ∨ s[k].toNat = 45) : Hid (∀ j (hj : j < s.size), 1 ≤ j → j < k + 1 → (97 ≤ s[j].toNat ∧ s[j].toNat ≤ 122) ∨ (48 ≤ s[j].toNat ∧ s[j].toNat ≤ 57) ∨ s[j].toNat = 45) := by
                intro j hj h1 h2
                by_cases e : j = k
                · subst e; exact h
                · exact hb.out j hj h1 (by omega)
              have stop (h : ¬ ((97 ≤ s[k].toNat ∧ s[k].toNat ≤ 122) ∨ (48 ≤ s[k].toNat ∧ s[k].toNat ≤ 57) ∨ s[k].toNat = 45)) : Hid (false = true ↔ NameR s) := ⟨fun h => (by cases h), fun h2 => absurd (h2.rest k hke hk1) h⟩
              have ST := Lib.hid step
              have SP := Lib.hid stop
              clear step stop
              have a6 : Hid (((s[k].toNat : Int) == 45) = true ↔ s[k].toNat = 45) := by rw [Hid, beq_iff_eq]; omega
              by_cases a1 : (97 : Int) ≤ (s[k].toNat : Int) <;> by_cases a2 : (s[k].toNat : Int) ≤ 122 <;> by_cases a3 : (48 : Int) ≤ (s[k].toNat : Int) <;> by_cases a4 : (s[k].toNat : Int) ≤ 57 <;> cases a5 : ((s[k].toNat : Int) == 45) <;>
                first | (exfalso; omega) | skip
              all_goals
                have a7 := Lib.hid a6.out
                rw [a5] at a7
                go_wp2_with fail
              all_goals
                have a8 := a7.out
                simp only [true_iff, false_iff, Bool.false_eq_true] at a8
                first
                | (go_roundw
                   case rel => exact ⟨k + 1, by omega, by omega, by go_num, by trivial, ST.out (by omega)⟩
                   case measure => simp [intOf]; omega)
                | (go_ret; exact ⟨_, rfl, (SP.out (by omega)).out, rfl⟩)
            · go_wp2_with fail
              go_ret
              exact ⟨_, rfl, ⟨fun _ => ⟨h1, by omega, HF.out, fun j hj h1 => hb.out j hj h1 (by omega)⟩, fun _ => rfl⟩, rfl⟩

theorem name_det (s : ByteArray) (hs : s.size ≤ 2147483647) : ∃ r : Bool, ∀ w, Calls Try.prog 59 #[.string s] w fun e w' => e = .returned (.bool r) ∧ w' = w := by
  by_cases h : NameR s
  · refine ⟨true, fun w => (name_ex s w hs).mono ?_⟩
    rintro e w1 ⟨b, rfl, hb, rfl⟩
    rw [hb.2 h]
    exact ⟨rfl, rfl⟩
  · refine ⟨false, fun w => (name_ex s w hs).mono ?_⟩
    rintro e w1 ⟨b, rfl, hb, rfl⟩
    cases b
    · exact ⟨rfl, rfl⟩
    · exact absurd (hb.1 rfl) h

end Go.Proofs.Ytfebdbfkpmjpeaa
