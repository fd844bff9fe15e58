/- The attribute selectors, as the reference takes them. -/
import Derived.Test.YtfebdbfkpmjpeaaT98
import Derived.Deep.QuietTactic
namespace Go.Proofs.Ytfebdbfkpmjpeaa
open Go.RowKit
set_option linter.unusedVariables false

/-- What the reference asks of a test of an attribute. -/
def AttrRight (op flag : Int) (val : ByteArray) : Prop := 1 ≤ op ∧ op ≤ 8 ∧ (flag = 0 ∨ flag = 1) ∧ val.size ≤ 100

set_option maxRecDepth 100000 in
set_option maxHeartbeats 8000000 in
theorem bare5 (op flag : Int) (key val : ByteArray) (hk : key.size ≤ 2147483647) (hv : val.size ≤ 2147483647) (w : World) :
    Calls Try.prog 137 #[.agg #[.int .i64 5, .int .i64 op, .string key, .string val, .int .i64 0, .int .i64 0, .int .i64 flag, .int .i64 1]] w (SomeBQ (AttrRight op flag val) w) := by
  by_cases hv1 : 100 < val.size
  · go_enter Try.func137, Try.ntmps137
    go_wp2_with fail
    go_ret
    exact ⟨_, rfl, by simp, (Below.refl _ _).alloc (Nat.le_refl _) _⟩
  · obtain ⟨r, hr⟩ := name_det key hk
    have HN := Lib.hid hr
    have HB : Hid (∀ n, Below w.heap.size w ((w.alloc (.cells #[.int .i64 5, .int .i64 op, .string key, .string val, .int .i64 0, .int .i64 0, .int .i64 flag, .int .i64 1] 27)).drewN n)) := fun n => below_drewN ((Below.refl _ _).alloc (Nat.le_refl _) _) _
    clear hr
    go_enter Try.func137, Try.ntmps137
    go_wp2_with fail
    refine (plain_any _ _ hv).mono ?_
    rintro e w1 ⟨p, rfl, rfl⟩
    cases p
    · go_wp2_with fail
      go_ret
      exact ⟨_, rfl, by simp, (Below.refl _ _).alloc (Nat.le_refl _) _⟩
    · go_wp2_with fail
      go_quiet (fail)
      go_wp2_with fail
      have hq : Hid (1 ≤ op → op ≤ 8 → flag = 0 ∨ flag = 1 → AttrRight op flag val) := fun h1 h2 h3 => ⟨h1, h2, h3, by omega⟩
      cases r <;> by_cases h1 : 1 ≤ op <;> by_cases h8 : op ≤ 8 <;> cases f0 : (flag == 0) <;> cases f1 : (flag == 1) <;> by_cases h2 : 1 < op <;> cases ve : val.toList.isEmpty <;> first | (exfalso; omega) | (exfalso; simp only [beq_iff_eq] at f0 f1; omega) | skip
      all_goals
        go_quiet (first | (go_at_call 59; exact (HN.out _).mono (fun _ _ hh => ⟨hh.1, _, hh.2⟩)))
        go_wp2_with fail
        go_ret
        refine ⟨_, rfl, ?_, HB.out _⟩
        first | (intro h; cases h; done) | (intro _; exact hq.out h1 h8 (by simp only [beq_iff_eq] at f0 f1; omega))
end Go.Proofs.Ytfebdbfkpmjpeaa
