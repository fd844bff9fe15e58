/- A value of an attribute, as a test asks. (No program in sight.) -/
import Derived.Test.YtfebdbfkpmjpeaaT66
namespace Go.Proofs.Ytfebdbfkpmjpeaa
set_option linter.unusedVariables false

/-- The same, without regard to case if that is asked for. -/
def eqB (f : Bool) (a b : List UInt8) : Bool := if f = true then a.map smB == b.map smB else a == b
/-- A text with small letters, if that is asked for. -/
def lowB (f : Bool) (a : List UInt8) : List UInt8 := if f = true then a.map smB else a
theorem eqB_low (f : Bool) (a b : List UInt8) : eqB f a b = (lowB f a == lowB f b) := by
  unfold eqB lowB; cases f <;> rfl
theorem lowB_len (f : Bool) (a : List UInt8) : (lowB f a).length = a.length := by
  unfold lowB; split <;> simp
theorem lowB_take (f : Bool) (a : List UInt8) (n : Nat) : (lowB f a).take n = lowB f (a.take n) := by
  unfold lowB; split <;> simp [List.map_take]
theorem words_low (f : Bool) (l : List UInt8) : words (lowB f l) = (words l).map (lowB f) := by
  unfold lowB
  cases f
  · simp
  · simp only [if_true]; rw [words_sm]

/-- One of the words is the same. -/
def incB (f : Bool) (s v : List UInt8) : Bool := (words s).any fun x => eqB f x v
theorem incB_low (f : Bool) (s v : List UInt8) : incB f s v = decide (lowB f v ∈ words (lowB f s)) := by
  unfold incB
  rw [words_low, Bool.eq_iff_iff, List.any_eq_true, decide_eq_true_eq, List.mem_map]
  constructor
  · rintro ⟨x, hx, e⟩
    rw [eqB_low, beq_iff_eq] at e
    exact ⟨x, hx, e⟩
  · rintro ⟨x, hx, e⟩
    exact ⟨x, hx, by rw [eqB_low, beq_iff_eq]; exact e⟩
/-- Where the first white space stands, the words part. -/
theorem incB_step {f : Bool} {a b v : List UInt8} {c : UInt8} (hc : wsB c = true) (ha : ∀ x ∈ a, wsB x = false) (hv : v ≠ []) : incB f (a ++ c :: b) v = (eqB f a v || incB f b v) := by
  unfold incB
  rw [words_cat hc, List.any_append]
  congr 1
  cases a with
  | nil =>
    have : eqB f [] v = false := by
      unfold eqB
      cases v with
      | nil => exact absurd rfl hv
      | cons y v => cases f <;> rfl
    rw [this]; rfl
  | cons x a => rw [words_one ha (by simp)]; simp
theorem incB_end {f : Bool} {a v : List UInt8} (ha : ∀ x ∈ a, wsB x = false) (hne : a ≠ []) : incB f a v = eqB f a v := by
  unfold incB
  rw [words_one ha hne]; simp
theorem incB_nil (f : Bool) (v : List UInt8) : incB f [] v = false := rfl
end Go.Proofs.Ytfebdbfkpmjpeaa
