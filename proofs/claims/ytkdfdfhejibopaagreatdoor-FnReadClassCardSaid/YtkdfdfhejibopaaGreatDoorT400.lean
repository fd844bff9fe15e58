/- Escapes: hexadecimal digits, what they count, and the white space behind them. (No program in sight.) -/
import Derived.Test.YtkdfdfhejibopaaGreatDoorT3
import Derived.Laws.RangeAny
namespace Go.Proofs.YtkdfdfhejibopaaGreatDoor
open Go.RowKit
set_option linter.unusedVariables false

def EscNum (v : Value) (w : World) (e : Ending) (w' : World) : Prop := e = .returned v ∧ w' = w

/-- The byte at a place, 0 behind the end. -/
def bAt (s : ByteArray) (k : Nat) : Nat := (s.get! k).toNat

theorem bAt_in {s : ByteArray} {k : Nat} (h : k < s.size) : bAt s k = s[k].toNat := by
  unfold bAt
  have := get_at s k h
  rw [Nat.add_zero] at this
  rw [this]

theorem bAt_lt (s : ByteArray) (k : Nat) : bAt s k < 256 := (s.get! k).toNat_lt

def isHx (c : Nat) : Bool := (decide (48 ≤ c) && decide (c ≤ 57)) || (decide (97 ≤ c) && decide (c ≤ 102)) || (decide (65 ≤ c) && decide (c ≤ 70))
def hxD (c : Nat) : Nat := if c ≤ 57 then c - 48 else if 97 ≤ c then c - 87 else c - 55

theorem isHx_iff (c : Nat) : isHx c = true ↔ (48 ≤ c ∧ c ≤ 57) ∨ (97 ≤ c ∧ c ≤ 102) ∨ (65 ≤ c ∧ c ≤ 70) := by
  unfold isHx
  simp only [Bool.or_eq_true, Bool.and_eq_true, decide_eq_true_eq, or_assoc]

theorem hxD_lt {c : Nat} (h : isHx c = true) : hxD c < 16 := by
  rw [isHx_iff] at h
  unfold hxD
  split
  · omega
  · split <;> omega

/-- What the first n digits from k on count. -/
def hxV (s : ByteArray) (k : Nat) : Nat → Nat
  | 0 => 0
  | n + 1 => 16 * hxV s k n + hxD (bAt s (k + n))

theorem hxV_lt {s : ByteArray} {k : Nat} : ∀ n, (∀ x, x < n → isHx (bAt s (k + x)) = true) → hxV s k n < 16 ^ n
  | 0, _ => by simp [hxV]
  | n + 1, h => by
    have h1 := hxV_lt n (fun x hx => h x (by omega))
    have h2 := hxD_lt (h n (by omega))
    show 16 * hxV s k n + hxD (bAt s (k + n)) < 16 ^ (n + 1)
    have h3 : (16 : Nat) ^ (n + 1) = 16 * 16 ^ n := by rw [Nat.pow_succ, Nat.mul_comm]
    rw [h3]
    omega

theorem pow16_le {n : Nat} (h : n ≤ 6) : (16 : Nat) ^ n ≤ 16777216 := by
  have : n = 0 ∨ n = 1 ∨ n = 2 ∨ n = 3 ∨ n = 4 ∨ n = 5 ∨ n = 6 := by omega
  rcases this with rfl | rfl | rfl | rfl | rfl | rfl | rfl <;> decide

/-- The hexadecimal digits from k on, at most six, are j. -/
structure HxTo (s : ByteArray) (k j : Nat) : Prop where
  six : j ≤ 6
  le : k + j ≤ s.size
  all : ∀ x, x < j → isHx (bAt s (k + x)) = true
  stop : j < 6 → k + j < s.size → isHx (bAt s (k + j)) = false

theorem HxTo.uniq {s : ByteArray} {k j j' : Nat} (h : HxTo s k j) (h' : HxTo s k j') : j = j' := by
  rcases Nat.lt_trichotomy j j' with c | c | c
  · have h1 := h'.all j c
    have h2 := h.stop (by have := h'.six; omega) (by have := h'.le; omega)
    rw [h1] at h2; cases h2
  · exact c
  · have h1 := h.all j' c
    have h2 := h'.stop (by have := h.six; omega) (by have := h.le; omega)
    rw [h1] at h2; cases h2

theorem HxTo.small {s : ByteArray} {k j : Nat} (h : HxTo s k j) : hxV s k j < 16777216 := by
  have h1 := hxV_lt j h.all
  have h2 := pow16_le h.six
  omega

/-- Behind one white space, if one stands there. -/
def wsEnd (s : ByteArray) (e : Nat) : Nat :=
  if e < s.size then
    if bAt s e = 13 then (if e + 1 < s.size ∧ bAt s (e + 1) = 10 then e + 2 else e + 1)
    else if bAt s e = 32 ∨ bAt s e = 9 ∨ bAt s e = 10 ∨ bAt s e = 12 then e + 1 else e
  else e

theorem wsEnd_ge (s : ByteArray) (e : Nat) : e ≤ wsEnd s e := by
  unfold wsEnd
  split
  · split
    · split <;> omega
    · split <;> omega
  · omega

theorem wsEnd_le {s : ByteArray} {e : Nat} (h : e ≤ s.size) : wsEnd s e ≤ s.size := by
  unfold wsEnd
  split
  · split
    · split <;> omega
    · split <;> omega
  · omega

/-- Whether an escape begins at a place. -/
def escAt (s : ByteArray) (k : Nat) : Bool := decide (k + 1 < s.size) && decide (bAt s k = 92) && !decide (bAt s (k + 1) = 10 ∨ bAt s (k + 1) = 13 ∨ bAt s (k + 1) = 12)

theorem escAt_iff (s : ByteArray) (k : Nat) : escAt s k = true ↔ k + 1 < s.size ∧ bAt s k = 92 ∧ bAt s (k + 1) ≠ 10 ∧ bAt s (k + 1) ≠ 13 ∧ bAt s (k + 1) ≠ 12 := by
  unfold escAt
  simp only [Bool.and_eq_true, decide_eq_true_eq, Bool.not_eq_true', decide_eq_false_iff_not, not_or, and_assoc]

/-- The bytes of a part of a text. -/
theorem bAt_extract {s : ByteArray} {a b x : Nat} (h : a + x < b) (h2 : b ≤ s.size) : bAt (s.extract a b) x = bAt s (a + x) := by
  have hs : (s.extract a b).size = b - a := by rw [ByteArray.size_extract]; omega
  rw [bAt_in (by omega : x < (s.extract a b).size), bAt_in (by omega : a + x < s.size)]
  rw [ByteArray.getElem_extract]

theorem hxV_extract {s : ByteArray} {a b : Nat} (h2 : b ≤ s.size) : ∀ n, a + n ≤ b → hxV (s.extract a b) 0 n = hxV s a n
  | 0, _ => rfl
  | n + 1, h => by
    show 16 * hxV (s.extract a b) 0 n + hxD (bAt (s.extract a b) (0 + n)) = 16 * hxV s a n + hxD (bAt s (a + n))
    rw [hxV_extract h2 n (by omega), Nat.zero_add, bAt_extract (by omega) h2]
end Go.Proofs.YtkdfdfhejibopaaGreatDoor
