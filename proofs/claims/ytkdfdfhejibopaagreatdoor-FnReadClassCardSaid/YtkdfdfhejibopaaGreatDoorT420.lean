/- Names: what stands in one, and what it is; (*parser).parseName. -/
import Derived.Test.YtkdfdfhejibopaaGreatDoorT406
import Derived.WalkMore
import Derived.Deep.LoopGhost
namespace Go.Proofs.YtkdfdfhejibopaaGreatDoor
open Go.RowKit
set_option linter.unusedVariables false

/-- A byte of a name. -/
def isNm (c : Nat) : Bool := decide (97 ≤ c ∧ c ≤ 122) || decide (65 ≤ c ∧ c ≤ 90) || decide (c = 95) || decide (127 < c) || decide (c = 45) || decide (48 ≤ c ∧ c ≤ 57)
theorem isNm_iff (c : Nat) : isNm c = true ↔ (97 ≤ c ∧ c ≤ 122) ∨ (65 ≤ c ∧ c ≤ 90) ∨ c = 95 ∨ 127 < c ∨ c = 45 ∨ (48 ≤ c ∧ c ≤ 57) := by
  unfold isNm
  simp only [Bool.or_eq_true, decide_eq_true_eq, or_assoc]
theorem isNm_no (c : Nat) : isNm c = false ↔ ¬ ((97 ≤ c ∧ c ≤ 122) ∨ (65 ≤ c ∧ c ≤ 90) ∨ c = 95 ∨ 127 < c ∨ c = 45 ∨ (48 ≤ c ∧ c ≤ 57)) := by
  rw [← isNm_iff, Bool.not_eq_true]

/-- One byte as a text. -/
def oneB (s : ByteArray) (i : Nat) : ByteArray := s.extract i (i + 1)

/-- What has been read from a place on. -/
inductive NmAc (s : ByteArray) (k : Nat) : ByteArray → Nat → Prop
  | zero : NmAc s k ByteArray.empty k
  | chr {acc : ByteArray} {i : Nat} : NmAc s k acc i → i < s.size → isNm (bAt s i) = true → NmAc s k (acc ++ oneB s i) (i + 1)
  | esc {acc o : ByteArray} {i i1 : Nat} : NmAc s k acc i → escAt s i = true → PEscIs s i o i1 → i1 ≤ s.size → NmAc s k (acc ++ o) i1

/-- Nothing of a name stands here. -/
def NmStop (s : ByteArray) (i : Nat) : Prop := i ≤ s.size ∧ (i < s.size → isNm (bAt s i) = false ∧ bAt s i ≠ 92)
/-- A backslash that begins no escape. -/
def NmBad (s : ByteArray) (i : Nat) : Prop := i < s.size ∧ bAt s i = 92 ∧ escAt s i = false

theorem pesc_size {s : ByteArray} {i i1 : Nat} {o : ByteArray} (h : PEscIs s i o i1) : o.size ≤ 4 ∧ i + 2 ≤ i1 := by
  obtain ⟨j, hx, h0, h1⟩ := h
  rcases Nat.eq_zero_or_pos j with c | c
  · obtain ⟨rfl, rfl⟩ := h0 c
    refine ⟨?_, Nat.le_refl _⟩
    rw [ByteArray.size_extract]; omega
  · obtain ⟨e1, e2⟩ := h1 c
    exact ⟨by rw [e2]; exact encode_size_le _, by have := wsEnd_ge s (i + 1 + j); omega⟩

theorem NmAc.size {s : ByteArray} {k : Nat} {acc : ByteArray} {i : Nat} (h : NmAc s k acc i) : k ≤ i ∧ acc.size ≤ 4 * (i - k) := by
  induction h with
  | zero => exact ⟨Nat.le_refl _, by rw [ByteArray.size_empty]; omega⟩
  | @chr acc i _ hi _ ih =>
    refine ⟨by omega, ?_⟩
    rw [ByteArray.size_append]
    have : (oneB s i).size ≤ 1 := by unfold oneB; rw [ByteArray.size_extract]; omega
    omega
  | @esc acc o i i1 _ _ hp _ ih =>
    have := pesc_size hp
    refine ⟨by omega, ?_⟩
    rw [ByteArray.size_append]
    omega

theorem NmAc.run {s : ByteArray} {k : Nat} {acc : ByteArray} {i : Nat} (h : NmAc s k acc i) : ∀ d, i + d ≤ s.size → (∀ x, x < d → isNm (bAt s (i + x)) = true) → NmAc s k (acc ++ s.extract i (i + d)) (i + d)
  | 0, _, _ => by
    rw [Nat.add_zero]
    have : s.extract i i = ByteArray.empty := by apply ByteArray.ext; rw [ByteArray.data_extract]; simp; exact Nat.min_le_left _ _
    rw [this, ByteArray.append_empty]
    exact h
  | d + 1, hd, hn => by
    have ih := NmAc.run h d (by omega) (fun x hx => hn x (by omega))
    have := ih.chr (by omega) (hn d (by omega))
    rw [ByteArray.append_assoc] at this
    have e : s.extract i (i + d) ++ oneB s (i + d) = s.extract i (i + (d + 1)) := by
      unfold oneB
      rw [ByteArray.extract_append_extract]
      congr 1 <;> omega
    rw [e] at this
    exact this

/-- How a name ends. -/
def NmNo (s : ByteArray) (k g : Nat) (D P : Value) (B : Nat) (W : World) (e : Ending) (w' : World) : Prop :=
  ∃ (v x : Value) (i' : Nat), ErrV v ∧ e = .returned (.tuple #[x, v]) ∧ PrW s g i' D P B W w' ∧ ∃ (acc : ByteArray) (i : Nat), NmAc s k acc i ∧ (NmBad s i ∨ (NmStop s i ∧ acc.size = 0))
def NmYes (s : ByteArray) (k g : Nat) (D P : Value) (B : Nat) (W : World) (e : Ending) (w' : World) : Prop :=
  ∃ (out : ByteArray) (i' : Nat), e = .returned (.tuple #[.string out, .nilIface]) ∧ PrW s g i' D P B W w' ∧ i' ≤ s.size ∧ NmAc s k out i' ∧ NmStop s i' ∧ 0 < out.size
def NmPost (s : ByteArray) (k g : Nat) (D P : Value) (B : Nat) (W : World) (e : Ending) (w' : World) : Prop := NmNo s k g D P B W e w' ∨ NmYes s k g D P B W e w'

def NmP (c : Nat) (w : World) (e : Ending) (w' : World) : Prop := e = .returned (.bool (isNm c)) ∧ w = w'

set_option maxRecDepth 100000 in
set_option maxHeartbeats 2000000 in
theorem nameChar_any (c : Nat) (hc : c < 256) (w : World) : Calls Tryz.prog 34 #[.int .u8 (c : Int)] w (NmP c w) := by
  have hcases : (127 < c) ∨ (122 < c ∧ c ≤ 127) ∨ (97 ≤ c ∧ c ≤ 122) ∨ (c = 96) ∨ (c = 95) ∨ (90 < c ∧ c < 95) ∨ (65 ≤ c ∧ c ≤ 90) ∨ (57 < c ∧ c < 65) ∨ (48 ≤ c ∧ c ≤ 57) ∨ (45 < c ∧ c < 48) ∨ c = 45 ∨ c < 45 := by omega
  rcases hcases with h | h | h | h | h | h | h | h | h | h | h | h
  all_goals
    have HV : Hid (isNm c = true ↔ (97 ≤ c ∧ c ≤ 122) ∨ (65 ≤ c ∧ c ≤ 90) ∨ c = 95 ∨ 127 < c ∨ c = 45 ∨ (48 ≤ c ∧ c ≤ 57)) := isNm_iff c
    go_enter Tryz.func34, Tryz.ntmps34
    go_wp2_with fail
    all_goals go_ret
    all_goals exact ⟨ret_b (by rw [Bool.eq_iff_iff, HV.out]; simp; try omega), rfl⟩
end Go.Proofs.YtkdfdfhejibopaaGreatDoor
