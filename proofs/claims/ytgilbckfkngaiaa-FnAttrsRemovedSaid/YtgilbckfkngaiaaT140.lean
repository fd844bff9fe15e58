/- The package's search for a part of a text (goquery), and blanks in the place of white space. -/
import Derived.Test.YtgilbckfkngaiaaT69
import Derived.Test.YtgilbckfkngaiaaT83
import Derived.Lib.Case
import Derived.Lib.BufferWrite
import Derived.Deep.OwnRows
namespace Go.Proofs.Ytgilbckfkngaiaa
open Go.RowKit
set_option linter.unusedVariables false

theorem toLb (s : ByteArray) : s.toList = s.data.toList := ByteArray.toList_eq s
def stB (s : List UInt8) (a : Nat) (p : List UInt8) : Bool := decide (a + p.length ≤ s.length) && ((s.drop a).take p.length == p)
/-- No instance before a place, and no room for one from there on. -/
theorem conN {s p : List UInt8} {k : Nat} (h : ∀ j, j < k → j + p.length ≤ s.length → stB s j p = false) (hk : s.length < k + p.length) : Lib.contains s p = false := by
  rw [Bool.eq_false_iff]
  intro q
  obtain ⟨A, B, e⟩ := (contains_iff s p).1 q
  have hl : A.length + p.length ≤ s.length := by rw [e]; simp
  have := h A.length (by omega) hl
  unfold stB at this
  rw [decide_eq_true hl, Bool.true_and, beq_eq_false_iff_ne] at this
  apply this
  rw [e, List.append_assoc, List.drop_left, List.take_left]
theorem conY {s p : List UInt8} {k : Nat} (h : stB s k p = true) : Lib.contains s p = true := by
  unfold stB at h
  rw [Bool.and_eq_true, beq_iff_eq] at h
  replace h := h.2
  refine (contains_iff s p).2 ⟨s.take k, (s.drop k).drop p.length, ?_⟩
  rw [List.append_assoc]
  conv => rhs; rhs; lhs; rw [← h]
  rw [List.take_append_drop, List.take_append_drop]


def IdxPost_g (s p : ByteArray) (w : World) (e : Ending) (w' : World) : Prop := ∃ z : Int, e = .returned (.int .i64 z) ∧ decide (0 ≤ z) = Lib.contains s.data.toList p.data.toList ∧ (∀ i : Nat, z = i → Lib.index s.data.toList p.data.toList = i) ∧ (z < 0 → z = -1) ∧ w = w'
set_option maxRecDepth 100000 in
set_option maxHeartbeats 1000000 in
theorem zzIdx_g (s p : ByteArray) (hs : s.size ≤ 4294967296) (hp : p.size ≤ 4294967296) (w : World) :
    Calls Try.prog 147 #[.string s, .string p] w (IdxPost_g s p w) := by
  have HL : Hid (s.data.toList.length = s.size ∧ p.data.toList.length = p.size) := ⟨rfl, rfl⟩
  go_enter Try.func147, Try.ntmps147
  go_wp2_with fail
  go_loopw [5] (fun x wr => ∃ k : Nat, k ≤ s.size + 1 ∧ x = .int .i64 k ∧ Hid (∀ j, j < k → j + p.data.toList.length ≤ s.data.toList.length → stB s.data.toList j p.data.toList = false) ∧ w = wr) (fun x _ => s.size + 1 - (intOf x).toNat)
  case atStart => exact ⟨0, Nat.zero_le _, rfl, (fun j h => by omega), rfl⟩
  case round =>
    obtain ⟨k, hk, rfl, hno, rfl⟩ := hrel
    by_cases hle : k + p.size ≤ s.size
    · have HX : Hid (((s.extract k (k + p.size)).toList == p.toList) = stB s.data.toList k p.data.toList) := by
        rw [Hid, toLb, toLb, Lib.extract_data, Nat.add_sub_cancel_left]
        unfold stB
        have := HL.out
        rw [decide_eq_true (by omega), Bool.true_and, this.2]
      cases hb : stB s.data.toList k p.data.toList
      · have HN : Hid (∀ j, j < k + 1 → j + p.data.toList.length ≤ s.data.toList.length → stB s.data.toList j p.data.toList = false) := by
          intro j hj h2
          by_cases e : j = k
          · subst e; exact hb
          · exact hno.out j (by omega) h2
        have hx := HX.out.trans hb
        clear hno hb HX
        go_wp2_with fail
        go_roundw
        case rel => exact ⟨k + 1, by omega, by go_num, HN.out, by trivial⟩
        case measure => simp [intOf]; omega
      · have HF := Lib.hid (conY hb)
        have HIx : Hid (Lib.index s.data.toList p.data.toList = k) := by
          have hlen := HL.out
          refine Lib.index_first (by omega) ?_ (fun j hj => ?_)
          · rw [Lib.occAt_iff_take _ _ _ (by omega)]
            unfold stB at hb
            rw [Bool.and_eq_true] at hb; exact hb.2
          · rw [Lib.occAt_iff_take _ _ _ (by omega)]
            have := hno.out j hj (by omega)
            unfold stB at this
            rw [decide_eq_true (by omega), Bool.true_and] at this; exact this
        have hx := HX.out.trans hb
        clear hno hb HX
        go_wp2_with fail
        go_ret
        exact ⟨k, rfl, by rw [HF.out]; simp, (fun i h => by rw [HIx.out]; exact h), (fun h => by omega), rfl⟩
    · have HF := Lib.hid (conN hno.out (by have := HL.out; omega))
      clear hno
      go_wp2_with fail
      go_ret
      exact ⟨-1, rfl, by rw [HF.out]; rfl, (fun i h => by omega), (fun _ => rfl), rfl⟩

set_option maxRecDepth 100000 in
theorem zzCon_g (s p : ByteArray) (hs : s.size ≤ 4294967296) (hp : p.size ≤ 4294967296) (w : World) :
    Calls Try.prog 112 #[.string s, .string p] w fun e w' => e = .returned (.bool (Lib.contains s.data.toList p.data.toList)) ∧ w = w' := by
  go_enter Try.func112, Try.ntmps112
  go_wp2_with fail
  refine (zzIdx_g s p hs hp w).mono ?_
  rintro e w1 ⟨z, rfl, hz, _, _, rfl⟩
  have HZ := Lib.hid hz
  clear hz
  go_wp2_with fail
  go_ret
  exact ⟨by rw [← HZ.out]; rfl, rfl⟩
end Go.Proofs.Ytgilbckfkngaiaa
