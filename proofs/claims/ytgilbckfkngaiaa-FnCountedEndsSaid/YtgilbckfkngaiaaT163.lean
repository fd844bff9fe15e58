/- Elements with one parent, counted from either end: the law. -/
import Derived.Test.YtgilbckfkngaiaaT162
namespace Go.Proofs.Ytgilbckfkngaiaa
open Go.RowKit
set_option linter.unusedVariables false

set_option maxRecDepth 100000 in
set_option maxHeartbeats 2000000 in
theorem nthMatch_any (N : List ByteArray) (a : Nat) (ha : a < N.length) (hn : N.length ≤ 200) (A b : Int) (hAb : -1000 ≤ A ∧ A ≤ 1000) (hb : -1000 ≤ b ∧ b ≤ 1000) (last ty : Bool) (B : Nat) (bl : Nat → Nat) (st : Nat → Dn) (w : World)
    (hD : Dom w B (fun i => 0 ≤ i ∧ i < N.length + 1) bl st) (hB : Bro N st) :
    Calls Try.prog 104 #[.agg #[.int .i64 A, .int .i64 b, .bool last, .bool ty], .pointer (some ⟨bl (a + 1), 0, none⟩)] w (CntPost (cntI A b (numN N a last ty)) w) := by
  have HD : Hid (∀ W, Below w.heap.size w W → Dom W B (fun i => 0 ≤ i ∧ i < N.length + 1) bl st) := fun W hW => hD.kept (fun q _ hq => hW.block q hq)
  by_cases hA : A = 0
  · subst hA
    rw [cntI_zero]
    cases last
    · have HC := Lib.hid (fun W (hW : Below w.heap.size w W) => simpleNth_any N a ha hn b hb ty B bl st W (HD.out W hW) hB)
      clear hD hB HD
      go_enter Try.func104, Try.ntmps104
      go_wp2_with fail
      refine (HC.out _ ((Below.refl _ _).alloc (Nat.le_refl _) _)).mono ?_
      rintro e w1 ⟨rfl, hb1⟩
      have HB1 := Lib.hid (((Below.refl w.heap.size w).alloc (Nat.le_refl _) _).trans (hb1.mono (by simp)))
      clear hb1
      go_wp2_with fail
      go_ret
      exact ⟨rfl, HB1.out⟩
    · have HC := Lib.hid (fun W (hW : Below w.heap.size w W) => simpleLast_any N a ha hn b hb ty B bl st W (HD.out W hW) hB)
      clear hD hB HD
      go_enter Try.func104, Try.ntmps104
      go_wp2_with fail
      refine (HC.out _ ((Below.refl _ _).alloc (Nat.le_refl _) _)).mono ?_
      rintro e w1 ⟨rfl, hb1⟩
      have HB1 := Lib.hid (((Below.refl w.heap.size w).alloc (Nat.le_refl _) _).trans (hb1.mono (by simp)))
      clear hb1
      go_wp2_with fail
      go_ret
      exact ⟨rfl, HB1.out⟩
  · have HC := Lib.hid (fun W (hW : Below w.heap.size w W) => nth_any N a ha hn A b hA hAb hb last ty B bl st W (HD.out W hW) hB)
    have hA0 : (A == 0) = false := beq_eq_false_iff_ne.2 hA
    clear hD hB HD
    go_enter Try.func104, Try.ntmps104
    go_wp2_with fail
    refine (HC.out _ ((Below.refl _ _).alloc (Nat.le_refl _) _)).mono ?_
    rintro e w1 ⟨rfl, hb1⟩
    have HB1 := Lib.hid (((Below.refl w.heap.size w).alloc (Nat.le_refl _) _).trans (hb1.mono (by simp)))
    clear hb1
    go_wp2_with fail
    go_ret
    exact ⟨rfl, HB1.out⟩

set_option maxRecDepth 100000 in
set_option maxHeartbeats 2000000 in
theorem countedC_any (ad : Option Addr) (c : Nat) (N : List ByteArray) (a : Nat) (ha : a < N.length) (hn : N.length ≤ 200) (A b : Int) (hAb : -1000 ≤ A ∧ A ≤ 1000) (hb : -1000 ≤ b ∧ b ≤ 1000) (last ty : Bool) (w : World) (h : SSl w w.heap.size ad N) :
    Calls Try.prog 65 #[.slice ad N.length c, .int .i64 a, .int .i64 A, .int .i64 b, .bool last, .bool ty] w (CntPost (cntI A b (numN N a last ty)) w) := by
  have HC := Lib.hid (brother_any ad c N a ha hn w h)
  clear h
  go_enter Try.func65, Try.ntmps65
  go_wp2_with fail
  refine HC.out.mono ?_
  rintro e w1 ⟨bl, st, rfl, hD, hB, hb1⟩
  have HB1 := Lib.hid hb1
  have HM := Lib.hid (nthMatch_any N a ha hn A b hAb hb last ty _ bl st w1 hD hB)
  clear hb1 hD hB
  go_wp2_with fail
  refine HM.out.mono ?_
  rintro e w2 ⟨rfl, hb2⟩
  have HB2 := Lib.hid (bnext HB1.out hb2)
  clear hb2
  go_wp2_with fail
  go_ret
  exact ⟨rfl, HB2.out⟩

set_option maxRecDepth 100000 in
set_option maxHeartbeats 2000000 in
theorem counted_any (ad : Option Addr) (c : Nat) (N : List ByteArray) (a : Nat) (ha : a < N.length) (hn : N.length ≤ 200) (A b : Int) (hAb : -1000 ≤ A ∧ A ≤ 1000) (hb : -1000 ≤ b ∧ b ≤ 1000) (last ty : Bool) (w : World) (h : SSl w w.heap.size ad N) (f : Int) (hf : f = (if last = true then 1 else 0) + (if ty = true then 2 else 0)) :
    Calls Try.prog 23 #[.slice ad N.length c, .int .i64 a, .int .i64 A, .int .i64 b, .int .i64 f] w (fun e w' => e = .returned (.tuple #[.bool (cntI A b (numN N a last ty)), .bool true]) ∧ Below w.heap.size w w') := by
  have HC := Lib.hid (countedC_any ad c N a ha hn A b hAb hb last ty w h)
  clear h
  cases last
  all_goals
    cases ty
    all_goals
      simp only [Bool.false_eq_true, if_false, if_true] at hf
      subst hf
      go_enter Try.func23, Try.ntmps23
      go_wp2_with fail
      refine HC.out.mono ?_
      rintro e w1 ⟨rfl, hb1⟩
      have HB1 := Lib.hid hb1
      clear hb1
      go_wp2_with fail
      go_ret2
      exact ⟨rfl, HB1.out⟩
end Go.Proofs.Ytgilbckfkngaiaa
