/- FnCountedEnds: the walk. -/
import Derived.Test.YtgilbckfkngaiaaT163
namespace Go.Proofs.Ytgilbckfkngaiaa
open Go.RowKit
set_option linter.unusedVariables false

def BackRel (N : List ByteArray) (w : World) (x y : Value) (wr : World) : Prop :=
  ∃ (k : Nat) (a : Option Addr) (c : Nat), k ≤ N.length ∧ x = .slice a k c ∧ y = .int .i64 ((N.length : Int) - 1 - k) ∧ wr.ownsRow w.heap.size 9 1 (.slice a k c) k (strB (N.reverse.take k)) ∧ Below w.heap.size w wr

set_option maxRecDepth 100000 in
set_option maxHeartbeats 4000000 in
theorem FnCountedEnds_walk (ad : Option Addr) (len c : Nat) (N : List ByteArray) (at_ A b f : Int) (w : World) (h : SSl w w.heap.size ad N ∧ len = N.length) (hat : (Lit.int .i64 at_).wf = true) (hA : (Lit.int .i64 A).wf = true) (hb : (Lit.int .i64 b).wf = true) (hf : (Lit.int .u8 f).wf = true) :
    Calls Try.prog 4 #[.slice ad len c, .int .i64 at_, .int .i64 A, .int .i64 b, .int .u8 f] w fun e w' => e = .returned (.bool true) ∧ Below w.heap.size w w' := by
  obtain ⟨h, rfl⟩ := h
  obtain ⟨i0, hinf, hz0, hz1, hz2⟩ := info_parts Try.infoStr
  have hat2 : -9223372036854775808 ≤ at_ ∧ at_ ≤ 9223372036854775807 := by simpa [Lit.wf, IntKind.min, IntKind.max, IntKind.signed, IntKind.bits] using hat
  have hf2 : 0 ≤ f ∧ f ≤ 255 := by simpa [Lit.wf, IntKind.min, IntKind.max, IntKind.signed, IntKind.bits] using hf
  have hA2 : -9223372036854775808 ≤ A ∧ A ≤ 9223372036854775807 := by simpa [Lit.wf, IntKind.min, IntKind.max, IntKind.signed, IntKind.bits] using hA
  have hb2 : -9223372036854775808 ≤ b ∧ b ≤ 9223372036854775807 := by simpa [Lit.wf, IntKind.min, IntKind.max, IntKind.signed, IntKind.bits] using hb
  have HS := Lib.hid h
  clear h hat hf hA hb
  have HQ : Hid (∀ W, Below w.heap.size w W → SSl W W.heap.size ad N) := fun W hW => (HS.out.below hW).more hW.size
  go_enter Try.func4, Try.ntmps4
  go_wp2_with fail
  refine (zzFits8_any ad c N w HS.out).mono ?_
  rintro e w1 ⟨b1, rfl, h1, hb1⟩
  have HB1 := Lib.hid hb1
  clear hb1
  cases b1
  · go_wp2_with fail
    go_ret
    exact ⟨rfl, HB1.out⟩
  have HZ := Lib.hid (h1 rfl)
  clear h1
  go_wp2_with fail
  refine (countable_any ad c N at_ w1 (HQ.out w1 HB1.out) HZ.out.2 HZ.out.1 hat2).mono ?_
  rintro e w2 ⟨b2, rfl, h2, hb2⟩
  have HB2 := Lib.hid (bnext HB1.out hb2)
  clear hb2
  cases b2
  · go_wp2_with fail
    go_ret
    exact ⟨rfl, HB2.out⟩
  obtain ⟨hn, hat0, hat1⟩ := h2 rfl
  clear h2
  by_cases k1 : A < -1000
  · go_wp2_with fail
    go_ret
    exact ⟨rfl, HB2.out⟩
  by_cases k2 : 1000 < A
  · go_wp2_with fail
    go_ret
    exact ⟨rfl, HB2.out⟩
  by_cases k3 : b < -1000
  · go_wp2_with fail
    go_ret
    exact ⟨rfl, HB2.out⟩
  by_cases k4 : 1000 < b
  · go_wp2_with fail
    go_ret
    exact ⟨rfl, HB2.out⟩
  obtain ⟨a, rfl⟩ : ∃ a : Nat, at_ = a := ⟨at_.toNat, by omega⟩
  go_wp2_with fail
  go_loopw [11, 12] (fun x y wr => BackRel N w x y wr) (fun _ y _ => (intOf y + 1).toNat)
  case atStart =>
    refine ⟨0, none, 0, by omega, rfl, by go_num, ?_, HB2.out⟩
    rw [List.take_zero]
    exact World.ownsRow_nil _ _ _ _
  case round =>
    obtain ⟨k, av, cv, hk, rfl, rfl, hown, hbw⟩ := hrel
    have HW := Lib.hid hown
    have HB := Lib.hid hbw
    have hsz := hbw.size
    by_cases hlt : k < N.length
    · obtain ⟨ba, oa, rfl, hbA, hc⟩ := (HS.out.below hbw).at_ (by omega)
      have g1 := hc (N.length - 1 - k) (by omega)
      obtain ⟨y, hy⟩ : ∃ y, y = N[N.length - 1 - k] := ⟨_, rfl⟩
      rw [← hy] at g1
      have HY : Hid (N.reverse.take (k + 1) = N.reverse.take k ++ [y]) := by
        rw [Hid, List.take_succ_eq_append_getElem (by rw [List.length_reverse]; exact hlt), List.getElem_reverse, hy]
      obtain ⟨m, hm⟩ : ∃ m : Nat, m = N.length - 1 - k := ⟨_, rfl⟩
      rw [← hm] at g1
      have hmi : (N.length : Int) - 1 - k = (m : Int) := by omega
      have hmn : m < N.length := by omega
      rw [hmi]
      have HM := Lib.hid hm
      clear hc hy hown hbw hm hmi
      go_wp2_with (at_builtin; refine wpList_append_own _ rfl _ _ 30 rfl w.heap.size 9 i0 (.string ⟨#[]⟩) 1 16 Try.underlying30 hinf hz0 hz1 hz2 rfl (by decide) _ _ _ rfl (HW.out.alloc _) ⟨wr.heap.size, 0, none⟩ 1 1 [.string y] rfl rfl (cell_one_new _ _ _) (by intro u hu; simp at hu; subst hu; rfl) (by unfold maxLen; omega) (by omega) (by simp; omega) ?_)
      intro v' w3 hown' hgrow _
      obtain ⟨a3, c3, hv2⟩ := own_sl hown'
      rw [hv2] at hown' ⊢
      have hb3 : Below w.heap.size w w3 := (HB.out.alloc hsz _).grown hgrow (by simp; omega) (fun q hq => (HW.out.lt q hq).1)
      have HO1 : Hid (w3.ownsRow w.heap.size 9 1 (.slice a3 (k + 1) c3) (k + 1) (strB (N.reverse.take (k + 1)))) := by
        rw [Hid, HY.out, strB_snoc]; exact hown'
      have HB3 := Lib.hid hb3
      clear hown' hgrow hv2 hb3
      go_wp2_with fail
      go_roundw
      case rel => exact ⟨k + 1, a3, c3, by omega, rfl, by have hm := HM.out; go_num, HO1.out, HB3.out⟩
      case measure => have hm := HM.out; simp [intOf] <;> omega
    · have e : k = N.length := by omega
      subst e
      rw [show (N.length : Int) - 1 - (N.length : Int) = -1 by omega]
      have hrl : N.reverse.length = N.length := List.length_reverse
      have hr : wr.ownsRow w.heap.size 9 1 (.slice av N.reverse.length cv) N.reverse.length (strB N.reverse) := by
        have := hown
        rw [List.take_of_length_le (by rw [hrl]; exact Nat.le_refl _)] at this
        rw [hrl]; exact this
      have HR : Hid (SSl wr wr.heap.size av N.reverse) := ssl_own hr (by rw [hrl]; unfold maxLen; omega) (fun x hx => by have := HZ.out.2 x (List.mem_reverse.1 hx); unfold maxLen; omega)
      obtain ⟨R, hR⟩ : ∃ R, R = N.reverse := ⟨_, rfl⟩
      rw [← hR] at HR hrl
      have HRe := Lib.hid hR
      obtain ⟨r, hr4⟩ : ∃ r : Int, f.tmod 4 = r := ⟨_, rfl⟩
      have hr03 : r = 0 ∨ r = 1 ∨ r = 2 ∨ r = 3 := by
        have := Int.tmod_eq_emod_of_nonneg (b := 4) hf2.1
        omega
      obtain ⟨a2, ha2⟩ : ∃ a2 : Nat, a2 = N.length - 1 - a := ⟨_, rfl⟩
      have HA2 := Lib.hid ha2
      have hi2 : (N.length : Int) - 1 - (a : Int) = (a2 : Int) := by omega
      have HC1 : Hid (∀ (last ty : Bool) (fl : Int), fl = (if last = true then 1 else 0) + (if ty = true then 2 else 0) → Calls Try.prog 23 #[.slice ad N.length c, .int .i64 a, .int .i64 A, .int .i64 b, .int .i64 fl] wr (fun e w' => e = .returned (.tuple #[.bool (cntI A b (numN N a last ty)), .bool true]) ∧ Below wr.heap.size wr w')) :=
        fun last ty fl hfl => counted_any ad c N a (by omega) hn A b ⟨by omega, by omega⟩ ⟨by omega, by omega⟩ last ty wr (HQ.out wr HB.out) fl hfl
      have HC2 : Hid (∀ (last ty : Bool) (fl : Int) (W : World), Below wr.heap.size wr W → fl = (if last = true then 0 else 1) + (if ty = true then 2 else 0) → Calls Try.prog 23 #[.slice av N.length cv, .int .i64 a2, .int .i64 A, .int .i64 b, .int .i64 fl] W (fun e w' => e = .returned (.tuple #[.bool (cntI A b (numN N a last ty)), .bool true]) ∧ Below W.heap.size W w')) := by
        intro last ty fl W hW hfl
        have := counted_any av cv R a2 (by rw [hrl]; omega) (by rw [hrl]; exact hn) A b ⟨by omega, by omega⟩ ⟨by omega, by omega⟩ (!last) ty W ((HR.out.below hW).more hW.size) fl (by rw [hfl]; cases last <;> rfl)
        rw [hrl] at this
        rw [numN_rev N a (by omega) last ty, ← HRe.out, ← ha2]
        exact this
      clear hr hown hbw hR ha2
      rcases hr03 with rfl | rfl | rfl | rfl
      · go_wp2_with fail
        refine (HC1.out false false _ rfl).mono ?_
        rintro e w3 ⟨rfl, hb3⟩
        have HB3 := Lib.hid hb3
        clear hb3
        go_wp2_with fail
        refine (HC2.out false false _ w3 HB3.out rfl).mono ?_
        rintro e w4 ⟨rfl, hb4⟩
        have HB4 : Hid (Below w.heap.size w w4) := HB.out.trans ((HB3.out.trans (hb4.mono HB3.out.size)).mono HB.out.size)
        clear hb4
        generalize cntI A b (numN N a false false) = z
        cases z
        all_goals
          go_wp2_with fail
          go_ret
          exact ⟨rfl, HB4.out⟩
      · go_wp2_with fail
        refine (HC1.out true false _ rfl).mono ?_
        rintro e w3 ⟨rfl, hb3⟩
        have HB3 := Lib.hid hb3
        clear hb3
        go_wp2_with fail
        refine (HC2.out true false _ w3 HB3.out rfl).mono ?_
        rintro e w4 ⟨rfl, hb4⟩
        have HB4 : Hid (Below w.heap.size w w4) := HB.out.trans ((HB3.out.trans (hb4.mono HB3.out.size)).mono HB.out.size)
        clear hb4
        generalize cntI A b (numN N a true false) = z
        cases z
        all_goals
          go_wp2_with fail
          go_ret
          exact ⟨rfl, HB4.out⟩
      · go_wp2_with fail
        refine (HC1.out false true _ rfl).mono ?_
        rintro e w3 ⟨rfl, hb3⟩
        have HB3 := Lib.hid hb3
        clear hb3
        go_wp2_with fail
        refine (HC2.out false true _ w3 HB3.out rfl).mono ?_
        rintro e w4 ⟨rfl, hb4⟩
        have HB4 : Hid (Below w.heap.size w w4) := HB.out.trans ((HB3.out.trans (hb4.mono HB3.out.size)).mono HB.out.size)
        clear hb4
        generalize cntI A b (numN N a false true) = z
        cases z
        all_goals
          go_wp2_with fail
          go_ret
          exact ⟨rfl, HB4.out⟩
      · go_wp2_with fail
        refine (HC1.out true true _ rfl).mono ?_
        rintro e w3 ⟨rfl, hb3⟩
        have HB3 := Lib.hid hb3
        clear hb3
        go_wp2_with fail
        refine (HC2.out true true _ w3 HB3.out rfl).mono ?_
        rintro e w4 ⟨rfl, hb4⟩
        have HB4 : Hid (Below w.heap.size w w4) := HB.out.trans ((HB3.out.trans (hb4.mono HB3.out.size)).mono HB.out.size)
        clear hb4
        generalize cntI A b (numN N a true true) = z
        cases z
        all_goals
          go_wp2_with fail
          go_ret
          exact ⟨rfl, HB4.out⟩
end Go.Proofs.Ytgilbckfkngaiaa
