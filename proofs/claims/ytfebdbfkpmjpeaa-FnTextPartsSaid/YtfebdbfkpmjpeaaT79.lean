/- FnTextIn: the walk. -/
import Derived.Test.YtfebdbfkpmjpeaaT65
import Derived.Test.YtfebdbfkpmjpeaaT16
namespace Go.Proofs.Ytfebdbfkpmjpeaa
open Go.RowKit
set_option linter.unusedVariables false

theorem RSl.one1 (w : World) (x : Int) : RSl (w.alloc (.cells #[.int .i64 x] 3)) (w.alloc (.cells #[.int .i64 x] 3)).heap.size (some ⟨w.heap.size, 0, none⟩) (ivs [x]) := by
  refine .inr ⟨w.heap.size, 0, rfl, by simp, fun i hi => ?_⟩
  have e : i = 0 := by simp [ivs] at hi; omega
  subst e
  show World.cell? _ ⟨w.heap.size, 0, none⟩ = _
  rw [World.cell?_alloc_mark]
  rfl

set_option maxRecDepth 100000 in
set_option maxHeartbeats 2000000 in
theorem textIn_any (a : Option Addr) (c : Nat) (t : List Nd) (hR : RightP t) (i : Nat) (hi : i < t.length) (w : World) (h : NSl w w.heap.size a t) :
    Calls Try.prog 52 #[.slice a t.length c, .int .i64 i] w fun e w' => e = .returned (.tuple #[strV (txt t i), .bool true]) ∧ Below w.heap.size w w' := by
  have ho : OrdP t.length [(i : Int)] [i] := ⟨rfl, by intro k hk; rw [List.mem_singleton] at hk; omega, List.pairwise_singleton _ _⟩
  have hle := hR.le
  have hb1 : Below w.heap.size w (w.alloc (.cells #[.int .i64 (i : Int)] 3)) := (Below.refl _ _).alloc (Nat.le_refl _) _
  have HC := Lib.hid (textOf_any a c t hR (some ⟨w.heap.size, 0, none⟩) 1 [(i : Int)] [i] ho (by simp) _ (h.up hb1) ⟨RSl.one1 w i, by simp [maxLen], fun x hx => by rw [List.mem_singleton] at hx; omega⟩)
  have HB1 := Lib.hid hb1
  clear hR h ho hb1
  go_enter Try.func52, Try.ntmps52
  go_wp2_with fail
  refine HC.out.mono ?_
  rintro e w1 ⟨rfl, hb⟩
  have HB2 := Lib.hid (HB1.out.trans (hb.mono HB1.out.size))
  clear hb
  rw [show ([i] : List Nat).flatMap (txt t) = txt t i from by simp]
  go_wp2_with fail
  go_ret2
  exact ⟨rfl, HB2.out⟩

set_option maxRecDepth 100000 in
set_option maxHeartbeats 2000000 in
theorem FnTextIn_walk (ad : Option Addr) (len c : Nat) (t : List Nd) (I : Int) (w : World) (h : NSl w w.heap.size ad t ∧ len = t.length) (_hI : (Lit.int .i64 I).wf = true) :
    Calls Try.prog 13 #[.slice ad len c, .int .i64 I] w fun e w' => e = .returned (.bool true) ∧ Below w.heap.size w w' := by
  obtain ⟨h, rfl⟩ := h
  have HH := Lib.hid h
  clear h
  go_enter Try.func13, Try.ntmps13
  go_wp2_with fail
  refine (zzFits1_any _ _ t _ HH.out).mono ?_
  rintro e w1 ⟨rfl, hb1⟩
  have HB1 := Lib.hid hb1
  clear hb1
  cases hf : fits1 t
  · go_wp2_with fail
    go_ret
    exact ⟨rfl, HB1.out⟩
  · go_wp2_with fail
    refine (right_any _ c t w1 (HH.out.up HB1.out) hf).mono ?_
    rintro e w2 ⟨b, rfl, hbR, hb2⟩
    have HB2 := Lib.hid (bnext HB1.out hb2)
    have HR := Lib.hid hbR
    clear hb2 hbR
    cases b
    · go_wp2_with fail
      go_ret
      exact ⟨rfl, HB2.out⟩
    · have hR := HR.out rfl
      have hle := hR.le
      go_wp2_with fail
      refine (within_any _ _ _ _ _).mono ?_
      rintro e w3 ⟨rfl, rfl⟩
      by_cases hI : 0 ≤ I ∧ I < t.length
      · obtain ⟨i, rfl⟩ := Int.eq_ofNat_of_zero_le hI.1
        have hi : i < t.length := by omega
        have e1 : decide (0 ≤ (i : Int)) = true := by simp
        have e2 : decide ((i : Int) < (t.length : Nat)) = true := by simpa using hi
        rw [e1, e2]
        have HR2 := Lib.hid hR
        have HFl := Lib.hid hi
        clear e1 e2 hI hR HR hf
        have hbA : Below w2.heap.size w2 (w2.alloc (.cells #[.int .i64 (i : Int)] 3)) := (Below.refl _ _).alloc (Nat.le_refl _) _
        have HTx := Lib.hid (texts_any ad c t HR2.out i hi w2.heap.size 0 1 _ ((HH.out.up HB2.out).up hbA) ((World.cell?_alloc_mark _ _ _ _ 0).trans rfl))
        have HA := Lib.hid hbA
        clear hbA
        go_wp2_with fail
        refine HTx.out.mono ?_
        rintro e w4 ⟨rfl, q, rfl⟩
        have HB4 : Hid (Below w2.heap.size w2 ((w2.alloc (.cells #[.int .i64 (i : Int)] 3)).drewN q)) := below_drewN HA.out q
        go_wp2_with fail
        refine (textIn_any ad c t HR2.out i HFl.out _ ((HH.out.up HB2.out).up HB4.out)).mono ?_
        rintro e w5 ⟨rfl, hb5⟩
        have HB5 := Lib.hid (bnext HB2.out (bnext HB4.out hb5))
        clear hb5
        obtain ⟨v, hv⟩ : ∃ v : ByteArray, v = ⟨(txt t i).toArray⟩ := ⟨_, rfl⟩
        have hs : strV (txt t i) = .string v := by rw [hv]; rfl
        rw [hs]
        clear hs hv
        go_wp2_with fail
        go_ret
        exact ⟨by simp, HB5.out⟩
      · have e : (decide (0 ≤ I) && decide (I < (t.length : Nat))) = false := by simpa using hI
        rw [e]
        clear e hI
        go_wp2_with fail
        go_ret
        exact ⟨rfl, HB2.out⟩
end Go.Proofs.Ytfebdbfkpmjpeaa
