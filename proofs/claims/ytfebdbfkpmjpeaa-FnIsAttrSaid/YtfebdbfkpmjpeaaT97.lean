/- 'alone', where the reference's word that a selector is right says something of it; the attribute selectors there. -/
import Derived.Test.YtfebdbfkpmjpeaaT15
import Derived.Test.YtfebdbfkpmjpeaaT17
import Derived.Test.YtfebdbfkpmjpeaaT26
import Derived.Test.YtfebdbfkpmjpeaaT88
namespace Go.Proofs.Ytfebdbfkpmjpeaa
open Go.RowKit
set_option linter.unusedVariables false

def SomeBQ (Q : Prop) (w : World) (e : Ending) (w' : World) : Prop := ∃ b, e = .returned (.bool b) ∧ (b = true → Q) ∧ Below w.heap.size w w'
def AlonePostQ (Q : Prop) (PM : Nat → Int → Prop) (t : List Nd) (I : Int) (w : World) (e : Ending) (w' : World) : Prop :=
  ∃ want sure, e = .returned (.tuple #[.bool want, .bool sure]) ∧ Below w.heap.size w w' ∧
    (sure = true → Q ∧ RightP t ∧ ∃ (i : Nat) (m : Int), I = i ∧ (∃ hi : i < t.length, t[i].kind = 3) ∧ PM i m ∧ m ≠ 2 ∧ want = (m == 1))

set_option maxRecDepth 100000 in
set_option maxHeartbeats 4000000 in
theorem lalone_q (Q : Prop) (PM : Nat → Int → Prop) (ad : Option Addr) (c : Nat) (t : List Nd) (hf : fits1 t = true) (I : Int) (x : Sl) (hp : Plainly x.kind) (hx : x.size = 0) (w : World) (h : NSl w w.heap.size ad t)
    (hRS : ∀ W, Calls Try.prog 82 #[.agg ({ x with size := 1 } : Sl).agg] W (SomeBQ Q W))
    (hS : ∀ (i : Nat) (_ : Q) (_ : RightP t) (hi : i < t.length) (_ : t[i].kind = 3) W, NSl W W.heap.size ad t → Calls Try.prog 145 #[.slice ad t.length c, .int .i64 i, .agg ({ x with size := 1 } : Sl).agg] W (MPost (PM i) W)) :
    Calls Try.prog 22 #[.slice ad t.length c, .int .i64 I, .agg x.agg] w (AlonePostQ Q PM t I w) := by
  have HH := Lib.hid h
  have HRS := Lib.hid hRS
  have HS := Lib.hid hS
  have HP := Lib.hid hp
  have hm := h.1
  unfold maxLen at hm
  have hsel : SelAt (w.alloc (.cells ({ x with size := 1 } : Sl).agg 27)) w.heap.size { x with size := 1 } := heap_alloc_new w _
  have HSel := Lib.hid hsel
  clear hsel h hRS hS hp hx
  obtain ⟨xk, xo, xkey, xval, xa, xb, xf, xs⟩ := x
  unfold Sl.agg at HRS HS HSel ⊢
  dsimp only at HRS HS HP HSel ⊢
  go_enter Try.func22, Try.ntmps22
  go_wp2_with fail
  refine (right_any _ _ t _ (HH.out.up ((Below.refl _ _).alloc (Nat.le_refl _) _)) hf).mono ?_
  rintro e w1 ⟨r, rfl, hr, hb1⟩
  have HB1 := Lib.hid hb1
  have HW1 := Lib.hid (bnext ((Below.refl w.heap.size w).alloc (Nat.le_refl _) _) hb1)
  have HR := Lib.hid hr
  clear hb1 hr
  cases r
  · go_wp2_with fail
    go_ret2
    exact ⟨false, false, rfl, HW1.out, by simp⟩
  · go_wp2_with fail
    refine (within_any _ _ _ _ _).mono ?_
    rintro e w2 ⟨rfl, rfl⟩
    by_cases h1 : 0 ≤ I
    · by_cases h2 : I < t.length
      · obtain ⟨i, rfl⟩ : ∃ i : Nat, I = i := ⟨I.toNat, by omega⟩
        have hi : i < t.length := by omega
        have hw : (decide ((0 : Int) ≤ (i : Int)) && decide ((i : Int) < (t.length : Int))) = true := by simp; omega
        have HSel1 := Lib.hid (HSel.out.below HB1.out (by simp))
        obtain ⟨s0, s1, s2, s3, s4, s5, s6, s7⟩ := HSel1.out.cells
        dsimp only at s0 s1 s2 s3 s4 s5 s6 s7
        obtain ⟨b, o, rfl, hbB, hc⟩ := (HH.out.up HW1.out).at_ (by omega)
        have f1 := (hc i hi).1
        clear hc h1
        rw [hw]
        clear hw
        by_cases hk : t[i].kind = 3
        · have HK := Lib.hid hk
          rw [hk] at f1
          clear hk
          go_wp2_with fail
          refine (HRS.out _).mono ?_
          rintro e w2 ⟨r2, rfl, hq2, hb2⟩
          have HQ := Lib.hid hq2
          clear hq2
          have HW2 := Lib.hid (bnext HW1.out hb2)
          have HSel2 := Lib.hid (HSel1.out.below hb2 (by have := HB1.out.size; simp at this; omega))
          clear hb2 s0 s1 s2 s3 s4 s5 s6 s7 f1
          cases r2
          · go_wp2_with fail
            go_ret2
            exact ⟨false, false, rfl, HW2.out, by simp⟩
          · obtain ⟨s0, s1, s2, s3, s4, s5, s6, s7⟩ := HSel2.out.cells
            dsimp only at s0 s1 s2 s3 s4 s5 s6 s7
            go_wp2_with fail
            refine (matches_simple (PM i) _ c t i hi HK.out ⟨xk, xo, xkey, xval, xa, xb, xf, 1⟩ rfl HP.out w2.heap.size 1 _ (HH.out.up ((HW2.out).alloc HW2.out.size _)) (heap_alloc_new w2 _) (fun W hW => HS.out i (HQ.out (by trivial)) (HR.out (by trivial)) hi HK.out W hW)).mono ?_
            rintro e w3 ⟨m, rfl, hm, hb3⟩
            have HM := Lib.hid hm
            have HW3 := Lib.hid (bnext (HW2.out.alloc HW2.out.size _) hb3)
            clear hm hb3
            go_wp2_with fail
            go_ret2
            exact ⟨_, _, rfl, HW3.out, fun hs => ⟨HQ.out (by trivial), HR.out (by trivial), i, m, rfl, ⟨hi, HK.out⟩, HM.out, by simpa using hs, rfl⟩⟩
        · obtain ⟨kd, hkd⟩ : ∃ kd, kd = t[i].kind := ⟨_, rfl⟩
          rw [← hkd] at f1 hk
          clear hkd
          go_wp2_with fail
          go_ret2
          exact ⟨false, false, rfl, HW1.out, by simp⟩
      · have hw : (decide ((0 : Int) ≤ I) && decide (I < (t.length : Int))) = false := by simp; omega
        rw [hw]
        clear hw h1 h2
        go_wp2_with fail
        go_ret2
        exact ⟨false, false, rfl, HW1.out, by simp⟩
    · have hw : (decide ((0 : Int) ≤ I) && decide (I < (t.length : Int))) = false := by simp; omega
      rw [hw]
      clear hw h1
      go_wp2_with fail
      go_ret2
      exact ⟨false, false, rfl, HW1.out, by simp⟩
end Go.Proofs.Ytfebdbfkpmjpeaa
