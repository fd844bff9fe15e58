/- FnHasWord: the walk. -/
import Derived.Test.YtflafpkbmmnpaaaD
namespace Go.Proofs.Ytflafpkbmmnpaaa
open Go.RowKit
set_option linter.unusedVariables false

def OnePost (s : ByteArray) (w : World) (e : Ending) (w' : World) : Prop := ∃ b, e = .returned (.bool b) ∧ (b = true → s.data.toList ≠ [] ∧ ∀ c ∈ s.data.toList, wsB c = false) ∧ Below w.heap.size w w'

set_option maxRecDepth 100000 in
set_option maxHeartbeats 1000000 in
theorem oneWord_any (s : ByteArray) (hs : s.size ≤ 2147483647) (w : World) : Calls Try.prog 8 #[.string s] w (OnePost s w) := by
  have HM := Lib.hid (fun x (h : x ∈ words s.data.toList) => words_mem h)
  have HL : Hid (s.data.toList.length = s.size) := rfl
  have HC := Lib.hid (words_count s.data.toList)
  have HW := Lib.hid (wordsOf_any s hs w)
  obtain ⟨W, hW⟩ : ∃ W, W = words s.data.toList := ⟨_, rfl⟩
  rw [← hW] at HW HC HM
  have hlen : W.length ≤ 2147483647 := by have := HC.out; have := HL.out; omega
  clear hW
  go_enter Try.func8, Try.ntmps8
  go_wp2_with fail
  refine HW.out.mono ?_
  rintro e w1 ⟨a, c, rfl, hown, hb⟩
  have HO := Lib.hid hown
  have HB := Lib.hid hb
  clear hown hb
  go_wp2_with fail
  refine (plain_any s w1 hs).mono ?_
  rintro e w2 ⟨b, rfl, rfl⟩
  cases b
  · go_wp2_with fail
    go_ret
    exact ⟨false, rfl, (fun h => by cases h), HB.out⟩
  by_cases h1 : W.length = 1
  · obtain ⟨x, hx⟩ : ∃ x, W = [x] := by
      cases W with
      | nil => simp at h1
      | cons x l => cases l with
        | nil => exact ⟨x, rfl⟩
        | cons y l => simp at h1
    subst hx
    have hcell : ∃ g, a = some ⟨g, 0, none⟩ ∧ w1.cell? ⟨g, 0, none⟩ = some (.string ⟨x.toArray⟩) := by
      rcases HO.out.2 with ⟨_, h0⟩ | ⟨g, cap, cur, hv, _, hg, _, hcs⟩
      · simp at h0
      · refine ⟨g, by cases hv; rfl, ?_⟩
        have h2 := HO.out.cells (g := g) (by cases hv; rfl) 0 (.string ⟨x.toArray⟩) rfl
        rw [Addr.add_lit, Nat.zero_add] at h2
        exact h2
    obtain ⟨g, rfl, g1⟩ := hcell
    have HMx := Lib.hid (HM.out x (by simp))
    obtain ⟨X, hX⟩ : ∃ X : ByteArray, X = ⟨x.toArray⟩ := ⟨_, rfl⟩
    have HXl : Hid (X.size = x.length) := by rw [Hid, hX]; rfl
    have hXs : X.size ≤ 2147483647 := by
      obtain ⟨_, _, pre, post, e, _⟩ := HMx.out
      have h2 := congrArg List.length e
      rw [List.length_append, List.length_append] at h2
      have := HL.out; have := HXl.out; omega
    rw [← hX] at g1
    clear hX h1 hlen
    by_cases h3 : X.size = s.size
    · have HE : Hid (s.data.toList ≠ [] ∧ ∀ c ∈ s.data.toList, wsB c = false) := by
        obtain ⟨q1, q2, pre, post, e, _⟩ := HMx.out
        have h2 := congrArg List.length e
        rw [List.length_append, List.length_append] at h2
        have e1 : pre = [] := List.eq_nil_of_length_eq_zero (by have := HL.out; have := HXl.out; omega)
        have e2 : post = [] := List.eq_nil_of_length_eq_zero (by have := HL.out; have := HXl.out; omega)
        rw [e1, e2, List.nil_append, List.append_nil] at e
        rw [Hid, e]; exact ⟨q1, q2⟩
      have d1 : ((X.size : Int) == (s.size : Int)) = true := by simp [h3]
      clear h3 HMx HM
      go_wp2_with fail
      go_ret
      exact ⟨true, rfl, fun _ => HE.out, HB.out⟩
    · have d1 : ((X.size : Int) == (s.size : Int)) = false := beq_eq_false_iff_ne.2 (by omega)
      clear h3 HMx HM
      go_wp2_with fail
      go_ret
      exact ⟨false, rfl, (fun h => by cases h), HB.out⟩
  · have d1 : ((W.length : Int) == 1) = false := beq_eq_false_iff_ne.2 (by omega)
    clear h1 HM
    go_wp2_with fail
    go_ret
    exact ⟨false, rfl, (fun h => by cases h), HB.out⟩

def flI (f : Bool) : Int := if f = true then 1 else 0

set_option maxRecDepth 100000 in
set_option maxHeartbeats 1000000 in
theorem theTested_any (f : Bool) (v val : ByteArray) (hv : v.size ≤ 1000) (hval : val.size ≤ 1000) (w : World) :
    Calls Try.prog 9 #[.string v, .agg #[.int .i64 5, .int .i64 4, .string ⟨#[]⟩, .string val, .int .i64 0, .int .i64 0, .int .i64 (flI f), .int .i64 0]] w (TestPost 4 f true v val w) := by
  have HB0 : Hid (Below w.heap.size w (w.alloc (.cells #[.int .i64 5, .int .i64 4, .string ⟨#[]⟩, .string val, .int .i64 0, .int .i64 0, .int .i64 (flI f), .int .i64 0] 27))) := (Below.refl _ _).alloc (Nat.le_refl _) _
  have HT : Hid (∀ W, Calls Try.prog 14 #[.string v, .bool true, .agg #[.int .i64 5, .int .i64 4, .string ⟨#[]⟩, .string val, .int .i64 0, .int .i64 0, .int .i64 (flI f), .int .i64 0]] W (TestPost 4 f true v val W)) := by
    cases f
    · exact fun W => tested_false_4_true v val ⟨#[]⟩ 5 0 0 0 (by omega) (by omega) W
    · exact fun W => tested_true_4_true v val ⟨#[]⟩ 5 0 0 0 (by omega) (by omega) W
  obtain ⟨z, hz⟩ : ∃ z, z = flI f := ⟨_, rfl⟩
  rw [← hz] at HT HB0 ⊢
  clear hz
  go_enter Try.func9, Try.ntmps9
  go_wp2_with fail
  refine (HT.out _).mono ?_
  rintro e w1 ⟨m, rfl, hm, hb⟩
  have HM := Lib.hid hm
  have HB := Lib.hid (HB0.out.trans (hb.mono (by simp)))
  clear hm hb
  go_wp2_with fail
  go_ret
  exact ⟨m, rfl, HM.out.imp id (fun h => ⟨h.1, fun _ => h.2 trivial⟩), HB.out⟩

set_option maxRecDepth 100000 in
set_option maxHeartbeats 1000000 in
theorem iHasWord (f : Bool) (v s : ByteArray) (hv : v.size ≤ 1000) (hs : s.size ≤ 1000) (w : World) :
    Calls Try.prog 11 #[.string s, .string v, .int .i64 (flI f)] w (IncPost f s v w) := by
  have HI : Hid (∀ W, Calls Try.prog 16 #[.string v, .string s, .bool f] W (IncPost f s v W)) := by
    intro W
    have HQ := Lib.hid (include_any f v s (by omega) (by omega) W)
    go_enter Try.func16, Try.ntmps16
    go_wp2_with fail
    refine HQ.out.mono ?_
    rintro e w1 ⟨b, rfl, hb, hb1⟩
    have HB := Lib.hid hb
    have HB1 := Lib.hid hb1
    clear hb hb1
    go_wp2_with fail
    go_ret
    exact ⟨b, rfl, HB.out, HB1.out⟩
  have HF : Hid (((flI f) == 1) = f) := by cases f <;> rfl
  have hf := HF.out
  obtain ⟨z, hz⟩ : ∃ z, z = flI f := ⟨_, rfl⟩
  rw [← hz] at hf ⊢
  clear hz HF
  go_enter Try.func11, Try.ntmps11
  go_wp2_with fail
  refine (HI.out w).mono ?_
  rintro e w1 ⟨b, rfl, hb, hb1⟩
  have HB := Lib.hid hb
  have HB1 := Lib.hid hb1
  clear hb hb1
  go_wp2_with fail
  go_ret
  exact ⟨b, rfl, HB.out, HB1.out⟩

set_option maxRecDepth 100000 in
set_option maxHeartbeats 2000000 in
theorem FnHasWord_walk (s v : ByteArray) (I : Int) (w : World) (_h1 : s.size ≤ maxLen) (_h2 : v.size ≤ maxLen) (_hI : (Lit.int .i64 I).wf = true) :
    Calls Try.prog 4 #[.string s, .string v, .int .i64 I] w fun e w' => e = .returned (.bool true) ∧ Below w.heap.size w w' := by
  have q1 := _h1
  have q2 := _h2
  unfold maxLen at q1 q2
  clear _h1 _h2 _hI
  by_cases h1 : 500 < s.size
  · by_cases h2 : 2147483647 < s.size
    · go_enter Try.func4, Try.ntmps4
      go_wp2_with fail
      go_ret
      exact ⟨rfl, Below.refl _ _⟩
    · by_cases h3 : 2147483647 < v.size
      · go_enter Try.func4, Try.ntmps4
        go_wp2_with fail
        go_ret
        exact ⟨rfl, Below.refl _ _⟩
      · go_enter Try.func4, Try.ntmps4
        go_wp2_with fail
        go_ret
        exact ⟨rfl, Below.refl _ _⟩
  by_cases h2 : 500 < v.size
  · by_cases h3 : 2147483647 < v.size
    · go_enter Try.func4, Try.ntmps4
      go_wp2_with fail
      go_ret
      exact ⟨rfl, Below.refl _ _⟩
    · go_enter Try.func4, Try.ntmps4
      go_wp2_with fail
      go_ret
      exact ⟨rfl, Below.refl _ _⟩
  have k1 : s.size ≤ 500 := by omega
  have k2 : v.size ≤ 500 := by omega
  clear h1 h2
  go_enter Try.func4, Try.ntmps4
  go_wp2_with fail
  refine (plain_any s w (by omega)).mono ?_
  rintro e w1 ⟨b, rfl, rfl⟩
  cases b
  · go_wp2_with fail
    go_ret
    exact ⟨rfl, Below.refl _ _⟩
  go_wp2_with fail
  refine (oneWord_any v (by omega) w).mono ?_
  rintro e w1 ⟨b, rfl, hw, hb1⟩
  have HB1 := Lib.hid hb1
  clear hb1
  cases b
  · clear hw
    go_wp2_with fail
    go_ret
    exact ⟨rfl, HB1.out⟩
  have HW := Lib.hid (hw rfl)
  clear hw
  by_cases hI : I = 0 ∨ I = 1
  · obtain ⟨f, rfl⟩ : ∃ f, I = flI f := by
      rcases hI with rfl | rfl
      · exact ⟨false, rfl⟩
      · exact ⟨true, rfl⟩
    have d1 : decide (flI f < 0) = false := by cases f <;> decide
    have d2 : decide (1 < flI f) = false := by cases f <;> decide
    have HT := Lib.hid (theTested_any f s v (by omega) (by omega) w1)
    have HI := Lib.hid (fun W => iHasWord f v s (by omega) (by omega) W)
    have HWs := Lib.hid (fun W => wordsOf_any s (by omega) W)
    have HE : Hid (testB 4 f true s.data.toList v.data.toList = incB f s.data.toList v.data.toList) := by
      rw [Hid, incB_low]; simp [testB]
    have HN : Hid ((words s.data.toList).length = 0 → incB f s.data.toList v.data.toList = false) := by
      intro h
      unfold incB
      rw [List.eq_nil_of_length_eq_zero h]; rfl
    obtain ⟨WL, hWL⟩ : ∃ WL, WL = words s.data.toList := ⟨_, rfl⟩
    rw [← hWL] at HWs HN
    have hwl : WL.length ≤ 1000 := by
      have := words_count s.data.toList
      have h0 : s.data.toList.length = s.size := rfl
      rw [hWL]; omega
    obtain ⟨z, hz⟩ : ∃ z, z = flI f := ⟨_, rfl⟩
    rw [← hz] at d1 d2 HT HI ⊢
    clear hz hI hWL
    go_wp2_with fail
    refine HT.out.mono ?_
    rintro e w2 ⟨m, rfl, hm, hb2⟩
    have HB2 := Lib.hid (bn HB1.out hb2)
    have HM := Lib.hid hm
    clear hb2 hm
    go_wp2_with fail
    refine (HWs.out w2).mono ?_
    rintro e w3 ⟨a, c, rfl, _, hb3⟩
    have HB3 := Lib.hid (bn HB2.out hb3)
    clear hb3
    have HI3 := Lib.hid (HI.out w3)
    by_cases h0 : WL.length = 0
    · have dl : ((WL.length : Int) == 0) = true := by simp [h0]
      have HNo := Lib.hid (HN.out h0)
      clear h0 HN
      go_wp2_with fail
      refine HI3.out.mono ?_
      rintro e w4 ⟨b, rfl, hb, hb4⟩
      have hbf : b = false := (hb HW.out.1).trans HNo.out
      subst hbf
      have HB4 := Lib.hid (bn HB3.out hb4)
      clear hb hb4
      go_wp2_with fail
      go_ret
      exact ⟨rfl, HB4.out⟩
    · have dl : ((WL.length : Int) == 0) = false := beq_eq_false_iff_ne.2 (by omega)
      clear h0 HN
      by_cases h2 : m = 2
      · have d3 : (m == 2) = true := by simp [h2]
        clear h2 HM
        go_wp2_with fail
        go_ret
        exact ⟨rfl, HB3.out⟩
      · have d3 : (m == 2) = false := beq_eq_false_iff_ne.2 h2
        have HMe : Hid (m = truI (incB f s.data.toList v.data.toList)) := by
          rcases HM.out with h | h
          · exact absurd h h2
          · rw [Hid, h.1, HE.out]
        clear h2 HM
        go_wp2_with fail
        refine HI3.out.mono ?_
        rintro e w4 ⟨b, rfl, hb, hb4⟩
        have hbe : (b == (m == 1)) = true := by
          rw [HMe.out, ← hb HW.out.1]; cases b <;> rfl
        have HB4 := Lib.hid (bn HB3.out hb4)
        clear hb hb4
        go_wp2_with fail
        go_ret
        exact ⟨by rw [← hbe]; rfl, HB4.out⟩
  · by_cases hneg : I < 0
    · go_wp2_with fail
      go_ret
      exact ⟨rfl, HB1.out⟩
    · have hbig : 1 < I := by omega
      clear hI
      go_wp2_with fail
      go_ret
      exact ⟨rfl, HB1.out⟩
end Go.Proofs.Ytflafpkbmmnpaaa
