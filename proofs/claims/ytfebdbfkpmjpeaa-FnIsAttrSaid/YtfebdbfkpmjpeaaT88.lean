/- The reference's test of a value of an attribute. (Written by a program of mine.) -/
import Derived.Test.YtfebdbfkpmjpeaaT87
import Derived.Test.YtfebdbfkpmjpeaaT78
namespace Go.Proofs.Ytfebdbfkpmjpeaa
open Go.RowKit
set_option linter.unusedVariables false

def testB (op : Int) (f is : Bool) (v val : List UInt8) : Bool :=
  if op = 1 then is else if op = 2 then is && (lowB f v == lowB f val) else if op = 3 then (!is || !(lowB f v == lowB f val))
  else if op = 5 then is && (lowB f v == lowB f val || standsB (lowB f v) 0 (lowB f val ++ [45])) else if op = 4 then is && decide (lowB f val ∈ words (lowB f v))
  else if op = 6 then is && standsB (lowB f v) 0 (lowB f val) else if op = 7 then is && (decide (val.length ≤ v.length) && standsB (lowB f v) (v.length - val.length) (lowB f val))
  else is && Lib.contains (lowB f v) (lowB f val)
def TestPost (op : Int) (f is : Bool) (v val : ByteArray) (w : World) (e : Ending) (w' : World) : Prop :=
  ∃ m : Int, e = .returned (.int .i64 m) ∧ (m = 2 ∨ (m = truI (testB op f is v.data.toList val.data.toList) ∧ (is = true → op ≠ 1 → op ≠ 2 → op ≠ 3 → op ≠ 5 → val.data.toList ≠ [] ∧ ¬ Sp v 0))) ∧ Below w.heap.size w w'

theorem sp_up {s : ByteArray} {k : Nat} (h : Sp s k) (ha : ∀ j (hj : j < s.size), s[j].toNat < 128) : ∀ j (hj : j < s.size), k ≤ j → Lib.isUpperB s[j] = false := by
  induction h with
  | fin k hk => intro j hj h2; omega
  | step k hk hsp _ ih =>
    intro j hj h2
    have hd := decode_ascii s k hk (ha k hk)
    by_cases e : j = k
    · subst e
      rw [hd] at hsp
      have h3 := (isSp_iff _).1 hsp
      have h4 := ha j hk
      rw [Lib.isUpperB_int]
      simp
      omega
    · rw [hd] at ih
      exact ih j hj (by show k + 1 ≤ j; omega)
theorem ascB_at {s : ByteArray} (h : ascB s.data.toList = true) : ∀ j (hj : j < s.size), s[j].toNat < 128 := by
  intro j hj
  unfold ascB at h
  rw [List.all_eq_true] at h
  have h2 := h (s.data.toList[j]'hj) (List.getElem_mem _)
  exact of_decide_eq_true h2
theorem sp_low {s : ByteArray} (h : ascB s.data.toList = true) (hs : Sp s 0) : lowS s = s := by
  have h1 := sp_up hs (ascB_at h)
  have e : s.data.toList.map Lib.lowerB = s.data.toList := by
    apply List.ext_getElem
    · simp
    · intro j h1' h2'
      rw [List.getElem_map]
      exact Lib.lowerB_of_not _ (h1 j h2' (Nat.zero_le _))
  unfold lowS
  rw [e]
theorem nil_low {s : ByteArray} (h : s.data.toList = []) : Sp s 0 := .fin 0 (by
  have : s.data.toList.length = s.size := rfl
  rw [h] at this; simp at this; omega)
theorem size_one (Y : ByteArray) : (Y ++ (⟨#[45]⟩ : ByteArray)).data.toList = Y.data.toList ++ [45] := by
  rw [ByteArray.data_append]; simp
theorem truI_eq {a b : Bool} (h : a = b) : truI a = truI b := by rw [h]

set_option maxRecDepth 100000 in
set_option maxHeartbeats 2000000 in
theorem tested_false_1_false (v val key : ByteArray) (k a b sz : Int) (hv : v.size ≤ 1000000000) (hval : val.size ≤ 1000000000) (w : World) :
    Calls Try.prog 191 #[.string v, .bool false, .agg #[.int .i64 k, .int .i64 1, .string key, .string val, .int .i64 a, .int .i64 b, .int .i64 0, .int .i64 sz]] w (TestPost 1 false false v val w) := by
  have HB0 : Hid (Below w.heap.size w (w.alloc (.cells #[.int .i64 k, .int .i64 1, .string key, .string val, .int .i64 a, .int .i64 b, .int .i64 0, .int .i64 sz] 27))) := (Below.refl _ _).alloc (Nat.le_refl _) _
  have HSX : Hid (Sp v 0 → Sp v 0) := id
  have HX : Hid (v.data.toList = lowB false v.data.toList) := rfl
  have HY : Hid (val.data.toList = lowB false val.data.toList) := rfl
  go_enter Try.func191, Try.ntmps191
  go_wp2_with fail
  refine (tru_any false _).mono ?_
  rintro e w3 ⟨rfl, rfl⟩
  go_wp2_with fail
  go_ret
  exact ⟨_, rfl, .inr ⟨rfl, fun h => by cases h⟩, HB0.out⟩

set_option maxRecDepth 100000 in
set_option maxHeartbeats 2000000 in
theorem tested_false_1_true (v val key : ByteArray) (k a b sz : Int) (hv : v.size ≤ 1000000000) (hval : val.size ≤ 1000000000) (w : World) :
    Calls Try.prog 191 #[.string v, .bool true, .agg #[.int .i64 k, .int .i64 1, .string key, .string val, .int .i64 a, .int .i64 b, .int .i64 0, .int .i64 sz]] w (TestPost 1 false true v val w) := by
  have HB0 : Hid (Below w.heap.size w (w.alloc (.cells #[.int .i64 k, .int .i64 1, .string key, .string val, .int .i64 a, .int .i64 b, .int .i64 0, .int .i64 sz] 27))) := (Below.refl _ _).alloc (Nat.le_refl _) _
  have HSX : Hid (Sp v 0 → Sp v 0) := id
  have HX : Hid (v.data.toList = lowB false v.data.toList) := rfl
  have HY : Hid (val.data.toList = lowB false val.data.toList) := rfl
  go_enter Try.func191, Try.ntmps191
  go_wp2_with fail
  refine (tru_any true _).mono ?_
  rintro e w3 ⟨rfl, rfl⟩
  go_wp2_with fail
  go_ret
  exact ⟨_, rfl, .inr ⟨rfl, fun _ h1 h2 h3 h5 => absurd rfl h1⟩, HB0.out⟩

set_option maxRecDepth 100000 in
set_option maxHeartbeats 2000000 in
theorem tested_false_2_false (v val key : ByteArray) (k a b sz : Int) (hv : v.size ≤ 1000000000) (hval : val.size ≤ 1000000000) (w : World) :
    Calls Try.prog 191 #[.string v, .bool false, .agg #[.int .i64 k, .int .i64 2, .string key, .string val, .int .i64 a, .int .i64 b, .int .i64 0, .int .i64 sz]] w (TestPost 2 false false v val w) := by
  have HB0 : Hid (Below w.heap.size w (w.alloc (.cells #[.int .i64 k, .int .i64 2, .string key, .string val, .int .i64 a, .int .i64 b, .int .i64 0, .int .i64 sz] 27))) := (Below.refl _ _).alloc (Nat.le_refl _) _
  have HSX : Hid (Sp v 0 → Sp v 0) := id
  have HX : Hid (v.data.toList = lowB false v.data.toList) := rfl
  have HY : Hid (val.data.toList = lowB false val.data.toList) := rfl
  go_enter Try.func191, Try.ntmps191
  go_wp2_with fail
  refine (tru_any false _).mono ?_
  rintro e w3 ⟨rfl, rfl⟩
  go_wp2_with fail
  go_ret
  exact ⟨_, rfl, .inr ⟨rfl, fun h => by cases h⟩, HB0.out⟩

set_option maxRecDepth 100000 in
set_option maxHeartbeats 2000000 in
theorem tested_false_2_true (v val key : ByteArray) (k a b sz : Int) (hv : v.size ≤ 1000000000) (hval : val.size ≤ 1000000000) (w : World) :
    Calls Try.prog 191 #[.string v, .bool true, .agg #[.int .i64 k, .int .i64 2, .string key, .string val, .int .i64 a, .int .i64 b, .int .i64 0, .int .i64 sz]] w (TestPost 2 false true v val w) := by
  have HB0 : Hid (Below w.heap.size w (w.alloc (.cells #[.int .i64 k, .int .i64 2, .string key, .string val, .int .i64 a, .int .i64 b, .int .i64 0, .int .i64 sz] 27))) := (Below.refl _ _).alloc (Nat.le_refl _) _
  have HSX : Hid (Sp v 0 → Sp v 0) := id
  have HX : Hid (v.data.toList = lowB false v.data.toList) := rfl
  have HY : Hid (val.data.toList = lowB false val.data.toList) := rfl
  go_enter Try.func191, Try.ntmps191
  have HE : Hid (testB 2 false true v.data.toList val.data.toList = (v.toList == val.toList)) := by rw [Hid]; rw [toL, toL] ; simp [testB, lowB]
  go_wp2_with fail
  refine (tru_any (v.toList == val.toList) _).mono ?_
  rintro e w3 ⟨rfl, rfl⟩
  go_wp2_with fail
  go_ret
  exact ⟨_, rfl, .inr ⟨truI_eq HE.out.symm, fun _ h1 h2 h3 h5 => absurd rfl h2⟩, HB0.out⟩

set_option maxRecDepth 100000 in
set_option maxHeartbeats 2000000 in
theorem tested_false_3_false (v val key : ByteArray) (k a b sz : Int) (hv : v.size ≤ 1000000000) (hval : val.size ≤ 1000000000) (w : World) :
    Calls Try.prog 191 #[.string v, .bool false, .agg #[.int .i64 k, .int .i64 3, .string key, .string val, .int .i64 a, .int .i64 b, .int .i64 0, .int .i64 sz]] w (TestPost 3 false false v val w) := by
  have HB0 : Hid (Below w.heap.size w (w.alloc (.cells #[.int .i64 k, .int .i64 3, .string key, .string val, .int .i64 a, .int .i64 b, .int .i64 0, .int .i64 sz] 27))) := (Below.refl _ _).alloc (Nat.le_refl _) _
  have HSX : Hid (Sp v 0 → Sp v 0) := id
  have HX : Hid (v.data.toList = lowB false v.data.toList) := rfl
  have HY : Hid (val.data.toList = lowB false val.data.toList) := rfl
  go_enter Try.func191, Try.ntmps191
  go_wp2_with fail
  refine (tru_any true _).mono ?_
  rintro e w3 ⟨rfl, rfl⟩
  go_wp2_with fail
  go_ret
  exact ⟨_, rfl, .inr ⟨rfl, fun h => by cases h⟩, HB0.out⟩

set_option maxRecDepth 100000 in
set_option maxHeartbeats 2000000 in
theorem tested_false_3_true (v val key : ByteArray) (k a b sz : Int) (hv : v.size ≤ 1000000000) (hval : val.size ≤ 1000000000) (w : World) :
    Calls Try.prog 191 #[.string v, .bool true, .agg #[.int .i64 k, .int .i64 3, .string key, .string val, .int .i64 a, .int .i64 b, .int .i64 0, .int .i64 sz]] w (TestPost 3 false true v val w) := by
  have HB0 : Hid (Below w.heap.size w (w.alloc (.cells #[.int .i64 k, .int .i64 3, .string key, .string val, .int .i64 a, .int .i64 b, .int .i64 0, .int .i64 sz] 27))) := (Below.refl _ _).alloc (Nat.le_refl _) _
  have HSX : Hid (Sp v 0 → Sp v 0) := id
  have HX : Hid (v.data.toList = lowB false v.data.toList) := rfl
  have HY : Hid (val.data.toList = lowB false val.data.toList) := rfl
  go_enter Try.func191, Try.ntmps191
  have HE : Hid (testB 3 false true v.data.toList val.data.toList = (v.toList != val.toList)) := by rw [Hid]; unfold bne; rw [toL, toL] ; simp [testB, lowB]
  go_wp2_with fail
  refine (tru_any (v.toList != val.toList) _).mono ?_
  rintro e w3 ⟨rfl, rfl⟩
  go_wp2_with fail
  go_ret
  exact ⟨_, rfl, .inr ⟨truI_eq HE.out.symm, fun _ h1 h2 h3 h5 => absurd rfl h3⟩, HB0.out⟩

set_option maxRecDepth 100000 in
set_option maxHeartbeats 2000000 in
theorem tested_false_5_false (v val key : ByteArray) (k a b sz : Int) (hv : v.size ≤ 1000000000) (hval : val.size ≤ 1000000000) (w : World) :
    Calls Try.prog 191 #[.string v, .bool false, .agg #[.int .i64 k, .int .i64 5, .string key, .string val, .int .i64 a, .int .i64 b, .int .i64 0, .int .i64 sz]] w (TestPost 5 false false v val w) := by
  have HB0 : Hid (Below w.heap.size w (w.alloc (.cells #[.int .i64 k, .int .i64 5, .string key, .string val, .int .i64 a, .int .i64 b, .int .i64 0, .int .i64 sz] 27))) := (Below.refl _ _).alloc (Nat.le_refl _) _
  have HSX : Hid (Sp v 0 → Sp v 0) := id
  have HX : Hid (v.data.toList = lowB false v.data.toList) := rfl
  have HY : Hid (val.data.toList = lowB false val.data.toList) := rfl
  go_enter Try.func191, Try.ntmps191
  go_wp2_with fail
  refine (tru_any false _).mono ?_
  rintro e w3 ⟨rfl, rfl⟩
  go_wp2_with fail
  go_ret
  exact ⟨_, rfl, .inr ⟨rfl, fun h => by cases h⟩, HB0.out⟩

set_option maxRecDepth 100000 in
set_option maxHeartbeats 2000000 in
theorem tested_false_5_true (v val key : ByteArray) (k a b sz : Int) (hv : v.size ≤ 1000000000) (hval : val.size ≤ 1000000000) (w : World) :
    Calls Try.prog 191 #[.string v, .bool true, .agg #[.int .i64 k, .int .i64 5, .string key, .string val, .int .i64 a, .int .i64 b, .int .i64 0, .int .i64 sz]] w (TestPost 5 false true v val w) := by
  have HB0 : Hid (Below w.heap.size w (w.alloc (.cells #[.int .i64 k, .int .i64 5, .string key, .string val, .int .i64 a, .int .i64 b, .int .i64 0, .int .i64 sz] 27))) := (Below.refl _ _).alloc (Nat.le_refl _) _
  have HSX : Hid (Sp v 0 → Sp v 0) := id
  have HX : Hid (v.data.toList = lowB false v.data.toList) := rfl
  have HY : Hid (val.data.toList = lowB false val.data.toList) := rfl
  go_enter Try.func191, Try.ntmps191
  cases hq : (v.toList == val.toList)
  · have HE : Hid (testB 5 false true v.data.toList val.data.toList = standsB v.data.toList 0 (val ++ (⟨#[45]⟩ : ByteArray)).data.toList) := by
      rw [toL, toL]  at hq
      rw [Hid, size_one] ; simp [testB, lowB, hq]
    have hsz : (val ++ (⟨#[45]⟩ : ByteArray)).size = val.size + 1 := by rw [ByteArray.size_append]; rfl
    have hno : val.size + (⟨#[45]⟩ : ByteArray).size ≤ 9223372036854775807 := by show val.size + 1 ≤ _; omega
    have HST := Lib.hid (fun W => stands_any v (val ++ (⟨#[45]⟩ : ByteArray)) 0 (by omega) (by omega) (by omega) W)
    clear hsz
    go_wp2_with fail
    refine (HST.out _).mono ?_
    rintro e w3 ⟨rfl, rfl⟩
    go_wp2_with fail
    refine (tru_any _ _).mono ?_
    rintro e w3 ⟨rfl, rfl⟩
    go_wp2_with fail
    go_ret
    exact ⟨_, rfl, .inr ⟨truI_eq HE.out.symm, fun _ h1 h2 h3 h5 => absurd rfl h5⟩, HB0.out⟩
  · have HE : Hid (testB 5 false true v.data.toList val.data.toList = true) := by
      rw [toL, toL]  at hq
      rw [Hid]; simp [testB, lowB, hq]
    go_wp2_with fail
    refine (tru_any true _).mono ?_
    rintro e w3 ⟨rfl, rfl⟩
    go_wp2_with fail
    go_ret
    exact ⟨_, rfl, .inr ⟨truI_eq HE.out.symm, fun _ h1 h2 h3 h5 => absurd rfl h5⟩, HB0.out⟩

set_option maxRecDepth 100000 in
set_option maxHeartbeats 2000000 in
theorem tested_false_4_false (v val key : ByteArray) (k a b sz : Int) (hv : v.size ≤ 1000000000) (hval : val.size ≤ 1000000000) (w : World) :
    Calls Try.prog 191 #[.string v, .bool false, .agg #[.int .i64 k, .int .i64 4, .string key, .string val, .int .i64 a, .int .i64 b, .int .i64 0, .int .i64 sz]] w (TestPost 4 false false v val w) := by
  have HB0 : Hid (Below w.heap.size w (w.alloc (.cells #[.int .i64 k, .int .i64 4, .string key, .string val, .int .i64 a, .int .i64 b, .int .i64 0, .int .i64 sz] 27))) := (Below.refl _ _).alloc (Nat.le_refl _) _
  have HSX : Hid (Sp v 0 → Sp v 0) := id
  have HX : Hid (v.data.toList = lowB false v.data.toList) := rfl
  have HY : Hid (val.data.toList = lowB false val.data.toList) := rfl
  go_enter Try.func191, Try.ntmps191
  go_wp2_with fail
  go_ret
  exact ⟨0, rfl, .inr ⟨rfl, fun h => by cases h⟩, HB0.out⟩

set_option maxRecDepth 100000 in
set_option maxHeartbeats 2000000 in
theorem tested_false_4_true (v val key : ByteArray) (k a b sz : Int) (hv : v.size ≤ 1000000000) (hval : val.size ≤ 1000000000) (w : World) :
    Calls Try.prog 191 #[.string v, .bool true, .agg #[.int .i64 k, .int .i64 4, .string key, .string val, .int .i64 a, .int .i64 b, .int .i64 0, .int .i64 sz]] w (TestPost 4 false true v val w) := by
  have HB0 : Hid (Below w.heap.size w (w.alloc (.cells #[.int .i64 k, .int .i64 4, .string key, .string val, .int .i64 a, .int .i64 b, .int .i64 0, .int .i64 sz] 27))) := (Below.refl _ _).alloc (Nat.le_refl _) _
  have HSX : Hid (Sp v 0 → Sp v 0) := id
  have HX : Hid (v.data.toList = lowB false v.data.toList) := rfl
  have HY : Hid (val.data.toList = lowB false val.data.toList) := rfl
  go_enter Try.func191, Try.ntmps191
  go_wp2_with fail
  refine (blankAll_any val _ (by omega)).mono ?_
  rintro e w3 ⟨b1, rfl, hb1, rfl⟩
  have HB1 := Lib.hid hb1
  clear hb1
  cases b1
  case true =>
    go_wp2_with fail
    go_ret
    exact ⟨2, rfl, .inl rfl, HB0.out⟩
  go_wp2_with fail
  refine (blankAll_any v _ (by omega)).mono ?_
  rintro e w3 ⟨b2, rfl, hb2, rfl⟩
  have HB3 := Lib.hid hb2
  clear hb2
  cases b2
  case true =>
    go_wp2_with fail
    go_ret
    exact ⟨2, rfl, .inl rfl, HB0.out⟩
  have HS : Hid (val.data.toList ≠ [] ∧ ¬ Sp v 0) := by
    refine ⟨fun h => ?_, fun h => ?_⟩
    · have := HB1.out (nil_low (by exact h)); cases this
    · have := HB3.out (HSX.out h); cases this
  clear HB1 HB3
  have HE : Hid (testB 4 false true v.data.toList val.data.toList = decide (val.data.toList ∈ words v.data.toList)) := by rw [Hid] ; simp [testB, lowB]
  go_wp2_with fail
  refine (word_any v val (by omega) _).mono ?_
  rintro e w4 ⟨rfl, hb4⟩
  have HB4 := Lib.hid (HB0.out.trans (hb4.mono HB0.out.size))
  clear hb4
  go_wp2_with fail
  refine (tru_any _ _).mono ?_
  rintro e w3 ⟨rfl, rfl⟩
  go_wp2_with fail
  go_ret
  exact ⟨_, rfl, .inr ⟨truI_eq HE.out.symm, fun _ _ _ _ _ => HS.out⟩, HB4.out⟩

set_option maxRecDepth 100000 in
set_option maxHeartbeats 2000000 in
theorem tested_false_6_false (v val key : ByteArray) (k a b sz : Int) (hv : v.size ≤ 1000000000) (hval : val.size ≤ 1000000000) (w : World) :
    Calls Try.prog 191 #[.string v, .bool false, .agg #[.int .i64 k, .int .i64 6, .string key, .string val, .int .i64 a, .int .i64 b, .int .i64 0, .int .i64 sz]] w (TestPost 6 false false v val w) := by
  have HB0 : Hid (Below w.heap.size w (w.alloc (.cells #[.int .i64 k, .int .i64 6, .string key, .string val, .int .i64 a, .int .i64 b, .int .i64 0, .int .i64 sz] 27))) := (Below.refl _ _).alloc (Nat.le_refl _) _
  have HSX : Hid (Sp v 0 → Sp v 0) := id
  have HX : Hid (v.data.toList = lowB false v.data.toList) := rfl
  have HY : Hid (val.data.toList = lowB false val.data.toList) := rfl
  go_enter Try.func191, Try.ntmps191
  go_wp2_with fail
  go_ret
  exact ⟨0, rfl, .inr ⟨rfl, fun h => by cases h⟩, HB0.out⟩

set_option maxRecDepth 100000 in
set_option maxHeartbeats 2000000 in
theorem tested_false_6_true (v val key : ByteArray) (k a b sz : Int) (hv : v.size ≤ 1000000000) (hval : val.size ≤ 1000000000) (w : World) :
    Calls Try.prog 191 #[.string v, .bool true, .agg #[.int .i64 k, .int .i64 6, .string key, .string val, .int .i64 a, .int .i64 b, .int .i64 0, .int .i64 sz]] w (TestPost 6 false true v val w) := by
  have HB0 : Hid (Below w.heap.size w (w.alloc (.cells #[.int .i64 k, .int .i64 6, .string key, .string val, .int .i64 a, .int .i64 b, .int .i64 0, .int .i64 sz] 27))) := (Below.refl _ _).alloc (Nat.le_refl _) _
  have HSX : Hid (Sp v 0 → Sp v 0) := id
  have HX : Hid (v.data.toList = lowB false v.data.toList) := rfl
  have HY : Hid (val.data.toList = lowB false val.data.toList) := rfl
  go_enter Try.func191, Try.ntmps191
  go_wp2_with fail
  refine (blankAll_any val _ (by omega)).mono ?_
  rintro e w3 ⟨b1, rfl, hb1, rfl⟩
  have HB1 := Lib.hid hb1
  clear hb1
  cases b1
  case true =>
    go_wp2_with fail
    go_ret
    exact ⟨2, rfl, .inl rfl, HB0.out⟩
  go_wp2_with fail
  refine (blankAll_any v _ (by omega)).mono ?_
  rintro e w3 ⟨b2, rfl, hb2, rfl⟩
  have HB3 := Lib.hid hb2
  clear hb2
  cases b2
  case true =>
    go_wp2_with fail
    go_ret
    exact ⟨2, rfl, .inl rfl, HB0.out⟩
  have HS : Hid (val.data.toList ≠ [] ∧ ¬ Sp v 0) := by
    refine ⟨fun h => ?_, fun h => ?_⟩
    · have := HB1.out (nil_low (by exact h)); cases this
    · have := HB3.out (HSX.out h); cases this
  clear HB1 HB3
  have HE : Hid (testB 6 false true v.data.toList val.data.toList = standsB v.data.toList 0 val.data.toList) := by rw [Hid] ; simp [testB, lowB]
  have HST := Lib.hid (fun W => stands_any v val 0 (by omega) (by omega) (by omega) W)
  go_wp2_with fail
  refine (HST.out _).mono ?_
  rintro e w4 ⟨rfl, rfl⟩
  go_wp2_with fail
  refine (tru_any _ _).mono ?_
  rintro e w3 ⟨rfl, rfl⟩
  go_wp2_with fail
  go_ret
  exact ⟨_, rfl, .inr ⟨truI_eq HE.out.symm, fun _ _ _ _ _ => HS.out⟩, HB0.out⟩

set_option maxRecDepth 100000 in
set_option maxHeartbeats 2000000 in
theorem tested_false_7_false (v val key : ByteArray) (k a b sz : Int) (hv : v.size ≤ 1000000000) (hval : val.size ≤ 1000000000) (w : World) :
    Calls Try.prog 191 #[.string v, .bool false, .agg #[.int .i64 k, .int .i64 7, .string key, .string val, .int .i64 a, .int .i64 b, .int .i64 0, .int .i64 sz]] w (TestPost 7 false false v val w) := by
  have HB0 : Hid (Below w.heap.size w (w.alloc (.cells #[.int .i64 k, .int .i64 7, .string key, .string val, .int .i64 a, .int .i64 b, .int .i64 0, .int .i64 sz] 27))) := (Below.refl _ _).alloc (Nat.le_refl _) _
  have HSX : Hid (Sp v 0 → Sp v 0) := id
  have HX : Hid (v.data.toList = lowB false v.data.toList) := rfl
  have HY : Hid (val.data.toList = lowB false val.data.toList) := rfl
  go_enter Try.func191, Try.ntmps191
  go_wp2_with fail
  go_ret
  exact ⟨0, rfl, .inr ⟨rfl, fun h => by cases h⟩, HB0.out⟩

set_option maxRecDepth 100000 in
set_option maxHeartbeats 2000000 in
theorem tested_false_7_true (v val key : ByteArray) (k a b sz : Int) (hv : v.size ≤ 1000000000) (hval : val.size ≤ 1000000000) (w : World) :
    Calls Try.prog 191 #[.string v, .bool true, .agg #[.int .i64 k, .int .i64 7, .string key, .string val, .int .i64 a, .int .i64 b, .int .i64 0, .int .i64 sz]] w (TestPost 7 false true v val w) := by
  have HB0 : Hid (Below w.heap.size w (w.alloc (.cells #[.int .i64 k, .int .i64 7, .string key, .string val, .int .i64 a, .int .i64 b, .int .i64 0, .int .i64 sz] 27))) := (Below.refl _ _).alloc (Nat.le_refl _) _
  have HSX : Hid (Sp v 0 → Sp v 0) := id
  have HX : Hid (v.data.toList = lowB false v.data.toList) := rfl
  have HY : Hid (val.data.toList = lowB false val.data.toList) := rfl
  go_enter Try.func191, Try.ntmps191
  go_wp2_with fail
  refine (blankAll_any val _ (by omega)).mono ?_
  rintro e w3 ⟨b1, rfl, hb1, rfl⟩
  have HB1 := Lib.hid hb1
  clear hb1
  cases b1
  case true =>
    go_wp2_with fail
    go_ret
    exact ⟨2, rfl, .inl rfl, HB0.out⟩
  go_wp2_with fail
  refine (blankAll_any v _ (by omega)).mono ?_
  rintro e w3 ⟨b2, rfl, hb2, rfl⟩
  have HB3 := Lib.hid hb2
  clear hb2
  cases b2
  case true =>
    go_wp2_with fail
    go_ret
    exact ⟨2, rfl, .inl rfl, HB0.out⟩
  have HS : Hid (val.data.toList ≠ [] ∧ ¬ Sp v 0) := by
    refine ⟨fun h => ?_, fun h => ?_⟩
    · have := HB1.out (nil_low (by exact h)); cases this
    · have := HB3.out (HSX.out h); cases this
  clear HB1 HB3
  have hvl : v.data.toList.length = v.size := rfl
  have hval2 : val.data.toList.length = val.size := rfl
  by_cases hle : val.size ≤ v.size
  · have HE : Hid (testB 7 false true v.data.toList val.data.toList = standsB v.data.toList (v.size - val.size) val.data.toList) := by
      have hd : decide (val.data.toList.length ≤ v.data.toList.length) = true := decide_eq_true (by omega)
      have e7 : v.size - val.size = v.data.toList.length - val.data.toList.length := by omega
      rw [Hid, e7]; simp only [testB, hd, Bool.true_and]; rfl
    have HST : Hid (∀ W z, z = ((v.size : Int) - (val.size : Int)) → Calls Try.prog 172 #[.string v, .int .i64 z, .string val] W fun e w' => e = .returned (.bool (standsB v.data.toList (v.size - val.size) val.data.toList)) ∧ W = w') := by
      intro W z hz
      rw [show z = ((v.size - val.size : Nat) : Int) by omega]
      exact stands_any v val _ (by omega) (by omega) (by omega) W
    clear hvl hval2
    go_wp2_with fail
    refine (HST.out _ _ rfl).mono ?_
    rintro e w4 ⟨rfl, rfl⟩
    go_wp2_with fail
    refine (tru_any _ _).mono ?_
    rintro e w3 ⟨rfl, rfl⟩
    go_wp2_with fail
    go_ret
    exact ⟨_, rfl, .inr ⟨truI_eq HE.out.symm, fun _ _ _ _ _ => HS.out⟩, HB0.out⟩
  · have HE : Hid (testB 7 false true v.data.toList val.data.toList = false) := by
      have hd : decide (val.data.toList.length ≤ v.data.toList.length) = false := decide_eq_false (by omega)
      rw [Hid]; simp only [testB, hd, Bool.false_and, Bool.and_false]; rfl
    have hz : ((v.size : Int) - (val.size : Int)) < 0 := by omega
    have HST := Lib.hid (fun W => stands_low v val ((v.size : Int) - (val.size : Int)) hz W)
    clear hvl hval2
    go_wp2_with fail
    refine (HST.out _).mono ?_
    rintro e w4 ⟨rfl, rfl⟩
    go_wp2_with fail
    refine (tru_any _ _).mono ?_
    rintro e w3 ⟨rfl, rfl⟩
    go_wp2_with fail
    go_ret
    exact ⟨_, rfl, .inr ⟨truI_eq HE.out.symm, fun _ _ _ _ _ => HS.out⟩, HB0.out⟩

set_option maxRecDepth 100000 in
set_option maxHeartbeats 2000000 in
theorem tested_false_8_false (v val key : ByteArray) (k a b sz : Int) (hv : v.size ≤ 1000000000) (hval : val.size ≤ 1000000000) (w : World) :
    Calls Try.prog 191 #[.string v, .bool false, .agg #[.int .i64 k, .int .i64 8, .string key, .string val, .int .i64 a, .int .i64 b, .int .i64 0, .int .i64 sz]] w (TestPost 8 false false v val w) := by
  have HB0 : Hid (Below w.heap.size w (w.alloc (.cells #[.int .i64 k, .int .i64 8, .string key, .string val, .int .i64 a, .int .i64 b, .int .i64 0, .int .i64 sz] 27))) := (Below.refl _ _).alloc (Nat.le_refl _) _
  have HSX : Hid (Sp v 0 → Sp v 0) := id
  have HX : Hid (v.data.toList = lowB false v.data.toList) := rfl
  have HY : Hid (val.data.toList = lowB false val.data.toList) := rfl
  go_enter Try.func191, Try.ntmps191
  go_wp2_with fail
  go_ret
  exact ⟨0, rfl, .inr ⟨rfl, fun h => by cases h⟩, HB0.out⟩

set_option maxRecDepth 100000 in
set_option maxHeartbeats 2000000 in
theorem tested_false_8_true (v val key : ByteArray) (k a b sz : Int) (hv : v.size ≤ 1000000000) (hval : val.size ≤ 1000000000) (w : World) :
    Calls Try.prog 191 #[.string v, .bool true, .agg #[.int .i64 k, .int .i64 8, .string key, .string val, .int .i64 a, .int .i64 b, .int .i64 0, .int .i64 sz]] w (TestPost 8 false true v val w) := by
  have HB0 : Hid (Below w.heap.size w (w.alloc (.cells #[.int .i64 k, .int .i64 8, .string key, .string val, .int .i64 a, .int .i64 b, .int .i64 0, .int .i64 sz] 27))) := (Below.refl _ _).alloc (Nat.le_refl _) _
  have HSX : Hid (Sp v 0 → Sp v 0) := id
  have HX : Hid (v.data.toList = lowB false v.data.toList) := rfl
  have HY : Hid (val.data.toList = lowB false val.data.toList) := rfl
  go_enter Try.func191, Try.ntmps191
  go_wp2_with fail
  refine (blankAll_any val _ (by omega)).mono ?_
  rintro e w3 ⟨b1, rfl, hb1, rfl⟩
  have HB1 := Lib.hid hb1
  clear hb1
  cases b1
  case true =>
    go_wp2_with fail
    go_ret
    exact ⟨2, rfl, .inl rfl, HB0.out⟩
  go_wp2_with fail
  refine (blankAll_any v _ (by omega)).mono ?_
  rintro e w3 ⟨b2, rfl, hb2, rfl⟩
  have HB3 := Lib.hid hb2
  clear hb2
  cases b2
  case true =>
    go_wp2_with fail
    go_ret
    exact ⟨2, rfl, .inl rfl, HB0.out⟩
  have HS : Hid (val.data.toList ≠ [] ∧ ¬ Sp v 0) := by
    refine ⟨fun h => ?_, fun h => ?_⟩
    · have := HB1.out (nil_low (by exact h)); cases this
    · have := HB3.out (HSX.out h); cases this
  clear HB1 HB3
  have HE : Hid (testB 8 false true v.data.toList val.data.toList = Lib.contains v.data.toList val.data.toList) := by rw [Hid] ; simp [testB, lowB]
  have HST := Lib.hid (fun W => inside_any v val (by omega) (by omega) W)
  go_wp2_with fail
  refine (HST.out _).mono ?_
  rintro e w4 ⟨rfl, rfl⟩
  go_wp2_with fail
  refine (tru_any _ _).mono ?_
  rintro e w3 ⟨rfl, rfl⟩
  go_wp2_with fail
  go_ret
  exact ⟨_, rfl, .inr ⟨truI_eq HE.out.symm, fun _ _ _ _ _ => HS.out⟩, HB0.out⟩

set_option maxRecDepth 100000 in
set_option maxHeartbeats 2000000 in
theorem tested_true_1_false (v val key : ByteArray) (k a b sz : Int) (hv : v.size ≤ 1000000000) (hval : val.size ≤ 1000000000) (w : World) :
    Calls Try.prog 191 #[.string v, .bool false, .agg #[.int .i64 k, .int .i64 1, .string key, .string val, .int .i64 a, .int .i64 b, .int .i64 1, .int .i64 sz]] w (TestPost 1 true false v val w) := by
  have HB0 : Hid (Below w.heap.size w (w.alloc (.cells #[.int .i64 k, .int .i64 1, .string key, .string val, .int .i64 a, .int .i64 b, .int .i64 1, .int .i64 sz] 27))) := (Below.refl _ _).alloc (Nat.le_refl _) _
  have gc : (w.alloc (.cells #[.int .i64 k, .int .i64 1, .string key, .string val, .int .i64 a, .int .i64 b, .int .i64 1, .int .i64 sz] 27)).cell? ⟨w.heap.size, 1, none⟩ = some (.int .i64 1) := (World.cell?_alloc_mark _ _ _ _ 1).trans rfl
  have GC := Lib.hid gc
  clear gc
  go_enter Try.func191, Try.ntmps191
  go_wp2_with fail
  refine (ascii_any v _ (by omega)).mono ?_
  rintro e w1 ⟨rfl, rfl⟩
  cases hA : ascB v.data.toList
  · go_wp2_with fail
    go_ret
    exact ⟨2, rfl, .inl rfl, HB0.out⟩
  have HA := Lib.hid hA
  clear hA
  go_wp2_with fail
  refine (ascii_any val _ (by omega)).mono ?_
  rintro e w1 ⟨rfl, rfl⟩
  cases hA2 : ascB val.data.toList
  · go_wp2_with fail
    go_ret
    exact ⟨2, rfl, .inl rfl, HB0.out⟩
  have HSX : Hid (Sp v 0 → Sp (lowS v) 0) := fun h => by rw [sp_low HA.out h]; exact h
  clear hA2
  go_wp2_with fail
  refine (small_any v _ (by omega)).mono ?_
  rintro e w1 ⟨rfl, hb1⟩
  have g1a := (hb1.cell (p := ⟨w.heap.size, 1, none⟩) (by simp)).trans GC.out
  have hlt1 : w.heap.size < w1.heap.size := by have := hb1.size; simp at this; omega
  have HB1 := Lib.hid (HB0.out.trans (hb1.mono (by simp)))
  clear hb1
  go_wp2_with fail
  refine (small_any val _ (by omega)).mono ?_
  rintro e w2 ⟨rfl, hb2⟩
  have g1 := (hb2.cell (p := ⟨w.heap.size, 1, none⟩) hlt1).trans g1a
  have HB2 := Lib.hid (bn HB1.out hb2)
  have hX : (lowS v).data.toList = lowB true v.data.toList := by rw [lowS_sm]; rfl
  have hY : (lowS val).data.toList = lowB true val.data.toList := by rw [lowS_sm]; rfl
  have hXs : (lowS v).size ≤ v.size ∧ v.size ≤ (lowS v).size := by rw [size_low]; exact ⟨Nat.le_refl _, Nat.le_refl _⟩
  have hYs : (lowS val).size ≤ val.size ∧ val.size ≤ (lowS val).size := by rw [size_low]; exact ⟨Nat.le_refl _, Nat.le_refl _⟩
  obtain ⟨X, hXX⟩ : ∃ X, X = lowS v := ⟨_, rfl⟩
  obtain ⟨Y, hYY⟩ : ∃ Y, Y = lowS val := ⟨_, rfl⟩
  rw [← hXX] at hX hXs HSX ⊢
  rw [← hYY] at hY hYs ⊢
  have HX := Lib.hid hX
  have HY := Lib.hid hY
  clear hb2 hXX hYY HB0 hX hY g1a GC HA
  go_wp2_with fail
  refine (tru_any false _).mono ?_
  rintro e w3 ⟨rfl, rfl⟩
  go_wp2_with fail
  go_ret
  exact ⟨_, rfl, .inr ⟨rfl, fun h => by cases h⟩, HB2.out⟩

set_option maxRecDepth 100000 in
set_option maxHeartbeats 2000000 in
theorem tested_true_1_true (v val key : ByteArray) (k a b sz : Int) (hv : v.size ≤ 1000000000) (hval : val.size ≤ 1000000000) (w : World) :
    Calls Try.prog 191 #[.string v, .bool true, .agg #[.int .i64 k, .int .i64 1, .string key, .string val, .int .i64 a, .int .i64 b, .int .i64 1, .int .i64 sz]] w (TestPost 1 true true v val w) := by
  have HB0 : Hid (Below w.heap.size w (w.alloc (.cells #[.int .i64 k, .int .i64 1, .string key, .string val, .int .i64 a, .int .i64 b, .int .i64 1, .int .i64 sz] 27))) := (Below.refl _ _).alloc (Nat.le_refl _) _
  have gc : (w.alloc (.cells #[.int .i64 k, .int .i64 1, .string key, .string val, .int .i64 a, .int .i64 b, .int .i64 1, .int .i64 sz] 27)).cell? ⟨w.heap.size, 1, none⟩ = some (.int .i64 1) := (World.cell?_alloc_mark _ _ _ _ 1).trans rfl
  have GC := Lib.hid gc
  clear gc
  go_enter Try.func191, Try.ntmps191
  go_wp2_with fail
  refine (ascii_any v _ (by omega)).mono ?_
  rintro e w1 ⟨rfl, rfl⟩
  cases hA : ascB v.data.toList
  · go_wp2_with fail
    go_ret
    exact ⟨2, rfl, .inl rfl, HB0.out⟩
  have HA := Lib.hid hA
  clear hA
  go_wp2_with fail
  refine (ascii_any val _ (by omega)).mono ?_
  rintro e w1 ⟨rfl, rfl⟩
  cases hA2 : ascB val.data.toList
  · go_wp2_with fail
    go_ret
    exact ⟨2, rfl, .inl rfl, HB0.out⟩
  have HSX : Hid (Sp v 0 → Sp (lowS v) 0) := fun h => by rw [sp_low HA.out h]; exact h
  clear hA2
  go_wp2_with fail
  refine (small_any v _ (by omega)).mono ?_
  rintro e w1 ⟨rfl, hb1⟩
  have g1a := (hb1.cell (p := ⟨w.heap.size, 1, none⟩) (by simp)).trans GC.out
  have hlt1 : w.heap.size < w1.heap.size := by have := hb1.size; simp at this; omega
  have HB1 := Lib.hid (HB0.out.trans (hb1.mono (by simp)))
  clear hb1
  go_wp2_with fail
  refine (small_any val _ (by omega)).mono ?_
  rintro e w2 ⟨rfl, hb2⟩
  have g1 := (hb2.cell (p := ⟨w.heap.size, 1, none⟩) hlt1).trans g1a
  have HB2 := Lib.hid (bn HB1.out hb2)
  have hX : (lowS v).data.toList = lowB true v.data.toList := by rw [lowS_sm]; rfl
  have hY : (lowS val).data.toList = lowB true val.data.toList := by rw [lowS_sm]; rfl
  have hXs : (lowS v).size ≤ v.size ∧ v.size ≤ (lowS v).size := by rw [size_low]; exact ⟨Nat.le_refl _, Nat.le_refl _⟩
  have hYs : (lowS val).size ≤ val.size ∧ val.size ≤ (lowS val).size := by rw [size_low]; exact ⟨Nat.le_refl _, Nat.le_refl _⟩
  obtain ⟨X, hXX⟩ : ∃ X, X = lowS v := ⟨_, rfl⟩
  obtain ⟨Y, hYY⟩ : ∃ Y, Y = lowS val := ⟨_, rfl⟩
  rw [← hXX] at hX hXs HSX ⊢
  rw [← hYY] at hY hYs ⊢
  have HX := Lib.hid hX
  have HY := Lib.hid hY
  clear hb2 hXX hYY HB0 hX hY g1a GC HA
  go_wp2_with fail
  refine (tru_any true _).mono ?_
  rintro e w3 ⟨rfl, rfl⟩
  go_wp2_with fail
  go_ret
  exact ⟨_, rfl, .inr ⟨rfl, fun _ h1 h2 h3 h5 => absurd rfl h1⟩, HB2.out⟩

set_option maxRecDepth 100000 in
set_option maxHeartbeats 2000000 in
theorem tested_true_2_false (v val key : ByteArray) (k a b sz : Int) (hv : v.size ≤ 1000000000) (hval : val.size ≤ 1000000000) (w : World) :
    Calls Try.prog 191 #[.string v, .bool false, .agg #[.int .i64 k, .int .i64 2, .string key, .string val, .int .i64 a, .int .i64 b, .int .i64 1, .int .i64 sz]] w (TestPost 2 true false v val w) := by
  have HB0 : Hid (Below w.heap.size w (w.alloc (.cells #[.int .i64 k, .int .i64 2, .string key, .string val, .int .i64 a, .int .i64 b, .int .i64 1, .int .i64 sz] 27))) := (Below.refl _ _).alloc (Nat.le_refl _) _
  have gc : (w.alloc (.cells #[.int .i64 k, .int .i64 2, .string key, .string val, .int .i64 a, .int .i64 b, .int .i64 1, .int .i64 sz] 27)).cell? ⟨w.heap.size, 1, none⟩ = some (.int .i64 2) := (World.cell?_alloc_mark _ _ _ _ 1).trans rfl
  have GC := Lib.hid gc
  clear gc
  go_enter Try.func191, Try.ntmps191
  go_wp2_with fail
  refine (ascii_any v _ (by omega)).mono ?_
  rintro e w1 ⟨rfl, rfl⟩
  cases hA : ascB v.data.toList
  · go_wp2_with fail
    go_ret
    exact ⟨2, rfl, .inl rfl, HB0.out⟩
  have HA := Lib.hid hA
  clear hA
  go_wp2_with fail
  refine (ascii_any val _ (by omega)).mono ?_
  rintro e w1 ⟨rfl, rfl⟩
  cases hA2 : ascB val.data.toList
  · go_wp2_with fail
    go_ret
    exact ⟨2, rfl, .inl rfl, HB0.out⟩
  have HSX : Hid (Sp v 0 → Sp (lowS v) 0) := fun h => by rw [sp_low HA.out h]; exact h
  clear hA2
  go_wp2_with fail
  refine (small_any v _ (by omega)).mono ?_
  rintro e w1 ⟨rfl, hb1⟩
  have g1a := (hb1.cell (p := ⟨w.heap.size, 1, none⟩) (by simp)).trans GC.out
  have hlt1 : w.heap.size < w1.heap.size := by have := hb1.size; simp at this; omega
  have HB1 := Lib.hid (HB0.out.trans (hb1.mono (by simp)))
  clear hb1
  go_wp2_with fail
  refine (small_any val _ (by omega)).mono ?_
  rintro e w2 ⟨rfl, hb2⟩
  have g1 := (hb2.cell (p := ⟨w.heap.size, 1, none⟩) hlt1).trans g1a
  have HB2 := Lib.hid (bn HB1.out hb2)
  have hX : (lowS v).data.toList = lowB true v.data.toList := by rw [lowS_sm]; rfl
  have hY : (lowS val).data.toList = lowB true val.data.toList := by rw [lowS_sm]; rfl
  have hXs : (lowS v).size ≤ v.size ∧ v.size ≤ (lowS v).size := by rw [size_low]; exact ⟨Nat.le_refl _, Nat.le_refl _⟩
  have hYs : (lowS val).size ≤ val.size ∧ val.size ≤ (lowS val).size := by rw [size_low]; exact ⟨Nat.le_refl _, Nat.le_refl _⟩
  obtain ⟨X, hXX⟩ : ∃ X, X = lowS v := ⟨_, rfl⟩
  obtain ⟨Y, hYY⟩ : ∃ Y, Y = lowS val := ⟨_, rfl⟩
  rw [← hXX] at hX hXs HSX ⊢
  rw [← hYY] at hY hYs ⊢
  have HX := Lib.hid hX
  have HY := Lib.hid hY
  clear hb2 hXX hYY HB0 hX hY g1a GC HA
  go_wp2_with fail
  refine (tru_any false _).mono ?_
  rintro e w3 ⟨rfl, rfl⟩
  go_wp2_with fail
  go_ret
  exact ⟨_, rfl, .inr ⟨rfl, fun h => by cases h⟩, HB2.out⟩

set_option maxRecDepth 100000 in
set_option maxHeartbeats 2000000 in
theorem tested_true_2_true (v val key : ByteArray) (k a b sz : Int) (hv : v.size ≤ 1000000000) (hval : val.size ≤ 1000000000) (w : World) :
    Calls Try.prog 191 #[.string v, .bool true, .agg #[.int .i64 k, .int .i64 2, .string key, .string val, .int .i64 a, .int .i64 b, .int .i64 1, .int .i64 sz]] w (TestPost 2 true true v val w) := by
  have HB0 : Hid (Below w.heap.size w (w.alloc (.cells #[.int .i64 k, .int .i64 2, .string key, .string val, .int .i64 a, .int .i64 b, .int .i64 1, .int .i64 sz] 27))) := (Below.refl _ _).alloc (Nat.le_refl _) _
  have gc : (w.alloc (.cells #[.int .i64 k, .int .i64 2, .string key, .string val, .int .i64 a, .int .i64 b, .int .i64 1, .int .i64 sz] 27)).cell? ⟨w.heap.size, 1, none⟩ = some (.int .i64 2) := (World.cell?_alloc_mark _ _ _ _ 1).trans rfl
  have GC := Lib.hid gc
  clear gc
  go_enter Try.func191, Try.ntmps191
  go_wp2_with fail
  refine (ascii_any v _ (by omega)).mono ?_
  rintro e w1 ⟨rfl, rfl⟩
  cases hA : ascB v.data.toList
  · go_wp2_with fail
    go_ret
    exact ⟨2, rfl, .inl rfl, HB0.out⟩
  have HA := Lib.hid hA
  clear hA
  go_wp2_with fail
  refine (ascii_any val _ (by omega)).mono ?_
  rintro e w1 ⟨rfl, rfl⟩
  cases hA2 : ascB val.data.toList
  · go_wp2_with fail
    go_ret
    exact ⟨2, rfl, .inl rfl, HB0.out⟩
  have HSX : Hid (Sp v 0 → Sp (lowS v) 0) := fun h => by rw [sp_low HA.out h]; exact h
  clear hA2
  go_wp2_with fail
  refine (small_any v _ (by omega)).mono ?_
  rintro e w1 ⟨rfl, hb1⟩
  have g1a := (hb1.cell (p := ⟨w.heap.size, 1, none⟩) (by simp)).trans GC.out
  have hlt1 : w.heap.size < w1.heap.size := by have := hb1.size; simp at this; omega
  have HB1 := Lib.hid (HB0.out.trans (hb1.mono (by simp)))
  clear hb1
  go_wp2_with fail
  refine (small_any val _ (by omega)).mono ?_
  rintro e w2 ⟨rfl, hb2⟩
  have g1 := (hb2.cell (p := ⟨w.heap.size, 1, none⟩) hlt1).trans g1a
  have HB2 := Lib.hid (bn HB1.out hb2)
  have hX : (lowS v).data.toList = lowB true v.data.toList := by rw [lowS_sm]; rfl
  have hY : (lowS val).data.toList = lowB true val.data.toList := by rw [lowS_sm]; rfl
  have hXs : (lowS v).size ≤ v.size ∧ v.size ≤ (lowS v).size := by rw [size_low]; exact ⟨Nat.le_refl _, Nat.le_refl _⟩
  have hYs : (lowS val).size ≤ val.size ∧ val.size ≤ (lowS val).size := by rw [size_low]; exact ⟨Nat.le_refl _, Nat.le_refl _⟩
  obtain ⟨X, hXX⟩ : ∃ X, X = lowS v := ⟨_, rfl⟩
  obtain ⟨Y, hYY⟩ : ∃ Y, Y = lowS val := ⟨_, rfl⟩
  rw [← hXX] at hX hXs HSX ⊢
  rw [← hYY] at hY hYs ⊢
  have HX := Lib.hid hX
  have HY := Lib.hid hY
  clear hb2 hXX hYY HB0 hX hY g1a GC HA
  have HE : Hid (testB 2 true true v.data.toList val.data.toList = (X.toList == Y.toList)) := by rw [Hid]; rw [toL, toL, HX.out, HY.out]; simp [testB]
  go_wp2_with fail
  refine (tru_any (X.toList == Y.toList) _).mono ?_
  rintro e w3 ⟨rfl, rfl⟩
  go_wp2_with fail
  go_ret
  exact ⟨_, rfl, .inr ⟨truI_eq HE.out.symm, fun _ h1 h2 h3 h5 => absurd rfl h2⟩, HB2.out⟩

set_option maxRecDepth 100000 in
set_option maxHeartbeats 2000000 in
theorem tested_true_3_false (v val key : ByteArray) (k a b sz : Int) (hv : v.size ≤ 1000000000) (hval : val.size ≤ 1000000000) (w : World) :
    Calls Try.prog 191 #[.string v, .bool false, .agg #[.int .i64 k, .int .i64 3, .string key, .string val, .int .i64 a, .int .i64 b, .int .i64 1, .int .i64 sz]] w (TestPost 3 true false v val w) := by
  have HB0 : Hid (Below w.heap.size w (w.alloc (.cells #[.int .i64 k, .int .i64 3, .string key, .string val, .int .i64 a, .int .i64 b, .int .i64 1, .int .i64 sz] 27))) := (Below.refl _ _).alloc (Nat.le_refl _) _
  have gc : (w.alloc (.cells #[.int .i64 k, .int .i64 3, .string key, .string val, .int .i64 a, .int .i64 b, .int .i64 1, .int .i64 sz] 27)).cell? ⟨w.heap.size, 1, none⟩ = some (.int .i64 3) := (World.cell?_alloc_mark _ _ _ _ 1).trans rfl
  have GC := Lib.hid gc
  clear gc
  go_enter Try.func191, Try.ntmps191
  go_wp2_with fail
  refine (ascii_any v _ (by omega)).mono ?_
  rintro e w1 ⟨rfl, rfl⟩
  cases hA : ascB v.data.toList
  · go_wp2_with fail
    go_ret
    exact ⟨2, rfl, .inl rfl, HB0.out⟩
  have HA := Lib.hid hA
  clear hA
  go_wp2_with fail
  refine (ascii_any val _ (by omega)).mono ?_
  rintro e w1 ⟨rfl, rfl⟩
  cases hA2 : ascB val.data.toList
  · go_wp2_with fail
    go_ret
    exact ⟨2, rfl, .inl rfl, HB0.out⟩
  have HSX : Hid (Sp v 0 → Sp (lowS v) 0) := fun h => by rw [sp_low HA.out h]; exact h
  clear hA2
  go_wp2_with fail
  refine (small_any v _ (by omega)).mono ?_
  rintro e w1 ⟨rfl, hb1⟩
  have g1a := (hb1.cell (p := ⟨w.heap.size, 1, none⟩) (by simp)).trans GC.out
  have hlt1 : w.heap.size < w1.heap.size := by have := hb1.size; simp at this; omega
  have HB1 := Lib.hid (HB0.out.trans (hb1.mono (by simp)))
  clear hb1
  go_wp2_with fail
  refine (small_any val _ (by omega)).mono ?_
  rintro e w2 ⟨rfl, hb2⟩
  have g1 := (hb2.cell (p := ⟨w.heap.size, 1, none⟩) hlt1).trans g1a
  have HB2 := Lib.hid (bn HB1.out hb2)
  have hX : (lowS v).data.toList = lowB true v.data.toList := by rw [lowS_sm]; rfl
  have hY : (lowS val).data.toList = lowB true val.data.toList := by rw [lowS_sm]; rfl
  have hXs : (lowS v).size ≤ v.size ∧ v.size ≤ (lowS v).size := by rw [size_low]; exact ⟨Nat.le_refl _, Nat.le_refl _⟩
  have hYs : (lowS val).size ≤ val.size ∧ val.size ≤ (lowS val).size := by rw [size_low]; exact ⟨Nat.le_refl _, Nat.le_refl _⟩
  obtain ⟨X, hXX⟩ : ∃ X, X = lowS v := ⟨_, rfl⟩
  obtain ⟨Y, hYY⟩ : ∃ Y, Y = lowS val := ⟨_, rfl⟩
  rw [← hXX] at hX hXs HSX ⊢
  rw [← hYY] at hY hYs ⊢
  have HX := Lib.hid hX
  have HY := Lib.hid hY
  clear hb2 hXX hYY HB0 hX hY g1a GC HA
  go_wp2_with fail
  refine (tru_any true _).mono ?_
  rintro e w3 ⟨rfl, rfl⟩
  go_wp2_with fail
  go_ret
  exact ⟨_, rfl, .inr ⟨rfl, fun h => by cases h⟩, HB2.out⟩

set_option maxRecDepth 100000 in
set_option maxHeartbeats 2000000 in
theorem tested_true_3_true (v val key : ByteArray) (k a b sz : Int) (hv : v.size ≤ 1000000000) (hval : val.size ≤ 1000000000) (w : World) :
    Calls Try.prog 191 #[.string v, .bool true, .agg #[.int .i64 k, .int .i64 3, .string key, .string val, .int .i64 a, .int .i64 b, .int .i64 1, .int .i64 sz]] w (TestPost 3 true true v val w) := by
  have HB0 : Hid (Below w.heap.size w (w.alloc (.cells #[.int .i64 k, .int .i64 3, .string key, .string val, .int .i64 a, .int .i64 b, .int .i64 1, .int .i64 sz] 27))) := (Below.refl _ _).alloc (Nat.le_refl _) _
  have gc : (w.alloc (.cells #[.int .i64 k, .int .i64 3, .string key, .string val, .int .i64 a, .int .i64 b, .int .i64 1, .int .i64 sz] 27)).cell? ⟨w.heap.size, 1, none⟩ = some (.int .i64 3) := (World.cell?_alloc_mark _ _ _ _ 1).trans rfl
  have GC := Lib.hid gc
  clear gc
  go_enter Try.func191, Try.ntmps191
  go_wp2_with fail
  refine (ascii_any v _ (by omega)).mono ?_
  rintro e w1 ⟨rfl, rfl⟩
  cases hA : ascB v.data.toList
  · go_wp2_with fail
    go_ret
    exact ⟨2, rfl, .inl rfl, HB0.out⟩
  have HA := Lib.hid hA
  clear hA
  go_wp2_with fail
  refine (ascii_any val _ (by omega)).mono ?_
  rintro e w1 ⟨rfl, rfl⟩
  cases hA2 : ascB val.data.toList
  · go_wp2_with fail
    go_ret
    exact ⟨2, rfl, .inl rfl, HB0.out⟩
  have HSX : Hid (Sp v 0 → Sp (lowS v) 0) := fun h => by rw [sp_low HA.out h]; exact h
  clear hA2
  go_wp2_with fail
  refine (small_any v _ (by omega)).mono ?_
  rintro e w1 ⟨rfl, hb1⟩
  have g1a := (hb1.cell (p := ⟨w.heap.size, 1, none⟩) (by simp)).trans GC.out
  have hlt1 : w.heap.size < w1.heap.size := by have := hb1.size; simp at this; omega
  have HB1 := Lib.hid (HB0.out.trans (hb1.mono (by simp)))
  clear hb1
  go_wp2_with fail
  refine (small_any val _ (by omega)).mono ?_
  rintro e w2 ⟨rfl, hb2⟩
  have g1 := (hb2.cell (p := ⟨w.heap.size, 1, none⟩) hlt1).trans g1a
  have HB2 := Lib.hid (bn HB1.out hb2)
  have hX : (lowS v).data.toList = lowB true v.data.toList := by rw [lowS_sm]; rfl
  have hY : (lowS val).data.toList = lowB true val.data.toList := by rw [lowS_sm]; rfl
  have hXs : (lowS v).size ≤ v.size ∧ v.size ≤ (lowS v).size := by rw [size_low]; exact ⟨Nat.le_refl _, Nat.le_refl _⟩
  have hYs : (lowS val).size ≤ val.size ∧ val.size ≤ (lowS val).size := by rw [size_low]; exact ⟨Nat.le_refl _, Nat.le_refl _⟩
  obtain ⟨X, hXX⟩ : ∃ X, X = lowS v := ⟨_, rfl⟩
  obtain ⟨Y, hYY⟩ : ∃ Y, Y = lowS val := ⟨_, rfl⟩
  rw [← hXX] at hX hXs HSX ⊢
  rw [← hYY] at hY hYs ⊢
  have HX := Lib.hid hX
  have HY := Lib.hid hY
  clear hb2 hXX hYY HB0 hX hY g1a GC HA
  have HE : Hid (testB 3 true true v.data.toList val.data.toList = (X.toList != Y.toList)) := by rw [Hid]; unfold bne; rw [toL, toL, HX.out, HY.out]; simp [testB]
  go_wp2_with fail
  refine (tru_any (X.toList != Y.toList) _).mono ?_
  rintro e w3 ⟨rfl, rfl⟩
  go_wp2_with fail
  go_ret
  exact ⟨_, rfl, .inr ⟨truI_eq HE.out.symm, fun _ h1 h2 h3 h5 => absurd rfl h3⟩, HB2.out⟩

set_option maxRecDepth 100000 in
set_option maxHeartbeats 2000000 in
theorem tested_true_5_false (v val key : ByteArray) (k a b sz : Int) (hv : v.size ≤ 1000000000) (hval : val.size ≤ 1000000000) (w : World) :
    Calls Try.prog 191 #[.string v, .bool false, .agg #[.int .i64 k, .int .i64 5, .string key, .string val, .int .i64 a, .int .i64 b, .int .i64 1, .int .i64 sz]] w (TestPost 5 true false v val w) := by
  have HB0 : Hid (Below w.heap.size w (w.alloc (.cells #[.int .i64 k, .int .i64 5, .string key, .string val, .int .i64 a, .int .i64 b, .int .i64 1, .int .i64 sz] 27))) := (Below.refl _ _).alloc (Nat.le_refl _) _
  have gc : (w.alloc (.cells #[.int .i64 k, .int .i64 5, .string key, .string val, .int .i64 a, .int .i64 b, .int .i64 1, .int .i64 sz] 27)).cell? ⟨w.heap.size, 1, none⟩ = some (.int .i64 5) := (World.cell?_alloc_mark _ _ _ _ 1).trans rfl
  have GC := Lib.hid gc
  clear gc
  go_enter Try.func191, Try.ntmps191
  go_wp2_with fail
  refine (ascii_any v _ (by omega)).mono ?_
  rintro e w1 ⟨rfl, rfl⟩
  cases hA : ascB v.data.toList
  · go_wp2_with fail
    go_ret
    exact ⟨2, rfl, .inl rfl, HB0.out⟩
  have HA := Lib.hid hA
  clear hA
  go_wp2_with fail
  refine (ascii_any val _ (by omega)).mono ?_
  rintro e w1 ⟨rfl, rfl⟩
  cases hA2 : ascB val.data.toList
  · go_wp2_with fail
    go_ret
    exact ⟨2, rfl, .inl rfl, HB0.out⟩
  have HSX : Hid (Sp v 0 → Sp (lowS v) 0) := fun h => by rw [sp_low HA.out h]; exact h
  clear hA2
  go_wp2_with fail
  refine (small_any v _ (by omega)).mono ?_
  rintro e w1 ⟨rfl, hb1⟩
  have g1a := (hb1.cell (p := ⟨w.heap.size, 1, none⟩) (by simp)).trans GC.out
  have hlt1 : w.heap.size < w1.heap.size := by have := hb1.size; simp at this; omega
  have HB1 := Lib.hid (HB0.out.trans (hb1.mono (by simp)))
  clear hb1
  go_wp2_with fail
  refine (small_any val _ (by omega)).mono ?_
  rintro e w2 ⟨rfl, hb2⟩
  have g1 := (hb2.cell (p := ⟨w.heap.size, 1, none⟩) hlt1).trans g1a
  have HB2 := Lib.hid (bn HB1.out hb2)
  have hX : (lowS v).data.toList = lowB true v.data.toList := by rw [lowS_sm]; rfl
  have hY : (lowS val).data.toList = lowB true val.data.toList := by rw [lowS_sm]; rfl
  have hXs : (lowS v).size ≤ v.size ∧ v.size ≤ (lowS v).size := by rw [size_low]; exact ⟨Nat.le_refl _, Nat.le_refl _⟩
  have hYs : (lowS val).size ≤ val.size ∧ val.size ≤ (lowS val).size := by rw [size_low]; exact ⟨Nat.le_refl _, Nat.le_refl _⟩
  obtain ⟨X, hXX⟩ : ∃ X, X = lowS v := ⟨_, rfl⟩
  obtain ⟨Y, hYY⟩ : ∃ Y, Y = lowS val := ⟨_, rfl⟩
  rw [← hXX] at hX hXs HSX ⊢
  rw [← hYY] at hY hYs ⊢
  have HX := Lib.hid hX
  have HY := Lib.hid hY
  clear hb2 hXX hYY HB0 hX hY g1a GC HA
  go_wp2_with fail
  refine (tru_any false _).mono ?_
  rintro e w3 ⟨rfl, rfl⟩
  go_wp2_with fail
  go_ret
  exact ⟨_, rfl, .inr ⟨rfl, fun h => by cases h⟩, HB2.out⟩

set_option maxRecDepth 100000 in
set_option maxHeartbeats 2000000 in
theorem tested_true_5_true (v val key : ByteArray) (k a b sz : Int) (hv : v.size ≤ 1000000000) (hval : val.size ≤ 1000000000) (w : World) :
    Calls Try.prog 191 #[.string v, .bool true, .agg #[.int .i64 k, .int .i64 5, .string key, .string val, .int .i64 a, .int .i64 b, .int .i64 1, .int .i64 sz]] w (TestPost 5 true true v val w) := by
  have HB0 : Hid (Below w.heap.size w (w.alloc (.cells #[.int .i64 k, .int .i64 5, .string key, .string val, .int .i64 a, .int .i64 b, .int .i64 1, .int .i64 sz] 27))) := (Below.refl _ _).alloc (Nat.le_refl _) _
  have gc : (w.alloc (.cells #[.int .i64 k, .int .i64 5, .string key, .string val, .int .i64 a, .int .i64 b, .int .i64 1, .int .i64 sz] 27)).cell? ⟨w.heap.size, 1, none⟩ = some (.int .i64 5) := (World.cell?_alloc_mark _ _ _ _ 1).trans rfl
  have GC := Lib.hid gc
  clear gc
  go_enter Try.func191, Try.ntmps191
  go_wp2_with fail
  refine (ascii_any v _ (by omega)).mono ?_
  rintro e w1 ⟨rfl, rfl⟩
  cases hA : ascB v.data.toList
  · go_wp2_with fail
    go_ret
    exact ⟨2, rfl, .inl rfl, HB0.out⟩
  have HA := Lib.hid hA
  clear hA
  go_wp2_with fail
  refine (ascii_any val _ (by omega)).mono ?_
  rintro e w1 ⟨rfl, rfl⟩
  cases hA2 : ascB val.data.toList
  · go_wp2_with fail
    go_ret
    exact ⟨2, rfl, .inl rfl, HB0.out⟩
  have HSX : Hid (Sp v 0 → Sp (lowS v) 0) := fun h => by rw [sp_low HA.out h]; exact h
  clear hA2
  go_wp2_with fail
  refine (small_any v _ (by omega)).mono ?_
  rintro e w1 ⟨rfl, hb1⟩
  have g1a := (hb1.cell (p := ⟨w.heap.size, 1, none⟩) (by simp)).trans GC.out
  have hlt1 : w.heap.size < w1.heap.size := by have := hb1.size; simp at this; omega
  have HB1 := Lib.hid (HB0.out.trans (hb1.mono (by simp)))
  clear hb1
  go_wp2_with fail
  refine (small_any val _ (by omega)).mono ?_
  rintro e w2 ⟨rfl, hb2⟩
  have g1 := (hb2.cell (p := ⟨w.heap.size, 1, none⟩) hlt1).trans g1a
  have HB2 := Lib.hid (bn HB1.out hb2)
  have hX : (lowS v).data.toList = lowB true v.data.toList := by rw [lowS_sm]; rfl
  have hY : (lowS val).data.toList = lowB true val.data.toList := by rw [lowS_sm]; rfl
  have hXs : (lowS v).size ≤ v.size ∧ v.size ≤ (lowS v).size := by rw [size_low]; exact ⟨Nat.le_refl _, Nat.le_refl _⟩
  have hYs : (lowS val).size ≤ val.size ∧ val.size ≤ (lowS val).size := by rw [size_low]; exact ⟨Nat.le_refl _, Nat.le_refl _⟩
  obtain ⟨X, hXX⟩ : ∃ X, X = lowS v := ⟨_, rfl⟩
  obtain ⟨Y, hYY⟩ : ∃ Y, Y = lowS val := ⟨_, rfl⟩
  rw [← hXX] at hX hXs HSX ⊢
  rw [← hYY] at hY hYs ⊢
  have HX := Lib.hid hX
  have HY := Lib.hid hY
  clear hb2 hXX hYY HB0 hX hY g1a GC HA
  cases hq : (X.toList == Y.toList)
  · have HE : Hid (testB 5 true true v.data.toList val.data.toList = standsB X.data.toList 0 (Y ++ (⟨#[45]⟩ : ByteArray)).data.toList) := by
      rw [toL, toL, HX.out, HY.out] at hq
      rw [Hid, size_one, HX.out, HY.out]; simp [testB, hq]
    have hsz : (Y ++ (⟨#[45]⟩ : ByteArray)).size = Y.size + 1 := by rw [ByteArray.size_append]; rfl
    have hno : Y.size + (⟨#[45]⟩ : ByteArray).size ≤ 9223372036854775807 := by show Y.size + 1 ≤ _; omega
    have HST := Lib.hid (fun W => stands_any X (Y ++ (⟨#[45]⟩ : ByteArray)) 0 (by omega) (by omega) (by omega) W)
    clear hsz
    go_wp2_with fail
    refine (HST.out _).mono ?_
    rintro e w3 ⟨rfl, rfl⟩
    go_wp2_with fail
    refine (tru_any _ _).mono ?_
    rintro e w3 ⟨rfl, rfl⟩
    go_wp2_with fail
    go_ret
    exact ⟨_, rfl, .inr ⟨truI_eq HE.out.symm, fun _ h1 h2 h3 h5 => absurd rfl h5⟩, HB2.out⟩
  · have HE : Hid (testB 5 true true v.data.toList val.data.toList = true) := by
      rw [toL, toL, HX.out, HY.out] at hq
      rw [Hid]; simp [testB, hq]
    go_wp2_with fail
    refine (tru_any true _).mono ?_
    rintro e w3 ⟨rfl, rfl⟩
    go_wp2_with fail
    go_ret
    exact ⟨_, rfl, .inr ⟨truI_eq HE.out.symm, fun _ h1 h2 h3 h5 => absurd rfl h5⟩, HB2.out⟩

set_option maxRecDepth 100000 in
set_option maxHeartbeats 2000000 in
theorem tested_true_4_false (v val key : ByteArray) (k a b sz : Int) (hv : v.size ≤ 1000000000) (hval : val.size ≤ 1000000000) (w : World) :
    Calls Try.prog 191 #[.string v, .bool false, .agg #[.int .i64 k, .int .i64 4, .string key, .string val, .int .i64 a, .int .i64 b, .int .i64 1, .int .i64 sz]] w (TestPost 4 true false v val w) := by
  have HB0 : Hid (Below w.heap.size w (w.alloc (.cells #[.int .i64 k, .int .i64 4, .string key, .string val, .int .i64 a, .int .i64 b, .int .i64 1, .int .i64 sz] 27))) := (Below.refl _ _).alloc (Nat.le_refl _) _
  have gc : (w.alloc (.cells #[.int .i64 k, .int .i64 4, .string key, .string val, .int .i64 a, .int .i64 b, .int .i64 1, .int .i64 sz] 27)).cell? ⟨w.heap.size, 1, none⟩ = some (.int .i64 4) := (World.cell?_alloc_mark _ _ _ _ 1).trans rfl
  have GC := Lib.hid gc
  clear gc
  go_enter Try.func191, Try.ntmps191
  go_wp2_with fail
  refine (ascii_any v _ (by omega)).mono ?_
  rintro e w1 ⟨rfl, rfl⟩
  cases hA : ascB v.data.toList
  · go_wp2_with fail
    go_ret
    exact ⟨2, rfl, .inl rfl, HB0.out⟩
  have HA := Lib.hid hA
  clear hA
  go_wp2_with fail
  refine (ascii_any val _ (by omega)).mono ?_
  rintro e w1 ⟨rfl, rfl⟩
  cases hA2 : ascB val.data.toList
  · go_wp2_with fail
    go_ret
    exact ⟨2, rfl, .inl rfl, HB0.out⟩
  have HSX : Hid (Sp v 0 → Sp (lowS v) 0) := fun h => by rw [sp_low HA.out h]; exact h
  clear hA2
  go_wp2_with fail
  refine (small_any v _ (by omega)).mono ?_
  rintro e w1 ⟨rfl, hb1⟩
  have g1a := (hb1.cell (p := ⟨w.heap.size, 1, none⟩) (by simp)).trans GC.out
  have hlt1 : w.heap.size < w1.heap.size := by have := hb1.size; simp at this; omega
  have HB1 := Lib.hid (HB0.out.trans (hb1.mono (by simp)))
  clear hb1
  go_wp2_with fail
  refine (small_any val _ (by omega)).mono ?_
  rintro e w2 ⟨rfl, hb2⟩
  have g1 := (hb2.cell (p := ⟨w.heap.size, 1, none⟩) hlt1).trans g1a
  have HB2 := Lib.hid (bn HB1.out hb2)
  have hX : (lowS v).data.toList = lowB true v.data.toList := by rw [lowS_sm]; rfl
  have hY : (lowS val).data.toList = lowB true val.data.toList := by rw [lowS_sm]; rfl
  have hXs : (lowS v).size ≤ v.size ∧ v.size ≤ (lowS v).size := by rw [size_low]; exact ⟨Nat.le_refl _, Nat.le_refl _⟩
  have hYs : (lowS val).size ≤ val.size ∧ val.size ≤ (lowS val).size := by rw [size_low]; exact ⟨Nat.le_refl _, Nat.le_refl _⟩
  obtain ⟨X, hXX⟩ : ∃ X, X = lowS v := ⟨_, rfl⟩
  obtain ⟨Y, hYY⟩ : ∃ Y, Y = lowS val := ⟨_, rfl⟩
  rw [← hXX] at hX hXs HSX ⊢
  rw [← hYY] at hY hYs ⊢
  have HX := Lib.hid hX
  have HY := Lib.hid hY
  clear hb2 hXX hYY HB0 hX hY g1a GC HA
  go_wp2_with fail
  go_ret
  exact ⟨0, rfl, .inr ⟨rfl, fun h => by cases h⟩, HB2.out⟩

set_option maxRecDepth 100000 in
set_option maxHeartbeats 2000000 in
theorem tested_true_4_true (v val key : ByteArray) (k a b sz : Int) (hv : v.size ≤ 1000000000) (hval : val.size ≤ 1000000000) (w : World) :
    Calls Try.prog 191 #[.string v, .bool true, .agg #[.int .i64 k, .int .i64 4, .string key, .string val, .int .i64 a, .int .i64 b, .int .i64 1, .int .i64 sz]] w (TestPost 4 true true v val w) := by
  have HB0 : Hid (Below w.heap.size w (w.alloc (.cells #[.int .i64 k, .int .i64 4, .string key, .string val, .int .i64 a, .int .i64 b, .int .i64 1, .int .i64 sz] 27))) := (Below.refl _ _).alloc (Nat.le_refl _) _
  have gc : (w.alloc (.cells #[.int .i64 k, .int .i64 4, .string key, .string val, .int .i64 a, .int .i64 b, .int .i64 1, .int .i64 sz] 27)).cell? ⟨w.heap.size, 1, none⟩ = some (.int .i64 4) := (World.cell?_alloc_mark _ _ _ _ 1).trans rfl
  have GC := Lib.hid gc
  clear gc
  go_enter Try.func191, Try.ntmps191
  go_wp2_with fail
  refine (ascii_any v _ (by omega)).mono ?_
  rintro e w1 ⟨rfl, rfl⟩
  cases hA : ascB v.data.toList
  · go_wp2_with fail
    go_ret
    exact ⟨2, rfl, .inl rfl, HB0.out⟩
  have HA := Lib.hid hA
  clear hA
  go_wp2_with fail
  refine (ascii_any val _ (by omega)).mono ?_
  rintro e w1 ⟨rfl, rfl⟩
  cases hA2 : ascB val.data.toList
  · go_wp2_with fail
    go_ret
    exact ⟨2, rfl, .inl rfl, HB0.out⟩
  have HSX : Hid (Sp v 0 → Sp (lowS v) 0) := fun h => by rw [sp_low HA.out h]; exact h
  clear hA2
  go_wp2_with fail
  refine (small_any v _ (by omega)).mono ?_
  rintro e w1 ⟨rfl, hb1⟩
  have g1a := (hb1.cell (p := ⟨w.heap.size, 1, none⟩) (by simp)).trans GC.out
  have hlt1 : w.heap.size < w1.heap.size := by have := hb1.size; simp at this; omega
  have HB1 := Lib.hid (HB0.out.trans (hb1.mono (by simp)))
  clear hb1
  go_wp2_with fail
  refine (small_any val _ (by omega)).mono ?_
  rintro e w2 ⟨rfl, hb2⟩
  have g1 := (hb2.cell (p := ⟨w.heap.size, 1, none⟩) hlt1).trans g1a
  have HB2 := Lib.hid (bn HB1.out hb2)
  have hX : (lowS v).data.toList = lowB true v.data.toList := by rw [lowS_sm]; rfl
  have hY : (lowS val).data.toList = lowB true val.data.toList := by rw [lowS_sm]; rfl
  have hXs : (lowS v).size ≤ v.size ∧ v.size ≤ (lowS v).size := by rw [size_low]; exact ⟨Nat.le_refl _, Nat.le_refl _⟩
  have hYs : (lowS val).size ≤ val.size ∧ val.size ≤ (lowS val).size := by rw [size_low]; exact ⟨Nat.le_refl _, Nat.le_refl _⟩
  obtain ⟨X, hXX⟩ : ∃ X, X = lowS v := ⟨_, rfl⟩
  obtain ⟨Y, hYY⟩ : ∃ Y, Y = lowS val := ⟨_, rfl⟩
  rw [← hXX] at hX hXs HSX ⊢
  rw [← hYY] at hY hYs ⊢
  have HX := Lib.hid hX
  have HY := Lib.hid hY
  clear hb2 hXX hYY HB0 hX hY g1a GC HA
  go_wp2_with fail
  refine (blankAll_any Y _ (by omega)).mono ?_
  rintro e w3 ⟨b1, rfl, hb1, rfl⟩
  have HB1 := Lib.hid hb1
  clear hb1
  cases b1
  case true =>
    go_wp2_with fail
    go_ret
    exact ⟨2, rfl, .inl rfl, HB2.out⟩
  go_wp2_with fail
  refine (blankAll_any X _ (by omega)).mono ?_
  rintro e w3 ⟨b2, rfl, hb2, rfl⟩
  have HB3 := Lib.hid hb2
  clear hb2
  cases b2
  case true =>
    go_wp2_with fail
    go_ret
    exact ⟨2, rfl, .inl rfl, HB2.out⟩
  have HS : Hid (val.data.toList ≠ [] ∧ ¬ Sp v 0) := by
    refine ⟨fun h => ?_, fun h => ?_⟩
    · have := HB1.out (nil_low (by rw [HY.out, h]; unfold lowB; simp)); cases this
    · have := HB3.out (HSX.out h); cases this
  clear HB1 HB3
  have HE : Hid (testB 4 true true v.data.toList val.data.toList = decide (Y.data.toList ∈ words X.data.toList)) := by rw [Hid, HX.out, HY.out]; simp [testB]
  go_wp2_with fail
  refine (word_any X Y (by omega) _).mono ?_
  rintro e w4 ⟨rfl, hb4⟩
  have HB4 := Lib.hid (HB2.out.trans (hb4.mono HB2.out.size))
  clear hb4
  go_wp2_with fail
  refine (tru_any _ _).mono ?_
  rintro e w3 ⟨rfl, rfl⟩
  go_wp2_with fail
  go_ret
  exact ⟨_, rfl, .inr ⟨truI_eq HE.out.symm, fun _ _ _ _ _ => HS.out⟩, HB4.out⟩

set_option maxRecDepth 100000 in
set_option maxHeartbeats 2000000 in
theorem tested_true_6_false (v val key : ByteArray) (k a b sz : Int) (hv : v.size ≤ 1000000000) (hval : val.size ≤ 1000000000) (w : World) :
    Calls Try.prog 191 #[.string v, .bool false, .agg #[.int .i64 k, .int .i64 6, .string key, .string val, .int .i64 a, .int .i64 b, .int .i64 1, .int .i64 sz]] w (TestPost 6 true false v val w) := by
  have HB0 : Hid (Below w.heap.size w (w.alloc (.cells #[.int .i64 k, .int .i64 6, .string key, .string val, .int .i64 a, .int .i64 b, .int .i64 1, .int .i64 sz] 27))) := (Below.refl _ _).alloc (Nat.le_refl _) _
  have gc : (w.alloc (.cells #[.int .i64 k, .int .i64 6, .string key, .string val, .int .i64 a, .int .i64 b, .int .i64 1, .int .i64 sz] 27)).cell? ⟨w.heap.size, 1, none⟩ = some (.int .i64 6) := (World.cell?_alloc_mark _ _ _ _ 1).trans rfl
  have GC := Lib.hid gc
  clear gc
  go_enter Try.func191, Try.ntmps191
  go_wp2_with fail
  refine (ascii_any v _ (by omega)).mono ?_
  rintro e w1 ⟨rfl, rfl⟩
  cases hA : ascB v.data.toList
  · go_wp2_with fail
    go_ret
    exact ⟨2, rfl, .inl rfl, HB0.out⟩
  have HA := Lib.hid hA
  clear hA
  go_wp2_with fail
  refine (ascii_any val _ (by omega)).mono ?_
  rintro e w1 ⟨rfl, rfl⟩
  cases hA2 : ascB val.data.toList
  · go_wp2_with fail
    go_ret
    exact ⟨2, rfl, .inl rfl, HB0.out⟩
  have HSX : Hid (Sp v 0 → Sp (lowS v) 0) := fun h => by rw [sp_low HA.out h]; exact h
  clear hA2
  go_wp2_with fail
  refine (small_any v _ (by omega)).mono ?_
  rintro e w1 ⟨rfl, hb1⟩
  have g1a := (hb1.cell (p := ⟨w.heap.size, 1, none⟩) (by simp)).trans GC.out
  have hlt1 : w.heap.size < w1.heap.size := by have := hb1.size; simp at this; omega
  have HB1 := Lib.hid (HB0.out.trans (hb1.mono (by simp)))
  clear hb1
  go_wp2_with fail
  refine (small_any val _ (by omega)).mono ?_
  rintro e w2 ⟨rfl, hb2⟩
  have g1 := (hb2.cell (p := ⟨w.heap.size, 1, none⟩) hlt1).trans g1a
  have HB2 := Lib.hid (bn HB1.out hb2)
  have hX : (lowS v).data.toList = lowB true v.data.toList := by rw [lowS_sm]; rfl
  have hY : (lowS val).data.toList = lowB true val.data.toList := by rw [lowS_sm]; rfl
  have hXs : (lowS v).size ≤ v.size ∧ v.size ≤ (lowS v).size := by rw [size_low]; exact ⟨Nat.le_refl _, Nat.le_refl _⟩
  have hYs : (lowS val).size ≤ val.size ∧ val.size ≤ (lowS val).size := by rw [size_low]; exact ⟨Nat.le_refl _, Nat.le_refl _⟩
  obtain ⟨X, hXX⟩ : ∃ X, X = lowS v := ⟨_, rfl⟩
  obtain ⟨Y, hYY⟩ : ∃ Y, Y = lowS val := ⟨_, rfl⟩
  rw [← hXX] at hX hXs HSX ⊢
  rw [← hYY] at hY hYs ⊢
  have HX := Lib.hid hX
  have HY := Lib.hid hY
  clear hb2 hXX hYY HB0 hX hY g1a GC HA
  go_wp2_with fail
  go_ret
  exact ⟨0, rfl, .inr ⟨rfl, fun h => by cases h⟩, HB2.out⟩

set_option maxRecDepth 100000 in
set_option maxHeartbeats 2000000 in
theorem tested_true_6_true (v val key : ByteArray) (k a b sz : Int) (hv : v.size ≤ 1000000000) (hval : val.size ≤ 1000000000) (w : World) :
    Calls Try.prog 191 #[.string v, .bool true, .agg #[.int .i64 k, .int .i64 6, .string key, .string val, .int .i64 a, .int .i64 b, .int .i64 1, .int .i64 sz]] w (TestPost 6 true true v val w) := by
  have HB0 : Hid (Below w.heap.size w (w.alloc (.cells #[.int .i64 k, .int .i64 6, .string key, .string val, .int .i64 a, .int .i64 b, .int .i64 1, .int .i64 sz] 27))) := (Below.refl _ _).alloc (Nat.le_refl _) _
  have gc : (w.alloc (.cells #[.int .i64 k, .int .i64 6, .string key, .string val, .int .i64 a, .int .i64 b, .int .i64 1, .int .i64 sz] 27)).cell? ⟨w.heap.size, 1, none⟩ = some (.int .i64 6) := (World.cell?_alloc_mark _ _ _ _ 1).trans rfl
  have GC := Lib.hid gc
  clear gc
  go_enter Try.func191, Try.ntmps191
  go_wp2_with fail
  refine (ascii_any v _ (by omega)).mono ?_
  rintro e w1 ⟨rfl, rfl⟩
  cases hA : ascB v.data.toList
  · go_wp2_with fail
    go_ret
    exact ⟨2, rfl, .inl rfl, HB0.out⟩
  have HA := Lib.hid hA
  clear hA
  go_wp2_with fail
  refine (ascii_any val _ (by omega)).mono ?_
  rintro e w1 ⟨rfl, rfl⟩
  cases hA2 : ascB val.data.toList
  · go_wp2_with fail
    go_ret
    exact ⟨2, rfl, .inl rfl, HB0.out⟩
  have HSX : Hid (Sp v 0 → Sp (lowS v) 0) := fun h => by rw [sp_low HA.out h]; exact h
  clear hA2
  go_wp2_with fail
  refine (small_any v _ (by omega)).mono ?_
  rintro e w1 ⟨rfl, hb1⟩
  have g1a := (hb1.cell (p := ⟨w.heap.size, 1, none⟩) (by simp)).trans GC.out
  have hlt1 : w.heap.size < w1.heap.size := by have := hb1.size; simp at this; omega
  have HB1 := Lib.hid (HB0.out.trans (hb1.mono (by simp)))
  clear hb1
  go_wp2_with fail
  refine (small_any val _ (by omega)).mono ?_
  rintro e w2 ⟨rfl, hb2⟩
  have g1 := (hb2.cell (p := ⟨w.heap.size, 1, none⟩) hlt1).trans g1a
  have HB2 := Lib.hid (bn HB1.out hb2)
  have hX : (lowS v).data.toList = lowB true v.data.toList := by rw [lowS_sm]; rfl
  have hY : (lowS val).data.toList = lowB true val.data.toList := by rw [lowS_sm]; rfl
  have hXs : (lowS v).size ≤ v.size ∧ v.size ≤ (lowS v).size := by rw [size_low]; exact ⟨Nat.le_refl _, Nat.le_refl _⟩
  have hYs : (lowS val).size ≤ val.size ∧ val.size ≤ (lowS val).size := by rw [size_low]; exact ⟨Nat.le_refl _, Nat.le_refl _⟩
  obtain ⟨X, hXX⟩ : ∃ X, X = lowS v := ⟨_, rfl⟩
  obtain ⟨Y, hYY⟩ : ∃ Y, Y = lowS val := ⟨_, rfl⟩
  rw [← hXX] at hX hXs HSX ⊢
  rw [← hYY] at hY hYs ⊢
  have HX := Lib.hid hX
  have HY := Lib.hid hY
  clear hb2 hXX hYY HB0 hX hY g1a GC HA
  go_wp2_with fail
  refine (blankAll_any Y _ (by omega)).mono ?_
  rintro e w3 ⟨b1, rfl, hb1, rfl⟩
  have HB1 := Lib.hid hb1
  clear hb1
  cases b1
  case true =>
    go_wp2_with fail
    go_ret
    exact ⟨2, rfl, .inl rfl, HB2.out⟩
  go_wp2_with fail
  refine (blankAll_any X _ (by omega)).mono ?_
  rintro e w3 ⟨b2, rfl, hb2, rfl⟩
  have HB3 := Lib.hid hb2
  clear hb2
  cases b2
  case true =>
    go_wp2_with fail
    go_ret
    exact ⟨2, rfl, .inl rfl, HB2.out⟩
  have HS : Hid (val.data.toList ≠ [] ∧ ¬ Sp v 0) := by
    refine ⟨fun h => ?_, fun h => ?_⟩
    · have := HB1.out (nil_low (by rw [HY.out, h]; unfold lowB; simp)); cases this
    · have := HB3.out (HSX.out h); cases this
  clear HB1 HB3
  have HE : Hid (testB 6 true true v.data.toList val.data.toList = standsB X.data.toList 0 Y.data.toList) := by rw [Hid, HX.out, HY.out]; simp [testB]
  have HST := Lib.hid (fun W => stands_any X Y 0 (by omega) (by omega) (by omega) W)
  go_wp2_with fail
  refine (HST.out _).mono ?_
  rintro e w4 ⟨rfl, rfl⟩
  go_wp2_with fail
  refine (tru_any _ _).mono ?_
  rintro e w3 ⟨rfl, rfl⟩
  go_wp2_with fail
  go_ret
  exact ⟨_, rfl, .inr ⟨truI_eq HE.out.symm, fun _ _ _ _ _ => HS.out⟩, HB2.out⟩

set_option maxRecDepth 100000 in
set_option maxHeartbeats 2000000 in
theorem tested_true_7_false (v val key : ByteArray) (k a b sz : Int) (hv : v.size ≤ 1000000000) (hval : val.size ≤ 1000000000) (w : World) :
    Calls Try.prog 191 #[.string v, .bool false, .agg #[.int .i64 k, .int .i64 7, .string key, .string val, .int .i64 a, .int .i64 b, .int .i64 1, .int .i64 sz]] w (TestPost 7 true false v val w) := by
  have HB0 : Hid (Below w.heap.size w (w.alloc (.cells #[.int .i64 k, .int .i64 7, .string key, .string val, .int .i64 a, .int .i64 b, .int .i64 1, .int .i64 sz] 27))) := (Below.refl _ _).alloc (Nat.le_refl _) _
  have gc : (w.alloc (.cells #[.int .i64 k, .int .i64 7, .string key, .string val, .int .i64 a, .int .i64 b, .int .i64 1, .int .i64 sz] 27)).cell? ⟨w.heap.size, 1, none⟩ = some (.int .i64 7) := (World.cell?_alloc_mark _ _ _ _ 1).trans rfl
  have GC := Lib.hid gc
  clear gc
  go_enter Try.func191, Try.ntmps191
  go_wp2_with fail
  refine (ascii_any v _ (by omega)).mono ?_
  rintro e w1 ⟨rfl, rfl⟩
  cases hA : ascB v.data.toList
  · go_wp2_with fail
    go_ret
    exact ⟨2, rfl, .inl rfl, HB0.out⟩
  have HA := Lib.hid hA
  clear hA
  go_wp2_with fail
  refine (ascii_any val _ (by omega)).mono ?_
  rintro e w1 ⟨rfl, rfl⟩
  cases hA2 : ascB val.data.toList
  · go_wp2_with fail
    go_ret
    exact ⟨2, rfl, .inl rfl, HB0.out⟩
  have HSX : Hid (Sp v 0 → Sp (lowS v) 0) := fun h => by rw [sp_low HA.out h]; exact h
  clear hA2
  go_wp2_with fail
  refine (small_any v _ (by omega)).mono ?_
  rintro e w1 ⟨rfl, hb1⟩
  have g1a := (hb1.cell (p := ⟨w.heap.size, 1, none⟩) (by simp)).trans GC.out
  have hlt1 : w.heap.size < w1.heap.size := by have := hb1.size; simp at this; omega
  have HB1 := Lib.hid (HB0.out.trans (hb1.mono (by simp)))
  clear hb1
  go_wp2_with fail
  refine (small_any val _ (by omega)).mono ?_
  rintro e w2 ⟨rfl, hb2⟩
  have g1 := (hb2.cell (p := ⟨w.heap.size, 1, none⟩) hlt1).trans g1a
  have HB2 := Lib.hid (bn HB1.out hb2)
  have hX : (lowS v).data.toList = lowB true v.data.toList := by rw [lowS_sm]; rfl
  have hY : (lowS val).data.toList = lowB true val.data.toList := by rw [lowS_sm]; rfl
  have hXs : (lowS v).size ≤ v.size ∧ v.size ≤ (lowS v).size := by rw [size_low]; exact ⟨Nat.le_refl _, Nat.le_refl _⟩
  have hYs : (lowS val).size ≤ val.size ∧ val.size ≤ (lowS val).size := by rw [size_low]; exact ⟨Nat.le_refl _, Nat.le_refl _⟩
  obtain ⟨X, hXX⟩ : ∃ X, X = lowS v := ⟨_, rfl⟩
  obtain ⟨Y, hYY⟩ : ∃ Y, Y = lowS val := ⟨_, rfl⟩
  rw [← hXX] at hX hXs HSX ⊢
  rw [← hYY] at hY hYs ⊢
  have HX := Lib.hid hX
  have HY := Lib.hid hY
  clear hb2 hXX hYY HB0 hX hY g1a GC HA
  go_wp2_with fail
  go_ret
  exact ⟨0, rfl, .inr ⟨rfl, fun h => by cases h⟩, HB2.out⟩

set_option maxRecDepth 100000 in
set_option maxHeartbeats 2000000 in
theorem tested_true_7_true (v val key : ByteArray) (k a b sz : Int) (hv : v.size ≤ 1000000000) (hval : val.size ≤ 1000000000) (w : World) :
    Calls Try.prog 191 #[.string v, .bool true, .agg #[.int .i64 k, .int .i64 7, .string key, .string val, .int .i64 a, .int .i64 b, .int .i64 1, .int .i64 sz]] w (TestPost 7 true true v val w) := by
  have HB0 : Hid (Below w.heap.size w (w.alloc (.cells #[.int .i64 k, .int .i64 7, .string key, .string val, .int .i64 a, .int .i64 b, .int .i64 1, .int .i64 sz] 27))) := (Below.refl _ _).alloc (Nat.le_refl _) _
  have gc : (w.alloc (.cells #[.int .i64 k, .int .i64 7, .string key, .string val, .int .i64 a, .int .i64 b, .int .i64 1, .int .i64 sz] 27)).cell? ⟨w.heap.size, 1, none⟩ = some (.int .i64 7) := (World.cell?_alloc_mark _ _ _ _ 1).trans rfl
  have GC := Lib.hid gc
  clear gc
  go_enter Try.func191, Try.ntmps191
  go_wp2_with fail
  refine (ascii_any v _ (by omega)).mono ?_
  rintro e w1 ⟨rfl, rfl⟩
  cases hA : ascB v.data.toList
  · go_wp2_with fail
    go_ret
    exact ⟨2, rfl, .inl rfl, HB0.out⟩
  have HA := Lib.hid hA
  clear hA
  go_wp2_with fail
  refine (ascii_any val _ (by omega)).mono ?_
  rintro e w1 ⟨rfl, rfl⟩
  cases hA2 : ascB val.data.toList
  · go_wp2_with fail
    go_ret
    exact ⟨2, rfl, .inl rfl, HB0.out⟩
  have HSX : Hid (Sp v 0 → Sp (lowS v) 0) := fun h => by rw [sp_low HA.out h]; exact h
  clear hA2
  go_wp2_with fail
  refine (small_any v _ (by omega)).mono ?_
  rintro e w1 ⟨rfl, hb1⟩
  have g1a := (hb1.cell (p := ⟨w.heap.size, 1, none⟩) (by simp)).trans GC.out
  have hlt1 : w.heap.size < w1.heap.size := by have := hb1.size; simp at this; omega
  have HB1 := Lib.hid (HB0.out.trans (hb1.mono (by simp)))
  clear hb1
  go_wp2_with fail
  refine (small_any val _ (by omega)).mono ?_
  rintro e w2 ⟨rfl, hb2⟩
  have g1 := (hb2.cell (p := ⟨w.heap.size, 1, none⟩) hlt1).trans g1a
  have HB2 := Lib.hid (bn HB1.out hb2)
  have hX : (lowS v).data.toList = lowB true v.data.toList := by rw [lowS_sm]; rfl
  have hY : (lowS val).data.toList = lowB true val.data.toList := by rw [lowS_sm]; rfl
  have hXs : (lowS v).size ≤ v.size ∧ v.size ≤ (lowS v).size := by rw [size_low]; exact ⟨Nat.le_refl _, Nat.le_refl _⟩
  have hYs : (lowS val).size ≤ val.size ∧ val.size ≤ (lowS val).size := by rw [size_low]; exact ⟨Nat.le_refl _, Nat.le_refl _⟩
  obtain ⟨X, hXX⟩ : ∃ X, X = lowS v := ⟨_, rfl⟩
  obtain ⟨Y, hYY⟩ : ∃ Y, Y = lowS val := ⟨_, rfl⟩
  rw [← hXX] at hX hXs HSX ⊢
  rw [← hYY] at hY hYs ⊢
  have HX := Lib.hid hX
  have HY := Lib.hid hY
  clear hb2 hXX hYY HB0 hX hY g1a GC HA
  go_wp2_with fail
  refine (blankAll_any Y _ (by omega)).mono ?_
  rintro e w3 ⟨b1, rfl, hb1, rfl⟩
  have HB1 := Lib.hid hb1
  clear hb1
  cases b1
  case true =>
    go_wp2_with fail
    go_ret
    exact ⟨2, rfl, .inl rfl, HB2.out⟩
  go_wp2_with fail
  refine (blankAll_any X _ (by omega)).mono ?_
  rintro e w3 ⟨b2, rfl, hb2, rfl⟩
  have HB3 := Lib.hid hb2
  clear hb2
  cases b2
  case true =>
    go_wp2_with fail
    go_ret
    exact ⟨2, rfl, .inl rfl, HB2.out⟩
  have HS : Hid (val.data.toList ≠ [] ∧ ¬ Sp v 0) := by
    refine ⟨fun h => ?_, fun h => ?_⟩
    · have := HB1.out (nil_low (by rw [HY.out, h]; unfold lowB; simp)); cases this
    · have := HB3.out (HSX.out h); cases this
  clear HB1 HB3
  have hvl : v.data.toList.length = v.size := rfl
  have hval2 : val.data.toList.length = val.size := rfl
  by_cases hle : Y.size ≤ X.size
  · have HE : Hid (testB 7 true true v.data.toList val.data.toList = standsB X.data.toList (X.size - Y.size) Y.data.toList) := by
      have hd : decide (val.data.toList.length ≤ v.data.toList.length) = true := decide_eq_true (by omega)
      have e7 : X.size - Y.size = v.data.toList.length - val.data.toList.length := by omega
      rw [Hid, e7, HX.out, HY.out]; simp only [testB, hd, Bool.true_and]; rfl
    have HST : Hid (∀ W z, z = ((X.size : Int) - (Y.size : Int)) → Calls Try.prog 172 #[.string X, .int .i64 z, .string Y] W fun e w' => e = .returned (.bool (standsB X.data.toList (X.size - Y.size) Y.data.toList)) ∧ W = w') := by
      intro W z hz
      rw [show z = ((X.size - Y.size : Nat) : Int) by omega]
      exact stands_any X Y _ (by omega) (by omega) (by omega) W
    clear hvl hval2
    go_wp2_with fail
    refine (HST.out _ _ rfl).mono ?_
    rintro e w4 ⟨rfl, rfl⟩
    go_wp2_with fail
    refine (tru_any _ _).mono ?_
    rintro e w3 ⟨rfl, rfl⟩
    go_wp2_with fail
    go_ret
    exact ⟨_, rfl, .inr ⟨truI_eq HE.out.symm, fun _ _ _ _ _ => HS.out⟩, HB2.out⟩
  · have HE : Hid (testB 7 true true v.data.toList val.data.toList = false) := by
      have hd : decide (val.data.toList.length ≤ v.data.toList.length) = false := decide_eq_false (by omega)
      rw [Hid]; simp only [testB, hd, Bool.false_and, Bool.and_false]; rfl
    have hz : ((X.size : Int) - (Y.size : Int)) < 0 := by omega
    have HST := Lib.hid (fun W => stands_low X Y ((X.size : Int) - (Y.size : Int)) hz W)
    clear hvl hval2
    go_wp2_with fail
    refine (HST.out _).mono ?_
    rintro e w4 ⟨rfl, rfl⟩
    go_wp2_with fail
    refine (tru_any _ _).mono ?_
    rintro e w3 ⟨rfl, rfl⟩
    go_wp2_with fail
    go_ret
    exact ⟨_, rfl, .inr ⟨truI_eq HE.out.symm, fun _ _ _ _ _ => HS.out⟩, HB2.out⟩

set_option maxRecDepth 100000 in
set_option maxHeartbeats 2000000 in
theorem tested_true_8_false (v val key : ByteArray) (k a b sz : Int) (hv : v.size ≤ 1000000000) (hval : val.size ≤ 1000000000) (w : World) :
    Calls Try.prog 191 #[.string v, .bool false, .agg #[.int .i64 k, .int .i64 8, .string key, .string val, .int .i64 a, .int .i64 b, .int .i64 1, .int .i64 sz]] w (TestPost 8 true false v val w) := by
  have HB0 : Hid (Below w.heap.size w (w.alloc (.cells #[.int .i64 k, .int .i64 8, .string key, .string val, .int .i64 a, .int .i64 b, .int .i64 1, .int .i64 sz] 27))) := (Below.refl _ _).alloc (Nat.le_refl _) _
  have gc : (w.alloc (.cells #[.int .i64 k, .int .i64 8, .string key, .string val, .int .i64 a, .int .i64 b, .int .i64 1, .int .i64 sz] 27)).cell? ⟨w.heap.size, 1, none⟩ = some (.int .i64 8) := (World.cell?_alloc_mark _ _ _ _ 1).trans rfl
  have GC := Lib.hid gc
  clear gc
  go_enter Try.func191, Try.ntmps191
  go_wp2_with fail
  refine (ascii_any v _ (by omega)).mono ?_
  rintro e w1 ⟨rfl, rfl⟩
  cases hA : ascB v.data.toList
  · go_wp2_with fail
    go_ret
    exact ⟨2, rfl, .inl rfl, HB0.out⟩
  have HA := Lib.hid hA
  clear hA
  go_wp2_with fail
  refine (ascii_any val _ (by omega)).mono ?_
  rintro e w1 ⟨rfl, rfl⟩
  cases hA2 : ascB val.data.toList
  · go_wp2_with fail
    go_ret
    exact ⟨2, rfl, .inl rfl, HB0.out⟩
  have HSX : Hid (Sp v 0 → Sp (lowS v) 0) := fun h => by rw [sp_low HA.out h]; exact h
  clear hA2
  go_wp2_with fail
  refine (small_any v _ (by omega)).mono ?_
  rintro e w1 ⟨rfl, hb1⟩
  have g1a := (hb1.cell (p := ⟨w.heap.size, 1, none⟩) (by simp)).trans GC.out
  have hlt1 : w.heap.size < w1.heap.size := by have := hb1.size; simp at this; omega
  have HB1 := Lib.hid (HB0.out.trans (hb1.mono (by simp)))
  clear hb1
  go_wp2_with fail
  refine (small_any val _ (by omega)).mono ?_
  rintro e w2 ⟨rfl, hb2⟩
  have g1 := (hb2.cell (p := ⟨w.heap.size, 1, none⟩) hlt1).trans g1a
  have HB2 := Lib.hid (bn HB1.out hb2)
  have hX : (lowS v).data.toList = lowB true v.data.toList := by rw [lowS_sm]; rfl
  have hY : (lowS val).data.toList = lowB true val.data.toList := by rw [lowS_sm]; rfl
  have hXs : (lowS v).size ≤ v.size ∧ v.size ≤ (lowS v).size := by rw [size_low]; exact ⟨Nat.le_refl _, Nat.le_refl _⟩
  have hYs : (lowS val).size ≤ val.size ∧ val.size ≤ (lowS val).size := by rw [size_low]; exact ⟨Nat.le_refl _, Nat.le_refl _⟩
  obtain ⟨X, hXX⟩ : ∃ X, X = lowS v := ⟨_, rfl⟩
  obtain ⟨Y, hYY⟩ : ∃ Y, Y = lowS val := ⟨_, rfl⟩
  rw [← hXX] at hX hXs HSX ⊢
  rw [← hYY] at hY hYs ⊢
  have HX := Lib.hid hX
  have HY := Lib.hid hY
  clear hb2 hXX hYY HB0 hX hY g1a GC HA
  go_wp2_with fail
  go_ret
  exact ⟨0, rfl, .inr ⟨rfl, fun h => by cases h⟩, HB2.out⟩

set_option maxRecDepth 100000 in
set_option maxHeartbeats 2000000 in
theorem tested_true_8_true (v val key : ByteArray) (k a b sz : Int) (hv : v.size ≤ 1000000000) (hval : val.size ≤ 1000000000) (w : World) :
    Calls Try.prog 191 #[.string v, .bool true, .agg #[.int .i64 k, .int .i64 8, .string key, .string val, .int .i64 a, .int .i64 b, .int .i64 1, .int .i64 sz]] w (TestPost 8 true true v val w) := by
  have HB0 : Hid (Below w.heap.size w (w.alloc (.cells #[.int .i64 k, .int .i64 8, .string key, .string val, .int .i64 a, .int .i64 b, .int .i64 1, .int .i64 sz] 27))) := (Below.refl _ _).alloc (Nat.le_refl _) _
  have gc : (w.alloc (.cells #[.int .i64 k, .int .i64 8, .string key, .string val, .int .i64 a, .int .i64 b, .int .i64 1, .int .i64 sz] 27)).cell? ⟨w.heap.size, 1, none⟩ = some (.int .i64 8) := (World.cell?_alloc_mark _ _ _ _ 1).trans rfl
  have GC := Lib.hid gc
  clear gc
  go_enter Try.func191, Try.ntmps191
  go_wp2_with fail
  refine (ascii_any v _ (by omega)).mono ?_
  rintro e w1 ⟨rfl, rfl⟩
  cases hA : ascB v.data.toList
  · go_wp2_with fail
    go_ret
    exact ⟨2, rfl, .inl rfl, HB0.out⟩
  have HA := Lib.hid hA
  clear hA
  go_wp2_with fail
  refine (ascii_any val _ (by omega)).mono ?_
  rintro e w1 ⟨rfl, rfl⟩
  cases hA2 : ascB val.data.toList
  · go_wp2_with fail
    go_ret
    exact ⟨2, rfl, .inl rfl, HB0.out⟩
  have HSX : Hid (Sp v 0 → Sp (lowS v) 0) := fun h => by rw [sp_low HA.out h]; exact h
  clear hA2
  go_wp2_with fail
  refine (small_any v _ (by omega)).mono ?_
  rintro e w1 ⟨rfl, hb1⟩
  have g1a := (hb1.cell (p := ⟨w.heap.size, 1, none⟩) (by simp)).trans GC.out
  have hlt1 : w.heap.size < w1.heap.size := by have := hb1.size; simp at this; omega
  have HB1 := Lib.hid (HB0.out.trans (hb1.mono (by simp)))
  clear hb1
  go_wp2_with fail
  refine (small_any val _ (by omega)).mono ?_
  rintro e w2 ⟨rfl, hb2⟩
  have g1 := (hb2.cell (p := ⟨w.heap.size, 1, none⟩) hlt1).trans g1a
  have HB2 := Lib.hid (bn HB1.out hb2)
  have hX : (lowS v).data.toList = lowB true v.data.toList := by rw [lowS_sm]; rfl
  have hY : (lowS val).data.toList = lowB true val.data.toList := by rw [lowS_sm]; rfl
  have hXs : (lowS v).size ≤ v.size ∧ v.size ≤ (lowS v).size := by rw [size_low]; exact ⟨Nat.le_refl _, Nat.le_refl _⟩
  have hYs : (lowS val).size ≤ val.size ∧ val.size ≤ (lowS val).size := by rw [size_low]; exact ⟨Nat.le_refl _, Nat.le_refl _⟩
  obtain ⟨X, hXX⟩ : ∃ X, X = lowS v := ⟨_, rfl⟩
  obtain ⟨Y, hYY⟩ : ∃ Y, Y = lowS val := ⟨_, rfl⟩
  rw [← hXX] at hX hXs HSX ⊢
  rw [← hYY] at hY hYs ⊢
  have HX := Lib.hid hX
  have HY := Lib.hid hY
  clear hb2 hXX hYY HB0 hX hY g1a GC HA
  go_wp2_with fail
  refine (blankAll_any Y _ (by omega)).mono ?_
  rintro e w3 ⟨b1, rfl, hb1, rfl⟩
  have HB1 := Lib.hid hb1
  clear hb1
  cases b1
  case true =>
    go_wp2_with fail
    go_ret
    exact ⟨2, rfl, .inl rfl, HB2.out⟩
  go_wp2_with fail
  refine (blankAll_any X _ (by omega)).mono ?_
  rintro e w3 ⟨b2, rfl, hb2, rfl⟩
  have HB3 := Lib.hid hb2
  clear hb2
  cases b2
  case true =>
    go_wp2_with fail
    go_ret
    exact ⟨2, rfl, .inl rfl, HB2.out⟩
  have HS : Hid (val.data.toList ≠ [] ∧ ¬ Sp v 0) := by
    refine ⟨fun h => ?_, fun h => ?_⟩
    · have := HB1.out (nil_low (by rw [HY.out, h]; unfold lowB; simp)); cases this
    · have := HB3.out (HSX.out h); cases this
  clear HB1 HB3
  have HE : Hid (testB 8 true true v.data.toList val.data.toList = Lib.contains X.data.toList Y.data.toList) := by rw [Hid, HX.out, HY.out]; simp [testB]
  have HST := Lib.hid (fun W => inside_any X Y (by omega) (by omega) W)
  go_wp2_with fail
  refine (HST.out _).mono ?_
  rintro e w4 ⟨rfl, rfl⟩
  go_wp2_with fail
  refine (tru_any _ _).mono ?_
  rintro e w3 ⟨rfl, rfl⟩
  go_wp2_with fail
  go_ret
  exact ⟨_, rfl, .inr ⟨truI_eq HE.out.symm, fun _ _ _ _ _ => HS.out⟩, HB2.out⟩

end Go.Proofs.Ytfebdbfkpmjpeaa
