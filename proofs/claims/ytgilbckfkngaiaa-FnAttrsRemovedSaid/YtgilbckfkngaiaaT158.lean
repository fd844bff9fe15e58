/- FnAttrsRemoved: the walk. -/
import Derived.Test.YtgilbckfkngaiaaT156
namespace Go.Proofs.Ytgilbckfkngaiaa
open Go.RowKit
set_option linter.unusedVariables false

/-- What is compared: the list without the key, with it set, set and removed, removed and set. -/
structure RemP (l : List At2) (key val : ByteArray) (R1 R2 R3 R4 : List At2) : Prop where
  e1 : rmA l key = R1
  e2 : setA l key val = R2
  e3 : rmA R2 key = R3
  e4 : setA R1 key val = R4
  s1 : ∀ x ∈ R1, x.key.size ≤ maxLen ∧ x.val.size ≤ maxLen
  s2 : ∀ x ∈ R2, x.key.size ≤ maxLen ∧ x.val.size ≤ maxLen
  s3 : ∀ x ∈ R3, x.key.size ≤ maxLen ∧ x.val.size ≤ maxLen
  s4 : ∀ x ∈ R4, x.key.size ≤ maxLen ∧ x.val.size ≤ maxLen
  n1 : R1.length ≤ 13
  n2 : R2.length ≤ 13
  n3 : R3.length ≤ 13
  n4 : R4.length ≤ 13
  h1 : ∀ x ∈ l, x.key.toList ≠ key.toList → findA R1 x.key = some x
  h2 : ∀ x ∈ R1, findA l x.key = some x
  h3 : ∀ x ∈ l, x.key.toList ≠ key.toList → findA R3 x.key = some x
  h4 : ∀ x ∈ R3, findA l x.key = some x
  f1 : findA R1 key = none
  f3 : findA R3 key = none
  f4 : ∃ x, findA R4 key = some x ∧ x.val = val
  len3 : R3.length = R1.length
  some1 : ∀ x, findA l key = some x → R1.length + 1 = l.length
  none1 : findA l key = none → R1.length = l.length

theorem valA_none : valA none = ⟨#[]⟩ := rfl
theorem valA_some (x : At2) : valA (some x) = x.val := rfl
theorem remP {l : List At2} {key val : ByteArray} (h7 : Ats7 l) (hk : key.size ≤ 200) (hv : val.size ≤ 200) : ∃ R1 R2 R3 R4, RemP l key val R1 R2 R3 R4 := by
  have hl := h7.len
  have b1 := rmA_small (n := 200) (k := key) h7.small
  have b2 := setA_small (n := 200) (k := key) (v := val) h7.small hk hv
  have b3 := rmA_small (n := 200) (k := key) b2
  have b4 := setA_small (n := 200) (k := key) (v := val) b1 hk hv
  have big : ∀ L : List At2, (∀ x ∈ L, x.key.size ≤ 200 ∧ x.val.size ≤ 200) → ∀ x ∈ L, x.key.size ≤ maxLen ∧ x.val.size ≤ maxLen := fun L h x hx => by
    have := h x hx; unfold maxLen; omega
  have n1 : (rmA l key).length ≤ 12 := Nat.le_trans rmA_le hl
  have n2 : (setA l key val).length ≤ 13 := Nat.le_trans setA_le (by omega)
  exact ⟨_, _, _, _, rfl, rfl, rfl, rfl, big _ b1, big _ b2, big _ b3, big _ b4, by omega, n2, Nat.le_trans rmA_le n2, Nat.le_trans setA_le (by omega),
    fun x hx hne => rm_other h7.once hx hne, fun x hx => rm_back h7.once hx, fun x hx hne => gone_other h7.once hx hne, fun x hx => gone_back h7.once hx,
    rm_self h7.once, gone_self h7.once, setA_find (rmA_once h7.once), gone_len h7.once, fun x hx => rm_had hx, fun hx => rm_not hx⟩

set_option maxRecDepth 100000 in
set_option maxHeartbeats 4000000 in
theorem FnAttrsRemoved_walk (ad : Option Addr) (len c : Nat) (l : List At2) (key val : ByteArray) (w : World) (h : ASl w w.heap.size ad l ∧ len = l.length) (hk : key.size ≤ maxLen) (hv : val.size ≤ maxLen) :
    Calls Try.prog 3 #[.slice ad len c, .string key, .string val] w fun e w' => e = .returned (.bool true) ∧ Below w.heap.size w w' := by
  obtain ⟨h, rfl⟩ := h
  have HH := Lib.hid h
  have hll := h.1
  unfold maxLen at hll hk hv
  clear h
  go_enter Try.func3, Try.ntmps3
  go_wp2_with fail
  refine (zzFits3_any _ _ l _ HH.out).mono ?_
  rintro e w1 ⟨rfl, hb1⟩
  have HB1 := Lib.hid hb1
  clear hb1
  cases hf : fits3 l
  · go_wp2_with fail
    go_ret
    exact ⟨rfl, HB1.out⟩
  have hl3 : l.length ≤ 2147483647 := by unfold fits3 at hf; rw [Bool.and_eq_true, decide_eq_true_eq] at hf; exact hf.1
  clear hf
  by_cases k1 : 2147483647 < key.size
  · go_wp2_with fail
    go_ret
    exact ⟨rfl, HB1.out⟩
  by_cases k2 : 2147483647 < val.size
  · go_wp2_with fail
    go_ret
    exact ⟨rfl, HB1.out⟩
  have HQ : Hid (∀ W, Below w.heap.size w W → ASl W W.heap.size ad l) := fun W hW => (HH.out.below hW).more hW.size
  go_wp2_with fail
  refine (attrs7_any ad c l w1 (HQ.out w1 HB1.out) hl3).mono ?_
  rintro e w2 ⟨b, rfl, hA, hb2⟩
  have HB2 := Lib.hid (bnext HB1.out hb2)
  clear hb2 HB1
  cases b
  · clear hA
    go_wp2_with fail
    go_ret
    exact ⟨rfl, HB2.out⟩
  have H7 := Lib.hid (hA rfl)
  clear hA
  by_cases k3 : 200 < key.size
  · go_wp2_with fail
    go_ret
    exact ⟨rfl, HB2.out⟩
  by_cases k4 : 200 < val.size
  · go_wp2_with fail
    go_ret
    exact ⟨rfl, HB2.out⟩
  have hl12 := H7.out.len
  obtain ⟨R1, R2, R3, R4, hR⟩ := remP (key := key) (val := val) H7.out (by omega) (by omega)
  have HR := Lib.hid hR
  have n1 := hR.n1
  have n2 := hR.n2
  have n3 := hR.n3
  have n4 := hR.n4
  clear hR H7
  have HC1 : Hid (∀ W, ASl W W.heap.size ad l → Calls Try.prog 17 #[.slice ad l.length c, .string key] W (AtsPost R1 W)) := fun W hW => by
    have := attrsRemoved_any ad c l (by omega) key W hW
    rwa [HR.out.e1] at this
  have HC2 : Hid (∀ W, ASl W W.heap.size ad l → Calls Try.prog 19 #[.slice ad l.length c, .string key, .string val] W (AtsPost R2 W)) := fun W hW => by
    have := attrsSet_any ad c l (by omega) key val W hW
    rwa [HR.out.e2] at this
  have HC3 : Hid (∀ W a2 c2, ASl W W.heap.size a2 R2 → Calls Try.prog 17 #[.slice a2 R2.length c2, .string key] W (AtsPost R3 W)) := fun W a2 c2 hW => by
    have := attrsRemoved_any a2 c2 R2 (by omega) key W hW
    rwa [HR.out.e3] at this
  have HC4 : Hid (∀ W a2 c2, ASl W W.heap.size a2 R1 → Calls Try.prog 19 #[.slice a2 R1.length c2, .string key, .string val] W (AtsPost R4 W)) := fun W a2 c2 hW => by
    have := attrsSet_any a2 c2 R1 (by omega) key val W hW
    rwa [HR.out.e4] at this
  go_wp2_with fail
  refine (HC1.out w2 (HQ.out w2 HB2.out)).mono ?_
  rintro e w3 ⟨ao, co, rfl, hown, hb3⟩
  have HB3 := Lib.hid (bnext HB2.out hb3)
  have HO := Lib.hid (fun W (hW : Below w3.heap.size w3 W) => ((asl_own hown (by unfold maxLen; omega) HR.out.s1).below hW).more hW.size)
  clear hown hb3 HB2
  go_wp2_with fail
  refine (val7_any ad c l key w3 (HQ.out w3 HB3.out) hl3).mono ?_
  rintro e w4 ⟨rfl, hb4⟩
  have HM : Hid (if (findA l key).isSome = true then R1.length + 1 = l.length else R1.length = l.length) := by
    cases ho : findA l key with
    | none => exact HR.out.none1 ho
    | some x => exact HR.out.some1 x ho
  generalize valA (findA l key) = v0
  generalize (findA l key).isSome = b0 at *
  have HB4 := Lib.hid (bnext HB3.out hb4)
  have HO4 := Lib.hid hb4
  clear hb4
  go_wp2_with fail
  refine (val7_any ao co R1 key w4 (HO.out w4 HO4.out) (by omega)).mono ?_
  rintro e w5 ⟨rfl, hb5⟩
  have HB5 := Lib.hid (bnext HB4.out hb5)
  have HO5 := Lib.hid (bnext HO4.out hb5)
  clear hb5 HO4 HB4
  rw [HR.out.f1]
  simp only [valA_none, Option.isSome_none]
  go_wp2_with fail
  refine (HC2.out w5 (HQ.out w5 HB5.out)).mono ?_
  rintro e w6 ⟨a6, c6, rfl, hown, hb6⟩
  have HB6 := Lib.hid (bnext HB5.out hb6)
  have HO6 := Lib.hid (bnext HO5.out hb6)
  have HP := Lib.hid (asl_own hown (by unfold maxLen; omega) HR.out.s2)
  clear hown hb6 HB5 HO5
  go_wp2_with fail
  refine (HC3.out w6 a6 c6 HP.out).mono ?_
  rintro e w7 ⟨a7, c7, rfl, hown, hb7⟩
  have HB7 := Lib.hid (bnext HB6.out hb7)
  have HO7 := Lib.hid (bnext HO6.out hb7)
  have HG := Lib.hid (fun W (hW : Below w7.heap.size w7 W) => ((asl_own hown (by unfold maxLen; omega) HR.out.s3).below hW).more hW.size)
  clear hown hb7 HB6 HO6 HP
  go_wp2_with fail
  refine (val7_any a7 c7 R3 key w7 (HG.out w7 (Below.refl _ _)) (by omega)).mono ?_
  rintro e w8 ⟨rfl, hb8⟩
  have HB8 := Lib.hid (bnext HB7.out hb8)
  have HO8 := Lib.hid (bnext HO7.out hb8)
  have HG8 := Lib.hid hb8
  clear hb8 HB7 HO7
  rw [HR.out.f3]
  simp only [valA_none, Option.isSome_none]
  obtain ⟨sx, hsx, hsv⟩ := HR.out.f4
  have HSx : Hid (valA (findA R4 key) = val ∧ (findA R4 key).isSome = true) := by rw [Hid, hsx, valA_some]; exact ⟨hsv, rfl⟩
  clear hsx hsv
  have HM3 := Lib.hid HR.out.len3
  have HE : Hid (∀ n : Int, n = (if b0 = true then (l.length : Int) - 1 else l.length) → ((R1.length : Int) == n) = true ∧ ((R3.length : Int) == n) = true) := by
    intro n hn
    have h1 := HM.out
    have h3 := HM3.out
    rw [beq_iff_eq, beq_iff_eq]
    split at hn
    · rename_i hb; rw [if_pos hb] at h1; omega
    · rename_i hb; rw [if_neg hb] at h1; omega
  cases b0
  case' false => obtain ⟨q1, q3⟩ := HE.out (l.length : Int) rfl
  case' true => obtain ⟨q1, q3⟩ := HE.out ((l.length : Int) - 1) rfl
  all_goals
    go_wp2_with fail
    refine (HC4.out w8 ao co (HO.out w8 HO8.out)).mono ?_
    rintro e w9 ⟨a9, c9, rfl, hown, hb9⟩
    have HB9 := Lib.hid (bnext HB8.out hb9)
    have HO9 := Lib.hid (bnext HO8.out hb9)
    have HG9 := Lib.hid (bnext HG8.out hb9)
    have HS := Lib.hid (asl_own hown (by unfold maxLen; omega) HR.out.s4)
    clear hown hb9
    go_wp2_with fail
    refine (val7_any a9 c9 R4 key w9 HS.out (by omega)).mono ?_
    rintro e w10 ⟨rfl, hb10⟩
    have HB10 := Lib.hid (bnext HB9.out hb10)
    have HO10 := Lib.hid (bnext HO9.out hb10)
    have HG10 := Lib.hid (bnext HG9.out hb10)
    clear hb10
    rw [HSx.out.1, HSx.out.2]
    go_wp2_with fail
    refine (others7_any ad ao c co l R1 key w10 (HQ.out w10 HB10.out) (HO.out w10 HO10.out) hl3 (by omega) HR.out.h1 HR.out.h2).mono ?_
    rintro e w11 ⟨rfl, hb11⟩
    have HB11 := Lib.hid (bnext HB10.out hb11)
    have HG11 := Lib.hid (bnext HG10.out hb11)
    clear hb11
    go_wp2_with fail
    refine (others7_any ad a7 c c7 l R3 key w11 (HQ.out w11 HB11.out) (HG.out w11 HG11.out) hl3 (by omega) HR.out.h3 HR.out.h4).mono ?_
    rintro e w12 ⟨rfl, hb12⟩
    have HB12 := Lib.hid (bnext HB11.out hb12)
    clear hb12
    go_wp2_with fail
    go_ret
    exact ⟨rfl, HB12.out⟩
end Go.Proofs.Ytgilbckfkngaiaa
