/- zzIndex, (*parser).skipWhitespace. -/
import Derived.Test.YtkdfdfhejibopaaDoorT429
import Derived.Test.YtkdfdfhejibopaaDoorT423
namespace Go.Proofs.YtkdfdfhejibopaaDoor
open Go.RowKit
set_option linter.unusedVariables false

theorem hasPre2 (a b : UInt8) : ∀ L : List UInt8, Lib.hasPrefix L [a, b] = decide (L[0]? = some a ∧ L[1]? = some b)
  | [] => by simp [Lib.hasPrefix]
  | [x] => by simp [Lib.hasPrefix, List.isPrefixOf]
  | x :: y :: r => by
    show ((a == x) && ((b == y) && true)) = decide (some x = some a ∧ some y = some b)
    rw [Bool.and_true, Bool.eq_iff_iff, Bool.and_eq_true, beq_iff_eq, beq_iff_eq, decide_eq_true_eq, Option.some.injEq, Option.some.injEq]
    exact ⟨fun h => ⟨h.1.symm, h.2.symm⟩, fun h => ⟨h.1.symm, h.2.symm⟩⟩
theorem at_opt {s : ByteArray} {k : Nat} (a : UInt8) : s.data.toList[k]? = some a ↔ k < s.size ∧ bAt s k = a.toNat := by
  have hl : s.data.toList.length = s.size := by rw [Array.length_toList]; rfl
  by_cases q : k < s.size
  · rw [List.getElem?_eq_getElem (by omega), bAt_in q]
    have e : s.data.toList[k]'(by omega) = s[k] := by rw [Array.getElem_toList]; rfl
    rw [e, Option.some.injEq, UInt8.toNat_inj]
    exact ⟨fun h => ⟨q, h⟩, fun h => h.2⟩
  · rw [List.getElem?_eq_none (by omega)]
    constructor
    · intro h; cases h
    · intro h; exact absurd h.1 q
theorem ext_size {s : ByteArray} {a : Nat} (h : a ≤ s.size) : (s.extract a s.size).size = s.size - a := by
  rw [ByteArray.size_extract, Nat.min_self]
theorem ext_at {s : ByteArray} {a x : Nat} (h : a ≤ s.size) : bAt (s.extract a s.size) x = bAt s (a + x) := by
  by_cases q : a + x < s.size
  · exact bAt_extract q (Nat.le_refl _)
  · rw [bAt_out (by rw [ext_size h]; omega), bAt_out (by omega)]
theorem pre2_here {s : ByteArray} {a b : UInt8} {i : Nat} (h : i ≤ s.size) : Lib.hasPrefix (s.extract i s.size).data.toList [a, b] = decide (i + 1 < s.size ∧ bAt s i = a.toNat ∧ bAt s (i + 1) = b.toNat) := by
  rw [hasPre2]
  refine decide_eq_decide.2 ?_
  rw [at_opt, at_opt, ext_at h, ext_at h, ext_size h, Nat.add_zero]
  constructor
  · rintro ⟨⟨q1, q2⟩, q3, q4⟩; exact ⟨by omega, q2, q4⟩
  · rintro ⟨q1, q2, q3⟩; exact ⟨⟨by omega, q2⟩, by omega, q3⟩
theorem ext_here {s : ByteArray} {a b : UInt8} {i m : Nat} (h : i ≤ s.size) : hereT (s.extract i s.size) ⟨#[a, b]⟩ m = decide (i + m + 1 < s.size ∧ bAt s (i + m) = a.toNat ∧ bAt s (i + m + 1) = b.toNat) := by
  rw [here2]
  refine decide_eq_decide.2 ?_
  rw [ext_at h, ext_at h, ext_size h, ← Nat.add_assoc]
  constructor
  · rintro ⟨q1, q2⟩; exact ⟨by omega, q2⟩
  · rintro ⟨q1, q2⟩; exact ⟨by omega, q2⟩

def IxP (X t : ByteArray) (w : World) (e : Ending) (w' : World) : Prop :=
  w' = w ∧ ((∃ n : Nat, e = .returned (.int .i64 (n : Int)) ∧ hereT X t n = true ∧ ∀ m, m < n → hereT X t m = false) ∨
    (e = .returned (.int .i64 (-1)) ∧ ∀ m, hereT X t m = false))

set_option maxRecDepth 100000 in
set_option maxHeartbeats 4000000 in
theorem zzIx_any (X t : ByteArray) (hX : X.size ≤ 1000) (ht : t.size ≤ 1000) (w : World) :
    Calls Tryd.prog 52 #[.string X, .string t] w (IxP X t w) := by
  go_enter Tryd.func52, Tryd.ntmps52
  go_wp2_with fail
  obtain ⟨wo, rfl⟩ : ∃ wo : World, wo = w := ⟨_, rfl⟩
  go_loopg [5] (X.size + 1) (fun gk v5 wr => ∃ k : Nat, gk = X.size + 1 - k ∧ k ≤ X.size + 1 ∧ v5 = .int .i64 (k : Int) ∧ Hid (∀ m, m < k → hereT X t m = false) ∧ wo = wr)
  case atStart => exact ⟨0, rfl, Nat.zero_le _, rfl, (fun m hm => absurd hm (Nat.not_lt_zero m)), rfl⟩
  case round =>
    obtain ⟨k, rfl, hk, rfl, HN, rfl⟩ := hrel
    by_cases hle : k + t.size ≤ X.size
    · have HX : Hid (((X.extract k (k + t.size)).toList == t.toList) = hereT X t k) := by
        rw [Hid, tl_beq]; unfold hereT
        exact decide_eq_decide.2 ⟨fun q => ⟨hle, q⟩, fun q => q.2⟩
      cases hb : hereT X t k
      · have HN2 : Hid (∀ m, m < k + 1 → hereT X t m = false) := fun m hm => by
          by_cases q : m = k
          · subst q; exact hb
          · exact HN.out m (by omega)
        have hx := HX.out.trans hb
        clear hb HX
        go_wp2_with fail
        go_roundg (X.size + 1 - (k + 1))
        case measure => omega
        case rel => exact ⟨k + 1, rfl, by omega, by go_num, HN2, by trivial⟩
      · have HF := Lib.hid hb
        have hx := HX.out.trans hb
        clear hb HX
        go_wp2_with fail
        go_ret
        exact ⟨by trivial, .inl ⟨k, rfl, HF.out, HN.out⟩⟩
    · have HF : Hid (∀ m, hereT X t m = false) := fun m => by
        by_cases q : m < k
        · exact HN.out m q
        · exact decide_eq_false (fun h => by omega)
      go_wp2_with fail
      go_ret
      exact ⟨by trivial, .inr ⟨rfl, HF.out⟩⟩

/-- Where (*parser).skipWhitespace ends. -/
def WsP (s : ByteArray) (k g : Nat) (D P : Value) (B : Nat) (W : World) (e : Ending) (w' : World) : Prop :=
  ∃ (b : Bool) (i : Nat), e = .returned (.bool b) ∧ Sk s k i ∧ PrW s g i D P B W w'

set_option maxRecDepth 100000 in
set_option maxHeartbeats 8000000 in
theorem pSkip_any (s : ByteArray) (g k : Nat) (D P : Value) (B : Nat) (W w : World) (hs : s.size ≤ 1000) (hk : k ≤ s.size) (h : PrW s g k D P B W w) :
    Calls Tryd.prog 46 #[.pointer (some ⟨g, 0, none⟩)] w (WsP s k g D P B W) := by
  have HR := Lib.hid h
  have c0 := h.c0
  have c1 := h.c1
  clear h
  have HIx : Hid (∀ (i : Nat) (U : World), i ≤ s.size → Calls Tryd.prog 52 #[.string (s.extract i s.size), .string ⟨#[42, 47]⟩] U (IxP (s.extract i s.size) ⟨#[42, 47]⟩ U)) := fun i U hi =>
    zzIx_any _ _ (by rw [ext_size hi]; omega) (by decide) U
  have HPre : Hid (∀ (i : Nat) (U : World), i ≤ s.size → Calls Tryd.prog 51 #[.string (s.extract i s.size), .string ⟨#[47, 42]⟩] U fun e w' => e = .returned (.bool (decide (i + 1 < s.size ∧ bAt s i = 47 ∧ bAt s (i + 1) = 42))) ∧ w' = U) := fun i U hi => by
    refine (Tryd.strings_HasPrefix (s.extract i s.size) ⟨#[47, 42]⟩ U).mono ?_
    rintro e w' ⟨rfl, rfl⟩
    exact ⟨by rw [show (⟨#[47, 42]⟩ : ByteArray).data.toList = [47, 42] from rfl, pre2_here hi]; rfl, rfl⟩
  go_enter Tryd.func46, Tryd.ntmps46
  go_upto_block 0 with fail
  obtain ⟨wo, rfl⟩ : ∃ wo : World, wo = w := ⟨_, rfl⟩
  go_cut [3] (fun v3 wx => ∃ i : Nat, v3 = .int .i64 (i : Int) ∧ Sk s k i ∧ wo = wx)
  case first =>
    go_wp2_with fail
    go_loopg [3] (s.size - k) (fun gk v3 wr => ∃ i : Nat, gk = s.size - i ∧ i ≤ s.size ∧ v3 = .int .i64 (i : Int) ∧ Hid (Star (SkR s) k i) ∧ wo = wr)
    case atStart => exact ⟨k, rfl, hk, rfl, .zero, rfl⟩
    case round =>
      obtain ⟨i, rfl, hi, rfl, HS, rfl⟩ := hrel
      by_cases hlt : i < s.size
      · have hb := bAt_in hlt
        by_cases h32 : s[i].toNat = 32
        · have m32 : ((s[i].toNat : Int) == 32) = true := beq_iff_eq.2 (by omega)
          have HS2 : Hid (Star (SkR s) k (i + 1)) := HS.out.snoc (.inl ⟨hlt, by rw [hb]; unfold isWs; exact decide_eq_true (by omega), rfl⟩)
          clear hb h32
          go_wp2_with fail
          go_roundg (s.size - (i + 1))
          case measure => omega
          case rel => exact ⟨i + 1, rfl, hlt, by go_num, HS2, by trivial⟩
        have m32 : ((s[i].toNat : Int) == 32) = false := beq_eq_false_iff_ne.2 (by omega)
        by_cases h9 : s[i].toNat = 9
        · have m9 : ((s[i].toNat : Int) == 9) = true := beq_iff_eq.2 (by omega)
          have HS2 : Hid (Star (SkR s) k (i + 1)) := HS.out.snoc (.inl ⟨hlt, by rw [hb]; unfold isWs; exact decide_eq_true (by omega), rfl⟩)
          clear hb h32 h9
          go_wp2_with fail
          go_roundg (s.size - (i + 1))
          case measure => omega
          case rel => exact ⟨i + 1, rfl, hlt, by go_num, HS2, by trivial⟩
        have m9 : ((s[i].toNat : Int) == 9) = false := beq_eq_false_iff_ne.2 (by omega)
        by_cases h13 : s[i].toNat = 13
        · have m13 : ((s[i].toNat : Int) == 13) = true := beq_iff_eq.2 (by omega)
          have HS2 : Hid (Star (SkR s) k (i + 1)) := HS.out.snoc (.inl ⟨hlt, by rw [hb]; unfold isWs; exact decide_eq_true (by omega), rfl⟩)
          clear hb h32 h9 h13
          go_wp2_with fail
          go_roundg (s.size - (i + 1))
          case measure => omega
          case rel => exact ⟨i + 1, rfl, hlt, by go_num, HS2, by trivial⟩
        have m13 : ((s[i].toNat : Int) == 13) = false := beq_eq_false_iff_ne.2 (by omega)
        by_cases h10 : s[i].toNat = 10
        · have m10 : ((s[i].toNat : Int) == 10) = true := beq_iff_eq.2 (by omega)
          have HS2 : Hid (Star (SkR s) k (i + 1)) := HS.out.snoc (.inl ⟨hlt, by rw [hb]; unfold isWs; exact decide_eq_true (by omega), rfl⟩)
          clear hb h32 h9 h13 h10
          go_wp2_with fail
          go_roundg (s.size - (i + 1))
          case measure => omega
          case rel => exact ⟨i + 1, rfl, hlt, by go_num, HS2, by trivial⟩
        have m10 : ((s[i].toNat : Int) == 10) = false := beq_eq_false_iff_ne.2 (by omega)
        by_cases h12 : s[i].toNat = 12
        · have m12 : ((s[i].toNat : Int) == 12) = true := beq_iff_eq.2 (by omega)
          have HS2 : Hid (Star (SkR s) k (i + 1)) := HS.out.snoc (.inl ⟨hlt, by rw [hb]; unfold isWs; exact decide_eq_true (by omega), rfl⟩)
          clear hb h32 h9 h13 h10 h12
          go_wp2_with fail
          go_roundg (s.size - (i + 1))
          case measure => omega
          case rel => exact ⟨i + 1, rfl, hlt, by go_num, HS2, by trivial⟩
        have m12 : ((s[i].toNat : Int) == 12) = false := beq_eq_false_iff_ne.2 (by omega)
        have HNw : Hid (isWs (bAt s i) = false) := by rw [Hid, hb]; unfold isWs; exact decide_eq_false (by omega)
        clear h32 h9 h13 h10 h12
        by_cases h47 : s[i].toNat = 47
        · have m47 : ((s[i].toNat : Int) == 47) = true := beq_iff_eq.2 (by omega)
          have HB : Hid (bAt s i = 47) := by rw [Hid, hb]; exact h47
          have HP2 := Lib.hid (fun U => HPre.out i U hi)
          by_cases hc : i + 1 < s.size ∧ bAt s i = 47 ∧ bAt s (i + 1) = 42
          · rw [decide_eq_true hc] at HP2
            obtain ⟨hc1, hc2, hc3⟩ := hc
            have HC := Lib.hid hc3
            have HI2 := Lib.hid (fun U => HIx.out (i + 2) U (by omega))
            clear hb h47 hc2 hc3
            go_wp2_with fail
            refine (HP2.out _).mono ?_
            rintro e1 w1 ⟨rfl, rfl⟩
            go_wp2_with fail
            refine (HI2.out _).mono ?_
            rintro e1 w1 ⟨rfl, ⟨n, rfl, hn, hf⟩ | ⟨rfl, hf⟩⟩
            · rw [ext_here (by omega), decide_eq_true_eq] at hn
              obtain ⟨n1, n2, n3⟩ := hn
              have HS2 : Hid (Star (SkR s) k (i + 2 + n + 2)) := HS.out.snoc (.inr ⟨hc1, HB.out, HC.out, i + 2 + n, by omega, n1, n2, n3, rfl, fun x hx1 hx2 hxx => by
                have hf2 := hf (x - (i + 2)) (by omega)
                rw [ext_here (by omega), decide_eq_false_iff_not, show i + 2 + (x - (i + 2)) = x by omega] at hf2
                exact hf2 ⟨by omega, hxx⟩⟩)
              clear hf n2 n3
              go_wp2_with fail
              go_roundg (s.size - (i + 2 + n + 2))
              case measure => omega
              case rel => exact ⟨i + 2 + n + 2, rfl, by omega, by go_num, HS2, by trivial⟩
            · have HK : Hid (Sk s k i) := ⟨HS.out, hi, sk_stop (fun _ => HNw.out) (fun _ _ _ => fun x hx1 hx2 hxx => by
                have hf2 := hf (x - (i + 2))
                rw [ext_here (by omega), decide_eq_false_iff_not, show i + 2 + (x - (i + 2)) = x by omega] at hf2
                exact hf2 ⟨hx2, hxx⟩)⟩
              clear hf
              go_wp2_with fail
              go_meet
              exact ⟨i, rfl, HK.out, by trivial⟩
          · rw [decide_eq_false hc] at HP2
            have HK : Hid (Sk s k i) := ⟨HS.out, hi, sk_stop (fun _ => HNw.out) (fun q1 q2 q3 => absurd ⟨q1, q2, q3⟩ hc)⟩
            clear hb h47 hc
            go_wp2_with fail
            refine (HP2.out _).mono ?_
            rintro e1 w1 ⟨rfl, rfl⟩
            go_wp2_with fail
            go_meet
            exact ⟨i, rfl, HK.out, by trivial⟩
        · have m47 : ((s[i].toNat : Int) == 47) = false := beq_eq_false_iff_ne.2 (by omega)
          have HK : Hid (Sk s k i) := ⟨HS.out, hi, sk_stop (fun _ => HNw.out) (fun q1 q2 q3 => absurd (hb.symm.trans q2) h47)⟩
          clear hb h47
          go_wp2_with fail
          go_meet
          exact ⟨i, rfl, HK.out, by trivial⟩
      · have HK : Hid (Sk s k i) := ⟨HS.out, hi, sk_stop (fun q => absurd q hlt) (fun q1 _ _ => absurd q1 (by omega))⟩
        go_wp2_with fail
        go_meet
        exact ⟨i, rfl, HK.out, by trivial⟩
  case rest =>
    obtain ⟨i, rfl, hk2, rfl⟩ := hcut
    have HK := Lib.hid hk2
    have hge := hk2.ge
    have hle := hk2.2.1
    have f1 := HR.out.fz 1
    have HS := Lib.hid (HR.out.set i)
    clear hk2
    by_cases h0 : i = k
    · subst h0
      have m0 : decide ((i : Int) < (i : Int)) = false := decide_eq_false (by omega)
      go_wp2_with fail
      go_ret
      exact ⟨_, i, rfl, HK.out, HR.out⟩
    · have m0 : decide ((k : Int) < (i : Int)) = true := decide_eq_true (by omega)
      go_wp2_with fail
      go_ret
      exact ⟨_, i, rfl, HK.out, HS.out⟩
end Go.Proofs.YtkdfdfhejibopaaDoor
