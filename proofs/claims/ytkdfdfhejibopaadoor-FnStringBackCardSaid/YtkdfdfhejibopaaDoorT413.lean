/- A text written as a string is read as it was: (*parser).parseString. -/
import Derived.Test.YtkdfdfhejibopaaDoorT412
import Derived.WalkMore
import Derived.Deep.LoopGhost
namespace Go.Proofs.YtkdfdfhejibopaaDoor
open Go.RowKit
set_option linter.unusedVariables false

/-- The text that is read: a text as a string, and a quote and a letter behind it. -/
def strT (s : ByteArray) : List UInt8 := encT s s.size ++ [34, 34, 120]

theorem encT_le (s : ByteArray) : ∀ d k, k + d = s.size → ∃ R, encT s s.size = encT s k ++ R
  | 0, k, h => ⟨[], by rw [List.append_nil]; congr 1; omega⟩
  | d + 1, k, h => by
    obtain ⟨R, hR⟩ := encT_le s d (k + 1) (by omega)
    exact ⟨encQ s[k] ++ R, by rw [hR, encT_succ s k (by omega), List.append_assoc]⟩
theorem strT_at {s : ByteArray} {k : Nat} (h : k < s.size) : ∃ R, strT s = encT s k ++ (encQ s[k] ++ R) := by
  obtain ⟨R, hR⟩ := encT_le s (s.size - (k + 1)) (k + 1) (by omega)
  exact ⟨R ++ [34, 34, 120], by unfold strT; rw [hR, encT_succ s k h, List.append_assoc, List.append_assoc]⟩
theorem strT_len {s : ByteArray} {k : Nat} (h : k ≤ s.size) : (encT s k).length + 3 ≤ (strT s).length ∧ 1 ≤ (encT s k).length := by
  obtain ⟨R, hR⟩ := encT_le s (s.size - k) k (by omega)
  constructor
  · unfold strT; rw [hR]; simp
  · unfold encT; simp
theorem strT_max {s : ByteArray} (h : s.size ≤ 1000) : (strT s).length ≤ 5000 := by
  have := encT_len s s.size (Nat.le_refl _)
  unfold strT; rw [List.length_append]; simp; omega
theorem strT_nrm {s : ByteArray} {k : Nat} (h : k < s.size) (hn : isNrm s[k].toNat = true) : bAt (bOf (strT s)) (encT s k).length = s[k].toNat ∧ (encT s (k + 1)).length = (encT s k).length + 1 := by
  obtain ⟨R, hR⟩ := strT_at h
  unfold isNrm at hn
  have he : encQ s[k] = [s[k]] := by
    unfold encQ
    cases h1 : isCtl s[k].toNat <;> cases h2 : isQu s[k].toNat <;> simp [h1, h2] at hn ⊢
  constructor
  · rw [bAt_lAt, hR, he]; exact lAt_right (k := 0)
  · rw [encT_succ s k h, he, List.length_append]; rfl
theorem strT_esc {s : ByteArray} {k : Nat} (h : k < s.size) (hn : isNrm s[k].toNat = false) : bAt (bOf (strT s)) (encT s k).length = 92 := by
  obtain ⟨R, hR⟩ := strT_at h
  rw [bAt_lAt, hR]
  have : lAt (encT s k ++ (encQ s[k] ++ R)) ((encT s k).length + 0) = 92 := by
    rw [lAt_right]
    unfold isNrm at hn
    unfold encQ
    cases h1 : isCtl s[k].toNat <;> cases h2 : isQu s[k].toNat <;> simp [h1, h2] at hn ⊢ <;> rfl
  exact this
theorem strT_end (s : ByteArray) : bAt (bOf (strT s)) (encT s s.size).length = 34 := by
  rw [bAt_lAt]
  exact lAt_right (l := encT s s.size) (l' := [34, 34, 120]) (k := 0)
theorem strT_0 (s : ByteArray) : bAt (bOf (strT s)) 0 = 34 := by rw [bAt_lAt]; rfl
/-- A run of bytes that are written as they are. -/
theorem encT_run {s : ByteArray} {k : Nat} : ∀ d, k + d ≤ s.size → (∀ j (h : j < s.size), k ≤ j → j < k + d → isNrm s[j].toNat = true) → encT s (k + d) = encT s k ++ (s.data.toList.take (k + d)).drop k
  | 0, _, _ => by rw [Nat.add_zero, List.drop_eq_nil_of_le (by rw [List.length_take]; omega), List.append_nil]
  | d + 1, h, hn => by
    have hl : s.data.toList.length = s.size := by rw [Array.length_toList]; rfl
    have ih := encT_run d (by omega) (fun j hj q1 q2 => hn j hj q1 (by omega))
    have hb := hn (k + d) (by omega) (by omega) (by omega)
    have he : encQ s[k + d] = [s[k + d]] := by
      unfold isNrm at hb
      unfold encQ
      cases h1 : isCtl s[k + d].toNat <;> cases h2 : isQu s[k + d].toNat <;> simp [h1, h2] at hb ⊢
    rw [← Nat.add_assoc, encT_succ s (k + d) (by omega), ih, he, take_snoc s (k + d) (by omega), List.drop_append, List.append_assoc]
    congr 1
    rw [List.length_take, Nat.min_eq_left (by omega), Nat.sub_eq_zero_of_le (by omega)]
    rfl
theorem strT_run {s : ByteArray} {k d : Nat} (h : k + d ≤ s.size) (hn : ∀ j (h : j < s.size), k ≤ j → j < k + d → isNrm s[j].toNat = true) :
    bOf (s.data.toList.take k) ++ (bOf (strT s)).extract (encT s k).length (encT s (k + d)).length = bOf (s.data.toList.take (k + d)) := by
  have hl : s.data.toList.length = s.size := by rw [Array.length_toList]; rfl
  obtain ⟨R, hR⟩ := encT_le s (s.size - (k + d)) (k + d) (by omega)
  have hT : strT s = encT s (k + d) ++ (R ++ [34, 34, 120]) := by unfold strT; rw [hR, List.append_assoc]
  rw [bOf_extract _ _ _ (by rw [hT]; simp), hT, List.take_left', bOf_app]
  · rw [encT_run d h hn, List.drop_left']
    · congr 1
      have : s.data.toList.take k = (s.data.toList.take (k + d)).take k := by rw [List.take_take, Nat.min_eq_left (by omega)]
      rw [this, List.take_append_drop]
    · rfl
  · rfl

/-- Where the string is read up to. -/
def PStrL (s X : ByteArray) (g : Nat) (D P : Value) (B : Nat) (W : World) (v2 v4 : Value) (wx : World) : Prop :=
  ∃ i' : Nat, v2 = .string s ∧ v4 = .int .i64 (((encT s s.size).length : Nat) : Int) ∧ PrW X g i' D P B W wx

/-- Behind a run. -/
def PRunL (s : ByteArray) (k : Nat) (v4 : Value) : Prop :=
  ∃ m : Nat, k < m ∧ m ≤ s.size ∧ v4 = .int .i64 (((encT s m).length : Nat) : Int) ∧ ∀ j (h : j < s.size), k ≤ j → j < m → isNrm s[j].toNat = true

def PStrP (s X : ByteArray) (g : Nat) (D P : Value) (B : Nat) (W : World) (e : Ending) (w' : World) : Prop :=
  e = .returned (.tuple #[.string s, .nilIface]) ∧ PrW X g ((encT s s.size).length + 1) D P B W w'

set_option maxRecDepth 100000 in
set_option maxHeartbeats 8000000 in
theorem pString_any (s : ByteArray) (g : Nat) (D P : Value) (B : Nat) (W w : World) (hs : s.size ≤ 1000) (hz : NoZ s s.size) (X : ByteArray) (hX : X = bOf (strT s)) (h : PrW X g 0 D P B W w) :
    Calls Tryd.prog 31 #[.pointer (some ⟨g, 0, none⟩)] w (PStrP s X g D P B W) := by
  have HR := Lib.hid h
  have HX := Lib.hid hX
  have HZ := Lib.hid hz
  have c0 := h.c0
  have c1 := h.c1
  have hXs : X.size = (strT s).length := by rw [hX, bOf_size]
  have hX5 : X.size ≤ 5000 := by rw [hXs]; exact strT_max hs
  have hX3 : 4 ≤ X.size := by have := strT_len (s := s) (k := 0) (by omega); omega
  have HXs := Lib.hid hXs
  have HQ : Hid (∀ h : 0 < X.size, ((X[0]'h).toNat : Int) = 34) := fun h => by have := strT_0 s; rw [← hX, bAt_in h] at this; omega
  clear h hX hz hXs
  go_enter Tryd.func31, Tryd.ntmps31
  go_wp2_with fail
  go_step3
  go_upto_region 4 with fail
  go_cut [5] (fun v5 wx => v5 = .int .u8 34 ∧ w = wx)
  case first =>
    go_wp2_with fail
    go_meet
    exact ⟨by rw [HQ.out], by trivial⟩
  case rest =>
    obtain ⟨rfl, rfl⟩ := hcut
    clear HQ
    go_wp2_with fail
    go_step3
    go_upto_block 0 with fail
    go_cut [2, 4] (fun v2 v4 wx => PStrL s X g D P B W v2 v4 wx)
    case first =>
      have HAt := Lib.hid (fun k (h : k < s.size) => strT_at h)
      go_wp2_with fail
      go_loopg [2, 4] s.size (fun gk v2 v4 wr => ∃ (k p i' : Nat) (O : ByteArray), k ≤ s.size ∧ gk = s.size - k ∧ v2 = .string O ∧ v4 = .int .i64 (p : Int) ∧ O.size ≤ 1000 ∧ p + 3 ≤ X.size ∧ Hid (O = bOf (s.data.toList.take k)) ∧ Hid (p = (encT s k).length) ∧ Hid (PrW X g i' D P B W wr))
      case atStart => exact ⟨0, 1, 0, ByteArray.empty, by omega, by omega, rfl, by go_num, by decide, by omega, rfl, rfl, HR.out⟩
      case round =>
        obtain ⟨k, p, i', O, hk, rfl, rfl, rfl, hO, hp, HO, HP, HW⟩ := hrel
        clear c0 c1
        have c0 := HW.out.c0
        have c1 := HW.out.c1
        have f1 := HW.out.fz 1
        have hpl : p < X.size := by omega
        by_cases hlt : k < s.size
        · cases hn : isNrm s[k].toNat
          · -- an escape
            have hb := strT_esc hlt hn
            rw [← HX.out, ← HP.out, bAt_in hpl] at hb
            obtain ⟨R, hR⟩ := HAt.out k hlt
            have hE := esc_at (l := encT s k) (r := R) (b := s[k]) hn (by have := HZ.out k hlt; rwa [bAt_in hlt] at this) (strT s) hR
            rw [← HX.out, ← HP.out] at hE
            have HEs : Hid (∀ U, PrW X g p D P B W U → Calls Tryd.prog 30 #[.pointer (some ⟨g, 0, none⟩)] U (PEscYes X g p D P B W)) := fun U h => pEscYes_any X g p D P B W U (by omega) hE h
            obtain ⟨q1, q2, q3, q4, q5⟩ := (escAt_iff X p).1 hE
            rw [bAt_in q1] at q3 q4 q5
            have m0 : ((X[p].toNat : Int) == 92) = true := beq_iff_eq.2 (by omega)
            have m1 : ((X[p + 1].toNat : Int) == 13) = false := beq_eq_false_iff_ne.2 (by omega)
            have m2 : ((X[p + 1].toNat : Int) == 10) = false := beq_eq_false_iff_ne.2 (by omega)
            have m3 : ((X[p + 1].toNat : Int) == 12) = false := beq_eq_false_iff_ne.2 (by omega)
            have HRes : Hid (∀ out i', PEscIs X p out i' → out = bOf [s[k]] ∧ i' = (encT s (k + 1)).length) := fun out i' hpe => by
              rw [HX.out, HP.out] at hpe
              have hz0 : s[k].toNat ≠ 0 := by have := HZ.out k hlt; rwa [bAt_in hlt] at this
              have key : out = bOf [s[k]] ∧ i' = (encT s k).length + (encQ s[k]).length := by
                cases h1 : isCtl s[k].toNat
                · have h2 : isQu s[k].toNat = true := by
                    unfold isNrm at hn; rw [h1] at hn; cases h2 : isQu s[k].toNat
                    · rw [h2] at hn; cases hn
                    · rfl
                  exact esc_qu h2 (strT s) hR hpe
                · refine esc_ctl h1 hz0 (strT s) hR hpe ?_
                  rw [← HX.out, ← HP.out]; exact hE
              exact ⟨key.1, by rw [key.2, encT_succ s k hlt, List.length_append]⟩
            have HS := Lib.hid (HW.out.set p)
            clear hb hR hE q2 q3 q4 q5 hn
            go_wp2_with fail
            refine (HEs.out _ HS.out).mono ?_
            rintro e1 w1 ⟨out, i2, rfl, hr, hle, hpe⟩
            obtain ⟨rfl, rfl⟩ := HRes.out out i2 hpe
            have HR2 := Lib.hid hr
            have c1' := hr.c1
            have HO2 : Hid (O ++ bOf [s[k]] = bOf (s.data.toList.take (k + 1))) := by rw [Hid, take_snoc s k hlt, HO.out, bOf_app]
            have hO2 : (O ++ bOf [s[k]]).size ≤ 1000 := by rw [HO2.out, bOf_size, List.length_take]; omega
            have hp2 : (encT s (k + 1)).length + 3 ≤ X.size := by rw [HXs.out]; exact (strT_len (by omega)).1
            have hb1 : (bOf [s[k]]).size ≤ 1 := by rw [bOf_size]; simp
            obtain ⟨Y, hY⟩ : ∃ Y, Y = bOf [s[k]] := ⟨_, rfl⟩
            obtain ⟨p2, hpe2⟩ : ∃ p2, p2 = (encT s (k + 1)).length := ⟨_, rfl⟩
            rw [← hY] at HO2 hO2 hb1 ⊢
            rw [← hpe2] at HR2 c1' hp2
            have HP2 := Lib.hid hpe2
            clear hr hpe hY hpe2 hle c0 c1 f1
            go_wp2_with fail
            go_roundg (s.size - (k + 1))
            case measure => omega
            case rel => exact ⟨k + 1, p2, p2, _, by omega, rfl, rfl, rfl, hO2, hp2, HO2, HP2, HR2⟩
          · -- a run
            have hb := (strT_nrm hlt hn).1
            rw [← HX.out, ← HP.out, bAt_in hpl] at hb
            have hn2 : s[k].toNat ≠ 92 ∧ s[k].toNat ≠ 34 ∧ s[k].toNat ≠ 13 ∧ s[k].toNat ≠ 10 ∧ s[k].toNat ≠ 12 := by
              unfold isNrm isCtl isQu at hn
              simp at hn
              omega
            have m0 : ((X[p].toNat : Int) == 92) = false := beq_eq_false_iff_ne.2 (by omega)
            have m1 : ((X[p].toNat : Int) == 34) = false := beq_eq_false_iff_ne.2 (by omega)
            have m2 : ((X[p].toNat : Int) == 13) = false := beq_eq_false_iff_ne.2 (by omega)
            have m3 : ((X[p].toNat : Int) == 10) = false := beq_eq_false_iff_ne.2 (by omega)
            have m4 : ((X[p].toNat : Int) == 12) = false := beq_eq_false_iff_ne.2 (by omega)
            have HN := Lib.hid hn
            clear hb hn hn2
            go_upto_block 3 with fail
            obtain ⟨wo, rfl⟩ : ∃ wo : World, wo = wr := ⟨_, rfl⟩
            go_cut [4] (fun v4 wx => PRunL s k v4 ∧ wo = wx)
            case first =>
              go_wp2_with fail
              go_loopg [4] (s.size - k) (fun gk v4 wr => ∃ (m q : Nat), k ≤ m ∧ m ≤ s.size ∧ gk = s.size - m ∧ v4 = .int .i64 (q : Int) ∧ q + 3 ≤ X.size ∧ Hid (q = (encT s m).length) ∧ Hid (∀ j (h : j < s.size), k ≤ j → j < m → isNrm s[j].toNat = true) ∧ wo = wr)
              case atStart => exact ⟨k, p, Nat.le_refl _, hk, rfl, rfl, hp, HP.out, (fun j h q1 q2 => by omega), rfl⟩
              case round =>
                obtain ⟨m, q, hkm, hms, rfl, rfl, hq, HQ, HA, rfl⟩ := hrel
                clear m0 m1 m2 m3 m4
                have hql : q < X.size := by omega
                by_cases hm : m < s.size
                · cases hnm : isNrm s[m].toNat
                  · have hb := strT_esc hm hnm
                    rw [← HX.out, ← HQ.out, bAt_in hql] at hb
                    have m0 : ((X[q].toNat : Int) == 34) = false := beq_eq_false_iff_ne.2 (by omega)
                    have m1 : ((X[q].toNat : Int) == 92) = true := beq_iff_eq.2 (by omega)
                    have HN2 := Lib.hid hnm
                    clear hb hnm
                    go_wp2_with fail
                    go_meet
                    refine ⟨⟨m, ?_, hms, by rw [HQ.out], HA.out⟩, rfl⟩
                    rcases Nat.lt_or_ge k m with c | c
                    · exact c
                    · have : m = k := by omega
                      subst this
                      have e1 := HN.out
                      rw [HN2.out] at e1; cases e1
                  · obtain ⟨hb, hb2⟩ := strT_nrm hm hnm
                    rw [← HX.out, ← HQ.out, bAt_in hql] at hb
                    have hn2 : s[m].toNat ≠ 92 ∧ s[m].toNat ≠ 34 ∧ s[m].toNat ≠ 13 ∧ s[m].toNat ≠ 10 ∧ s[m].toNat ≠ 12 := by
                      have hn := hnm
                      unfold isNrm isCtl isQu at hn
                      simp at hn
                      omega
                    have m0 : ((X[q].toNat : Int) == 92) = false := beq_eq_false_iff_ne.2 (by omega)
                    have m1 : ((X[q].toNat : Int) == 34) = false := beq_eq_false_iff_ne.2 (by omega)
                    have m2 : ((X[q].toNat : Int) == 13) = false := beq_eq_false_iff_ne.2 (by omega)
                    have m3 : ((X[q].toNat : Int) == 10) = false := beq_eq_false_iff_ne.2 (by omega)
                    have m4 : ((X[q].toNat : Int) == 12) = false := beq_eq_false_iff_ne.2 (by omega)
                    have HA2 : Hid (∀ j (h : j < s.size), k ≤ j → j < m + 1 → isNrm s[j].toNat = true) := fun j h q1 q2 => by
                      by_cases c : j < m
                      · exact HA.out j h q1 c
                      · have : j = m := by omega
                        subst this; exact hnm
                    have HQ2 : Hid (q + 1 = (encT s (m + 1)).length) := by rw [Hid, hb2, HQ.out]
                    have hq3 : q + 1 + 3 ≤ X.size := by rw [HQ2.out, HXs.out]; exact (strT_len (by omega)).1
                    clear hb hb2 hn2 hnm
                    go_wp2_with fail
                    go_roundg (s.size - (m + 1))
                    case measure => omega
                    case rel => exact ⟨m + 1, q + 1, by omega, by omega, rfl, by go_num, hq3, HQ2, HA2, by trivial⟩
                · obtain rfl : m = s.size := by omega
                  have hb := strT_end s
                  rw [← HX.out, ← HQ.out, bAt_in hql] at hb
                  have m0 : ((X[q].toNat : Int) == 34) = true := beq_iff_eq.2 (by omega)
                  clear hb
                  go_wp2_with fail
                  go_meet
                  exact ⟨⟨s.size, hlt, Nat.le_refl _, by rw [HQ.out], HA.out⟩, rfl⟩
            case rest =>
              obtain ⟨⟨m, hkm, hms, rfl, ha⟩, rfl⟩ := hcut
              obtain ⟨d, rfl⟩ : ∃ d, m = k + d := ⟨m - k, by omega⟩
              have hrun := strT_run hms ha
              rw [← HO.out, ← HX.out, ← HP.out] at hrun
              obtain ⟨q, hqe⟩ : ∃ q, q = (encT s (k + d)).length := ⟨_, rfl⟩
              have hq3 : q + 3 ≤ X.size := by rw [hqe, HXs.out]; exact (strT_len (by omega)).1
              have hpq : p ≤ q := by rw [HP.out, hqe, encT_run d hms ha, List.length_append]; omega
              rw [← hqe] at hrun ⊢
              have HO2 := Lib.hid hrun
              have hO2 : (O ++ X.extract p q).size ≤ 1000 := by rw [hrun, bOf_size, List.length_take]; omega
              have hO3 : (X.extract p q).size ≤ 1000 := by rw [ByteArray.size_append] at hO2; omega
              have HP2 := Lib.hid hqe
              clear hrun hqe ha m0 m1 m2 m3 m4
              go_wp2_with fail
              go_roundg (s.size - (k + d))
              case measure => omega
              case rel => exact ⟨k + d, q, i', _, hms, rfl, rfl, rfl, hO2, hq3, HO2, HP2, HW⟩
        · obtain rfl : k = s.size := by omega
          have hb := strT_end s
          rw [← HX.out, ← HP.out, bAt_in hpl] at hb
          have m0 : ((X[p].toNat : Int) == 92) = false := beq_eq_false_iff_ne.2 (by omega)
          have m1 : ((X[p].toNat : Int) == 34) = true := beq_iff_eq.2 (by omega)
          have HS : Hid (O = s) := by
            rw [Hid, HO.out, List.take_of_length_le (by rw [Array.length_toList]; exact Nat.le_refl _), bOf_data]
          clear hb
          go_wp2_with fail
          go_meet
          exact ⟨i', by rw [HS.out], by rw [HP.out], HW.out⟩
    case rest =>
      obtain ⟨i', rfl, rfl, hr⟩ := hcut
      have HR2 := Lib.hid hr
      obtain ⟨p, hpe⟩ : ∃ p, p = (encT s s.size).length := ⟨_, rfl⟩
      rw [← hpe]
      have hp3 : p + 3 ≤ X.size := by rw [HXs.out, hpe]; exact (strT_len (Nat.le_refl _)).1
      have HPe := Lib.hid hpe
      have HS := Lib.hid (hr.set (p + 1))
      have f1 := hr.fz 1
      clear c0 c1 hpe
      have c0 := hr.c0
      have c1 := hr.c1
      clear hr
      go_wp2_with fail
      go_ret2
      exact ⟨rfl, by rw [← HPe.out]; exact HS.out⟩
end Go.Proofs.YtkdfdfhejibopaaDoor
