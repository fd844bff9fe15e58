/- What each way to compare answers (the beginning, the end, a part). -/
import Derived.Test.YtfebdbfkpmjpeaaT91
namespace Go.Proofs.Ytfebdbfkpmjpeaa
open Go.RowKit
set_option linter.unusedVariables false

theorem prefix_stands (s p : List UInt8) : Lib.hasPrefix s p = standsB s 0 p := by
  unfold Lib.hasPrefix standsB
  rw [Bool.eq_iff_iff, List.isPrefixOf_iff_prefix, Bool.and_eq_true, decide_eq_true_eq, beq_iff_eq, List.drop_zero]
  constructor
  · intro h
    exact ⟨by have := h.length_le; omega, (List.prefix_iff_eq_take.1 h).symm⟩
  · rintro ⟨_, h⟩
    rw [← h]; exact List.take_prefix _ _
theorem suffix_stands (s p : List UInt8) : Lib.hasSuffix s p = (decide (p.length ≤ s.length) && standsB s (s.length - p.length) p) := by
  unfold Lib.hasSuffix standsB
  rw [Bool.eq_iff_iff, List.isSuffixOf_iff_suffix, Bool.and_eq_true, Bool.and_eq_true, decide_eq_true_eq, decide_eq_true_eq, beq_iff_eq]
  constructor
  · intro h
    have hl := h.length_le
    refine ⟨hl, by omega, ?_⟩
    rw [← List.suffix_iff_eq_drop.1 h, List.take_of_length_le (Nat.le_refl _)]
  · rintro ⟨hl, _, h⟩
    rw [← h, List.take_of_length_le (by rw [List.length_drop]; omega)]
    exact List.drop_suffix _ _


def IdxPost_c (s p : ByteArray) (w : World) (e : Ending) (w' : World) : Prop := ∃ z : Int, e = .returned (.int .i64 z) ∧ decide (0 ≤ z) = Lib.contains s.data.toList p.data.toList ∧ (∀ i : Nat, z = i → Lib.index s.data.toList p.data.toList = i) ∧ (z < 0 → z = -1) ∧ w = w'
set_option maxRecDepth 100000 in
set_option maxHeartbeats 1000000 in
theorem zzIdx_c (s p : ByteArray) (hs : s.size ≤ 2147483647) (hp : p.size ≤ 2147483647) (w : World) :
    Calls Try.prog 256 #[.string s, .string p] w (IdxPost_c s p w) := by
  have HL : Hid (s.data.toList.length = s.size ∧ p.data.toList.length = p.size) := ⟨rfl, rfl⟩
  go_enter Try.func256, Try.ntmps256
  go_wp2_with fail
  go_loopw [5] (fun x wr => ∃ k : Nat, k ≤ s.size + 1 ∧ x = .int .i64 k ∧ Hid (∀ j, j < k → j + p.data.toList.length ≤ s.data.toList.length → standsB s.data.toList j p.data.toList = false) ∧ w = wr) (fun x _ => s.size + 1 - (intOf x).toNat)
  case atStart => exact ⟨0, Nat.zero_le _, rfl, (fun j h => by omega), rfl⟩
  case round =>
    obtain ⟨k, hk, rfl, hno, rfl⟩ := hrel
    by_cases hle : k + p.size ≤ s.size
    · have HX : Hid (((s.extract k (k + p.size)).toList == p.toList) = standsB s.data.toList k p.data.toList) := by
        rw [Hid, toL, toL, Lib.extract_data, Nat.add_sub_cancel_left]
        unfold standsB
        have := HL.out
        rw [decide_eq_true (by omega), Bool.true_and, this.2]
      cases hb : standsB s.data.toList k p.data.toList
      · have HN : Hid (∀ j, j < k + 1 → j + p.data.toList.length ≤ s.data.toList.length → standsB s.data.toList j p.data.toList = false) := by
          intro j hj h2
          by_cases e : j = k
          · subst e; exact hb
          · exact hno.out j (by omega) h2
        have hx := HX.out.trans hb
        clear hno hb HX
        go_wp2_with fail
        go_roundw
        case rel => exact ⟨k + 1, by omega, by go_num, HN.out, by trivial⟩
        case measure => simp [intOf]; omega
      · have HF := Lib.hid (contains_yes hb)
        have HIx : Hid (Lib.index s.data.toList p.data.toList = k) := by
          have hlen := HL.out
          refine Lib.index_first (by omega) ?_ (fun j hj => ?_)
          · rw [Lib.occAt_iff_take _ _ _ (by omega)]
            unfold standsB at hb
            rw [Bool.and_eq_true] at hb; exact hb.2
          · rw [Lib.occAt_iff_take _ _ _ (by omega)]
            have := hno.out j hj (by omega)
            unfold standsB at this
            rw [decide_eq_true (by omega), Bool.true_and] at this; exact this
        have hx := HX.out.trans hb
        clear hno hb HX
        go_wp2_with fail
        go_ret
        exact ⟨k, rfl, by rw [HF.out]; simp, (fun i h => by rw [HIx.out]; exact h), (fun h => by omega), rfl⟩
    · have HF := Lib.hid (contains_no hno.out (by have := HL.out; omega))
      clear hno
      go_wp2_with fail
      go_ret
      exact ⟨-1, rfl, by rw [HF.out]; rfl, (fun i h => by omega), (fun _ => rfl), rfl⟩

set_option maxRecDepth 100000 in
theorem zzCon_c (s p : ByteArray) (hs : s.size ≤ 2147483647) (hp : p.size ≤ 2147483647) (w : World) :
    Calls Try.prog 250 #[.string s, .string p] w fun e w' => e = .returned (.bool (Lib.contains s.data.toList p.data.toList)) ∧ w = w' := by
  go_enter Try.func250, Try.ntmps250
  go_wp2_with fail
  refine (zzIdx_c s p hs hp w).mono ?_
  rintro e w1 ⟨z, rfl, hz, _, _, rfl⟩
  have HZ := Lib.hid hz
  clear hz
  go_wp2_with fail
  go_ret
  exact ⟨by rw [← HZ.out]; rfl, rfl⟩


set_option maxRecDepth 100000 in
set_option maxHeartbeats 1000000 in
theorem asks_pre (p0 p1 : Nat) (f : Bool) (val : ByteArray) (hv : val.size ≤ 1000000000) (w : World) (h0 : w.cell? ⟨p0, 0, none⟩ = some (.bool f)) (h1 : w.cell? ⟨p1, 0, none⟩ = some (.string val)) (l0 : p0 < w.heap.size) (l1 : p1 < w.heap.size) :
    Asks_pre (some ⟨p0, 0, none⟩) (some ⟨p1, 0, none⟩) (RPre f val) w := by
  intro W s hb hs
  have c0 := (hb.cell (p := ⟨p0, 0, none⟩) l0).trans h0
  have c1 := (hb.cell (p := ⟨p1, 0, none⟩) l1).trans h1
  have hp0 := Nat.lt_of_lt_of_le l0 hb.size
  have hp1 := Nat.lt_of_lt_of_le l1 hb.size
  have HT := Lib.hid (trim_any_c s W hs)
  have HV : Hid ((lowS s).size ≤ 2147483647 ∧ (lowS val).size ≤ 2147483647) := by rw [Hid, size_low, size_low]; omega
  clear hb h0 h1 l0 l1
  go_enter Try.func244, Try.ntmps244
  go_wp2_with fail
  refine HT.out.mono ?_
  rintro e w1 ⟨tv, rfl, htv, hb1⟩
  have d0 := (hb1.cell (p := ⟨p0, 0, none⟩) hp0).trans c0
  have d1 := (hb1.cell (p := ⟨p1, 0, none⟩) hp1).trans c1
  have hsz1 := hb1.size
  have HB1 := Lib.hid hb1
  clear hb1 c0 c1 HT
  cases hem : tv.toList.isEmpty
  · clear htv
    cases f
    · have HF : Hid (RPre false val s (Lib.hasPrefix s.data.toList val.data.toList)) := fun _ => by rw [prefix_stands]; rfl
      obtain ⟨r, hr⟩ : ∃ r, r = Lib.hasPrefix s.data.toList val.data.toList := ⟨_, rfl⟩
      rw [← hr] at HF
      have HC : Hid (∀ W, Calls Try.prog 245 #[.string s, .string val] W fun e w' => e = .returned (.bool r) ∧ W = w') := by
        intro W
        refine (Try.strings_HasPrefix s val W).mono ?_; rintro e w9 ⟨rfl, rfl⟩
        exact ⟨by rw [hr], rfl⟩
      clear hr
      go_wp2_with fail
      refine (HC.out _).mono ?_
      rintro e w2 ⟨rfl, rfl⟩
      go_wp2_with fail
      go_ret
      exact ⟨r, rfl, HF.out, HB1.out⟩
    · have HF : Hid (RPre true val s (Lib.hasPrefix (lowS s).data.toList (lowS val).data.toList)) := by
        intro _
        rw [prefix_stands]
        have q1 : (lowS s).data.toList = lowB true s.data.toList := lowS_sm s
        have q2 : (lowS val).data.toList = lowB true val.data.toList := lowS_sm val
        rw [q1, q2]
      obtain ⟨r, hr⟩ : ∃ r, r = Lib.hasPrefix (lowS s).data.toList (lowS val).data.toList := ⟨_, rfl⟩
      rw [← hr] at HF
      have HC : Hid (∀ W, Calls Try.prog 245 #[.string (lowS s), .string (lowS val)] W fun e w' => e = .returned (.bool r) ∧ W = w') := by
        intro W
        have hq := HV.out
        refine (Try.strings_HasPrefix (lowS s) (lowS val) W).mono ?_; rintro e w9 ⟨rfl, rfl⟩
        exact ⟨by rw [hr], rfl⟩
      have HL1 := Lib.hid (fun W => zzLow_any s W hs)
      have HL2 := Lib.hid (fun W => zzLow_any val W (by omega))
      clear hr
      go_wp2_with fail
      first | go_region_law (first
        | (go_simp; go_at_call_of 246 (Value.string s); refine (HL1.out _).mono ?_
           rintro e w2 ⟨rfl, hb2⟩
           have f1 := (hb2.cell (p := ⟨p1, 0, none⟩) (by simp; omega)).trans d1
           have hsz2 : w1.heap.size ≤ w2.heap.size := hb2.size
           have HB2 := Lib.hid (HB1.out.drew.trans (hb2.mono (by simp; omega)))
           clear hb2)
        | (go_simp; go_at_call_of 246 (Value.string val); refine (HL2.out _).mono ?_
           rintro e w3 ⟨rfl, hb3⟩
           have HB3 := Lib.hid (HB2.out.trans (hb3.mono (by have := HB2.out.size; omega)))
           clear hb3)
        | (go_simp; go_at_call 245; refine (HC.out _).mono ?_
           rintro e w4 ⟨rfl, rfl⟩)) | fail
      all_goals
        go_wp2_with fail
        go_ret
        exact ⟨r, rfl, HF.out, HB3.out⟩
  · have HF : Hid (RPre f val s false) := fun h => absurd (htv hem) h
    clear htv
    go_wp2_with fail
    go_ret
    exact ⟨false, rfl, HF.out, HB1.out⟩

set_option maxRecDepth 100000 in
set_option maxHeartbeats 1000000 in
theorem asks_suf (p0 p1 : Nat) (f : Bool) (val : ByteArray) (hv : val.size ≤ 1000000000) (w : World) (h0 : w.cell? ⟨p0, 0, none⟩ = some (.bool f)) (h1 : w.cell? ⟨p1, 0, none⟩ = some (.string val)) (l0 : p0 < w.heap.size) (l1 : p1 < w.heap.size) :
    Asks_suf (some ⟨p0, 0, none⟩) (some ⟨p1, 0, none⟩) (RSuf f val) w := by
  intro W s hb hs
  have c0 := (hb.cell (p := ⟨p0, 0, none⟩) l0).trans h0
  have c1 := (hb.cell (p := ⟨p1, 0, none⟩) l1).trans h1
  have hp0 := Nat.lt_of_lt_of_le l0 hb.size
  have hp1 := Nat.lt_of_lt_of_le l1 hb.size
  have HT := Lib.hid (trim_any_c s W hs)
  have HV : Hid ((lowS s).size ≤ 2147483647 ∧ (lowS val).size ≤ 2147483647) := by rw [Hid, size_low, size_low]; omega
  clear hb h0 h1 l0 l1
  go_enter Try.func247, Try.ntmps247
  go_wp2_with fail
  refine HT.out.mono ?_
  rintro e w1 ⟨tv, rfl, htv, hb1⟩
  have d0 := (hb1.cell (p := ⟨p0, 0, none⟩) hp0).trans c0
  have d1 := (hb1.cell (p := ⟨p1, 0, none⟩) hp1).trans c1
  have hsz1 := hb1.size
  have HB1 := Lib.hid hb1
  clear hb1 c0 c1 HT
  cases hem : tv.toList.isEmpty
  · clear htv
    cases f
    · have HF : Hid (RSuf false val s (Lib.hasSuffix s.data.toList val.data.toList)) := fun _ => by rw [suffix_stands]; rfl
      obtain ⟨r, hr⟩ : ∃ r, r = Lib.hasSuffix s.data.toList val.data.toList := ⟨_, rfl⟩
      rw [← hr] at HF
      have HC : Hid (∀ W, Calls Try.prog 248 #[.string s, .string val] W fun e w' => e = .returned (.bool r) ∧ W = w') := by
        intro W
        refine (Try.strings_HasSuffix s val W (by omega)).mono ?_; rintro e w9 ⟨rfl, rfl⟩
        exact ⟨by rw [hr], rfl⟩
      clear hr
      go_wp2_with fail
      refine (HC.out _).mono ?_
      rintro e w2 ⟨rfl, rfl⟩
      go_wp2_with fail
      go_ret
      exact ⟨r, rfl, HF.out, HB1.out⟩
    · have HF : Hid (RSuf true val s (Lib.hasSuffix (lowS s).data.toList (lowS val).data.toList)) := by
        intro _
        rw [suffix_stands]
        have q1 : (lowS s).data.toList = lowB true s.data.toList := lowS_sm s
        have q2 : (lowS val).data.toList = lowB true val.data.toList := lowS_sm val
        rw [q1, q2, lowB_len, lowB_len]
      obtain ⟨r, hr⟩ : ∃ r, r = Lib.hasSuffix (lowS s).data.toList (lowS val).data.toList := ⟨_, rfl⟩
      rw [← hr] at HF
      have HC : Hid (∀ W, Calls Try.prog 248 #[.string (lowS s), .string (lowS val)] W fun e w' => e = .returned (.bool r) ∧ W = w') := by
        intro W
        have hq := HV.out
        refine (Try.strings_HasSuffix (lowS s) (lowS val) W (by have := HV.out; omega)).mono ?_; rintro e w9 ⟨rfl, rfl⟩
        exact ⟨by rw [hr], rfl⟩
      have HL1 := Lib.hid (fun W => zzLow_any s W hs)
      have HL2 := Lib.hid (fun W => zzLow_any val W (by omega))
      clear hr
      go_wp2_with fail
      first | go_region_law (first
        | (go_simp; go_at_call_of 246 (Value.string s); refine (HL1.out _).mono ?_
           rintro e w2 ⟨rfl, hb2⟩
           have f1 := (hb2.cell (p := ⟨p1, 0, none⟩) (by simp; omega)).trans d1
           have hsz2 : w1.heap.size ≤ w2.heap.size := hb2.size
           have HB2 := Lib.hid (HB1.out.drew.trans (hb2.mono (by simp; omega)))
           clear hb2)
        | (go_simp; go_at_call_of 246 (Value.string val); refine (HL2.out _).mono ?_
           rintro e w3 ⟨rfl, hb3⟩
           have HB3 := Lib.hid (HB2.out.trans (hb3.mono (by have := HB2.out.size; omega)))
           clear hb3)
        | (go_simp; go_at_call 248; refine (HC.out _).mono ?_
           rintro e w4 ⟨rfl, rfl⟩)) | fail
      all_goals
        go_wp2_with fail
        go_ret
        exact ⟨r, rfl, HF.out, HB3.out⟩
  · have HF : Hid (RSuf f val s false) := fun h => absurd (htv hem) h
    clear htv
    go_wp2_with fail
    go_ret
    exact ⟨false, rfl, HF.out, HB1.out⟩

set_option maxRecDepth 100000 in
set_option maxHeartbeats 1000000 in
theorem asks_sub (p0 p1 : Nat) (f : Bool) (val : ByteArray) (hv : val.size ≤ 1000000000) (w : World) (h0 : w.cell? ⟨p0, 0, none⟩ = some (.bool f)) (h1 : w.cell? ⟨p1, 0, none⟩ = some (.string val)) (l0 : p0 < w.heap.size) (l1 : p1 < w.heap.size) :
    Asks_sub (some ⟨p0, 0, none⟩) (some ⟨p1, 0, none⟩) (RSub f val) w := by
  intro W s hb hs
  have c0 := (hb.cell (p := ⟨p0, 0, none⟩) l0).trans h0
  have c1 := (hb.cell (p := ⟨p1, 0, none⟩) l1).trans h1
  have hp0 := Nat.lt_of_lt_of_le l0 hb.size
  have hp1 := Nat.lt_of_lt_of_le l1 hb.size
  have HT := Lib.hid (trim_any_c s W hs)
  have HV : Hid ((lowS s).size ≤ 2147483647 ∧ (lowS val).size ≤ 2147483647) := by rw [Hid, size_low, size_low]; omega
  clear hb h0 h1 l0 l1
  go_enter Try.func249, Try.ntmps249
  go_wp2_with fail
  refine HT.out.mono ?_
  rintro e w1 ⟨tv, rfl, htv, hb1⟩
  have d0 := (hb1.cell (p := ⟨p0, 0, none⟩) hp0).trans c0
  have d1 := (hb1.cell (p := ⟨p1, 0, none⟩) hp1).trans c1
  have hsz1 := hb1.size
  have HB1 := Lib.hid hb1
  clear hb1 c0 c1 HT
  cases hem : tv.toList.isEmpty
  · clear htv
    cases f
    · have HF : Hid (RSub false val s (Lib.contains s.data.toList val.data.toList)) := fun _ => by rfl
      obtain ⟨r, hr⟩ : ∃ r, r = Lib.contains s.data.toList val.data.toList := ⟨_, rfl⟩
      rw [← hr] at HF
      have HC : Hid (∀ W, Calls Try.prog 250 #[.string s, .string val] W fun e w' => e = .returned (.bool r) ∧ W = w') := by
        intro W
        refine (zzCon_c s val (by omega) (by omega) W).mono ?_; rintro e w9 ⟨rfl, rfl⟩
        exact ⟨by rw [hr], rfl⟩
      clear hr
      go_wp2_with fail
      refine (HC.out _).mono ?_
      rintro e w2 ⟨rfl, rfl⟩
      go_wp2_with fail
      go_ret
      exact ⟨r, rfl, HF.out, HB1.out⟩
    · have HF : Hid (RSub true val s (Lib.contains (lowS s).data.toList (lowS val).data.toList)) := by
        intro _
        
        have q1 : (lowS s).data.toList = lowB true s.data.toList := lowS_sm s
        have q2 : (lowS val).data.toList = lowB true val.data.toList := lowS_sm val
        rw [q1, q2]
      obtain ⟨r, hr⟩ : ∃ r, r = Lib.contains (lowS s).data.toList (lowS val).data.toList := ⟨_, rfl⟩
      rw [← hr] at HF
      have HC : Hid (∀ W, Calls Try.prog 250 #[.string (lowS s), .string (lowS val)] W fun e w' => e = .returned (.bool r) ∧ W = w') := by
        intro W
        have hq := HV.out
        refine (zzCon_c (lowS s) (lowS val) (by have := HV.out; omega) (by have := HV.out; omega) W).mono ?_; rintro e w9 ⟨rfl, rfl⟩
        exact ⟨by rw [hr], rfl⟩
      have HL1 := Lib.hid (fun W => zzLow_any s W hs)
      have HL2 := Lib.hid (fun W => zzLow_any val W (by omega))
      clear hr
      go_wp2_with fail
      first | go_region_law (first
        | (go_simp; go_at_call_of 246 (Value.string s); refine (HL1.out _).mono ?_
           rintro e w2 ⟨rfl, hb2⟩
           have f1 := (hb2.cell (p := ⟨p1, 0, none⟩) (by simp; omega)).trans d1
           have hsz2 : w1.heap.size ≤ w2.heap.size := hb2.size
           have HB2 := Lib.hid (HB1.out.drew.trans (hb2.mono (by simp; omega)))
           clear hb2)
        | (go_simp; go_at_call_of 246 (Value.string val); refine (HL2.out _).mono ?_
           rintro e w3 ⟨rfl, hb3⟩
           have HB3 := Lib.hid (HB2.out.trans (hb3.mono (by have := HB2.out.size; omega)))
           clear hb3)
        | (go_simp; go_at_call 250; refine (HC.out _).mono ?_
           rintro e w4 ⟨rfl, rfl⟩)) | fail
      all_goals
        go_wp2_with fail
        go_ret
        exact ⟨r, rfl, HF.out, HB3.out⟩
  · have HF : Hid (RSub f val s false) := fun h => absurd (htv hem) h
    clear htv
    go_wp2_with fail
    go_ret
    exact ⟨false, rfl, HF.out, HB1.out⟩
end Go.Proofs.Ytfebdbfkpmjpeaa
