/- The reader's words; whether a text has an n. -/
import Derived.Test.YtkdfdfhejibopaaDoorT424
import Derived.Test.YtkdfdfhejibopaaDoorT425
import Derived.Test.YtkdfdfhejibopaaDoorT420
import Derived.Deep.RegionHeld3
import Derived.StillTailTactics
namespace Go.Proofs.YtkdfdfhejibopaaDoor
open Go.RowKit
set_option linter.unusedVariables false

/-- A byte with which a name may begin. -/
def isBg (c : Nat) : Bool := decide (97 ≤ c ∧ c ≤ 122) || decide (65 ≤ c ∧ c ≤ 90) || decide (c = 95) || decide (127 < c)
theorem isBg_iff (c : Nat) : isBg c = true ↔ (97 ≤ c ∧ c ≤ 122) ∨ (65 ≤ c ∧ c ≤ 90) ∨ c = 95 ∨ 127 < c := by
  unfold isBg
  simp only [Bool.or_eq_true, decide_eq_true_eq, or_assoc]
theorem isBg_no (c : Nat) : isBg c = false ↔ ¬ ((97 ≤ c ∧ c ≤ 122) ∨ (65 ≤ c ∧ c ≤ 90) ∨ c = 95 ∨ 127 < c) := by
  rw [← isBg_iff, Bool.not_eq_true]
def BoolP (b : Bool) (w : World) (e : Ending) (w' : World) : Prop := e = .returned (.bool b) ∧ w = w'

set_option maxRecDepth 100000 in
set_option maxHeartbeats 2000000 in
theorem beginByte_any (c : Nat) (hc : c < 256) (w : World) : Calls Tryd.prog 42 #[.int .u8 (c : Int)] w (BoolP (isBg c) w) := by
  have hcases : (128 ≤ c) ∨ (122 < c ∧ c ≤ 127) ∨ (97 ≤ c ∧ c ≤ 122) ∨ (c = 96) ∨ (c = 95) ∨ (90 < c ∧ c < 95) ∨ (65 ≤ c ∧ c ≤ 90) ∨ (57 < c ∧ c < 65) ∨ (c ≤ 57) := by omega
  rcases hcases with h | h | h | h | h | h | h | h | h
  all_goals
    have HV : Hid (isBg c = true ↔ (97 ≤ c ∧ c ≤ 122) ∨ (65 ≤ c ∧ c ≤ 90) ∨ c = 95 ∨ 127 < c) := isBg_iff c
    go_enter Tryd.func42, Tryd.ntmps42
    go_wp2_with fail
    all_goals go_ret
    all_goals exact ⟨ret_b (by rw [Bool.eq_iff_iff, HV.out]; simp; try omega), rfl⟩

set_option maxRecDepth 100000 in
set_option maxHeartbeats 2000000 in
theorem nameByte_any (c : Nat) (hc : c < 256) (w : World) : Calls Tryd.prog 36 #[.int .u8 (c : Int)] w (BoolP (isNm c) w) := by
  have HB := Lib.hid (fun U => beginByte_any c hc U)
  obtain ⟨b, hb⟩ : ∃ b, b = isBg c := ⟨_, rfl⟩
  rw [← hb] at HB
  cases b
  · have h0 := (isBg_no c).1 hb.symm
    have HV : Hid (isNm c = true ↔ c = 45 ∨ (48 ≤ c ∧ c ≤ 57)) := by rw [Hid, isNm_iff]; omega
    clear hb h0
    by_cases h45 : c = 45
    · have m0 : ((c : Int) == 45) = true := beq_iff_eq.2 (by omega)
      have HT : Hid (isNm c = true) := by rw [Hid, HV.out]; exact .inl h45
      clear h45
      go_enter Tryd.func36, Tryd.ntmps36
      go_wp2_with fail
      refine (HB.out _).mono ?_
      rintro e1 w1 ⟨rfl, rfl⟩
      go_wp2_with fail
      go_ret
      exact ⟨ret_b HT.out, rfl⟩
    · have m0 : ((c : Int) == 45) = false := beq_eq_false_iff_ne.2 (by omega)
      have hcases : (57 < c) ∨ (48 ≤ c ∧ c ≤ 57) ∨ c < 48 := by omega
      have HT : Hid (isNm c = true ↔ 48 ≤ c ∧ c ≤ 57) := by rw [Hid, HV.out]; omega
      clear h45
      rcases hcases with h | h | h
      all_goals
        go_enter Tryd.func36, Tryd.ntmps36
        go_wp2_with fail
        refine (HB.out _).mono ?_
        rintro e1 w1 ⟨rfl, rfl⟩
        go_wp2_with fail
        all_goals go_ret
        all_goals exact ⟨ret_b (by rw [Bool.eq_iff_iff, HT.out]; simp; try omega), rfl⟩
  · have h0 := (isBg_iff c).1 hb.symm
    have HV : Hid (isNm c = true) := by rw [Hid, isNm_iff]; omega
    clear hb h0
    go_enter Tryd.func36, Tryd.ntmps36
    go_wp2_with fail
    refine (HB.out _).mono ?_
    rintro e1 w1 ⟨rfl, rfl⟩
    go_wp2_with fail
    go_ret
    exact ⟨ret_b HV.out, rfl⟩

/-- Whether a text has an n. -/
def HasN (s : ByteArray) : Prop := ∃ i, i < s.size ∧ bAt s i = 110
def SnP (s : ByteArray) (w : World) (e : Ending) (w' : World) : Prop := ∃ b, e = .returned (.bool b) ∧ (b = true ↔ HasN s) ∧ w = w'

set_option maxRecDepth 100000 in
set_option maxHeartbeats 2000000 in
theorem someN_any (s : ByteArray) (w : World) (hs : s.size ≤ 1000) : Calls Tryd.prog 23 #[.string s] w (SnP s w) := by
  go_enter Tryd.func23, Tryd.ntmps23
  go_wp2_with fail
  go_loopw [3] (fun x wr => ∃ k : Nat, k ≤ s.size ∧ x = .int .i64 (k : Int) ∧ Hid (∀ j, j < k → bAt s j ≠ 110) ∧ w = wr) (fun x _ => s.size - (intOf x).toNat)
  case atStart => exact ⟨0, Nat.zero_le _, rfl, (fun j hj => absurd hj (Nat.not_lt_zero j)), rfl⟩
  case round =>
    obtain ⟨k, hk, rfl, HN, rfl⟩ := hrel
    by_cases hlt : k < s.size
    · by_cases h : s[k].toNat = 110
      · have m0 : ((s[k].toNat : Int) == 110) = true := beq_iff_eq.2 (by omega)
        have HV : Hid (HasN s) := ⟨k, hlt, by rw [bAt_in hlt]; exact h⟩
        clear h
        go_wp2_with fail
        go_ret
        exact ⟨true, rfl, ⟨fun _ => HV.out, fun _ => rfl⟩, rfl⟩
      · have m0 : ((s[k].toNat : Int) == 110) = false := beq_eq_false_iff_ne.2 (by omega)
        have HN2 : Hid (∀ j, j < k + 1 → bAt s j ≠ 110) := fun j hj => by
          by_cases q : j < k
          · exact HN.out j q
          · have : j = k := by omega
            subst this; rw [bAt_in hlt]; exact h
        clear h
        go_wp2_with fail
        go_roundw
        case rel => exact ⟨k + 1, by omega, by go_num, HN2, by trivial⟩
        case measure => simp [intOf]; omega
    · have HN2 : Hid (∀ j, j < s.size → bAt s j ≠ 110) := fun j hj => HN.out j (by omega)
      go_wp2_with fail
      go_ret
      exact ⟨false, rfl, ⟨(fun h => by cases h), fun ⟨i, hi, q⟩ => absurd q (HN2.out i hi)⟩, rfl⟩

/-- A word, whatever the case of its letters, that no byte of a name follows. -/
def wordB (s t : ByteArray) (k : Nat) : Bool := decide (k + t.size ≤ s.size ∧ lowS (s.extract k (k + t.size)) = t ∧ isNm (bAt s (k + t.size)) = false ∧ bAt s (k + t.size) ≠ 92)
def WdP (s t : ByteArray) (g k : Nat) (bd u : Bool) (B : Nat) (W : World) (e : Ending) (w' : World) : Prop := e = .returned (.bool (wordB s t k)) ∧ RdB s g (if wordB s t k = true then k + t.size else k) bd u B W w'

set_option maxRecDepth 100000 in
set_option maxHeartbeats 8000000 in
theorem word_any (s t : ByteArray) (ht : t.size ≤ 4) (g k : Nat) (bd u : Bool) (B : Nat) (W w : World) (hs : s.size ≤ 1000) (hk : k ≤ s.size) (h : RdB s g k bd u B W w) :
    Calls Tryd.prog 32 #[.pointer (some ⟨g, 0, none⟩), .string t] w (WdP s t g k bd u B W) := by
  have HR := Lib.hid h
  obtain ⟨c0, c1⟩ := h.rd
  have f1 := h.fz 1
  clear h
  have hw : IntKind.i64.wrap ((k : Int) + (t.size : Int)) = ((k + t.size : Nat) : Int) := by
    have := IntWalk.i64_in ((k : Int) + (t.size : Int)) ⟨by omega, by omega⟩
    rw [this]; rfl
  by_cases hend : k + t.size ≤ s.size
  · obtain ⟨e, he⟩ : ∃ e, e = k + t.size := ⟨_, rfl⟩
    have HLo := Lib.hid (fun U => specLower_any (s.extract k e) U (by rw [ByteArray.size_extract]; omega))
    rw [← he] at hend hw
    have hd : decide ((s.size : Int) < (e : Int)) = false := decide_eq_false (by omega)
    have hd0 : decide (s.size < e) = false := decide_eq_false (by omega)
    have hw2 : (k : Int) + (t.size : Int) = (e : Int) := by omega
    have hke : k ≤ e := by omega
    have HR1 : Hid (RdB s g k bd u B W w.drew) := HR.out.drew 1
    have HWd : Hid (wordB s t k = decide (e ≤ s.size ∧ lowS (s.extract k e) = t ∧ isNm (bAt s e) = false ∧ bAt s e ≠ 92)) := by rw [Hid, he]; rfl
    have HEe := Lib.hid he
    obtain ⟨L, hL⟩ : ∃ L, L = lowS (s.extract k e) := ⟨_, rfl⟩
    rw [← hL] at HLo
    have HL := Lib.hid hL
    have HW2 := Lib.hid hw2
    clear hL he hw2
    go_enter Tryd.func32, Tryd.ntmps32
    go_upto_region 2 with fail
    (try rw [HW2.out])
    go_cut [61] (fun v wx => v = .bool (!wordB s t k) ∧ RdB s g k bd u B W wx)
    case first =>
      clear c0 c1 f1
      by_cases hLt : L = t
      · have m0 : (L.toList == t.toList) = true := by rw [tl_beq]; exact decide_eq_true hLt
        have HLt : Hid (lowS (s.extract k (e)) = t) := HL.out.symm.trans hLt
        clear hLt
        by_cases hsz : e < s.size
        · have hd3 : decide ((e : Int) < (s.size : Int)) = true := decide_eq_true (by omega)
          have hd4 : decide (e < s.size) = true := decide_eq_true hsz
          obtain ⟨c, hc⟩ : ∃ c : Nat, c = bAt s (e) := ⟨_, rfl⟩
          have hc256 : c < 256 := by rw [hc]; exact bAt_lt _ _
          have HNm := Lib.hid (fun U => nameByte_any c hc256 U)
          unfold BoolP at HNm
          have hbb := bAt_in hsz
          rw [← hc] at hbb
          rw [hbb] at HNm
          have HCb : Hid (bAt s (e) = s[e].toNat) := by rw [Hid, ← hc, hbb]
          clear hc hc256 hbb
          cases hn : isNm s[e].toNat
          · rw [hn] at HNm
            have HV : Hid (wordB s t k = !decide (s[e].toNat = 92)) := by
              rw [Hid, HWd.out]
              rw [HCb.out, hn, HLt.out]
              by_cases q : s[e].toNat = 92 <;> simp [q, hend]
            clear hn
            by_cases h92 : s[e].toNat = 92
            · have m2 : ((s[e].toNat : Int) == 92) = true := beq_iff_eq.2 (by omega)
              have HV2 : Hid (wordB s t k = false) := by rw [Hid, HV.out, decide_eq_true h92]; rfl
              clear h92 HV
              refine wp_region_quiet (C := fun w' => RdB s g k bd u B W w') (by kernel_rfl) (by kernel_rfl) HR1.out ?_
              dsimp only
              repeat
                (first
                  | go_big_quiet_skip
                  | (go_big_quiet_want; go_big_quiet_op; go_big_quiet_on)
                  | (go_big_quiet_want
                     apply Exists.intro
                     refine ⟨fun w' hC => ?_, ?_⟩
                     · have d0 := hC.rd.s_
                       have d1 := hC.rd.at_
                       clear hC
                       go_simp
                       first
                         | done
                         | rfl
                         | exact ⟨rfl, rfl⟩
                     go_big_quiet_on
                     (try simp only [Act.put, List.setIfInBounds_toArray, List.set_cons_zero, List.set_cons_succ]))
                  | (go_big_quiet_want
                     refine ⟨.string L, fun w' hC => ?_, ?_⟩
                     · go_simp
                       exact (HLo.out w').mono (fun _ _ hh => ⟨hh.1, hC.next hh.2⟩)
                     go_big_quiet_on
                     (try simp only [Act.put, List.setIfInBounds_toArray, List.set_cons_zero, List.set_cons_succ]))
                  | (go_big_quiet_want
                     refine ⟨.bool false, fun w' hC => ?_, ?_⟩
                     · go_simp
                       exact (HNm.out w').mono (fun _ _ hh => ⟨hh.1, by rw [← hh.2]; exact hC⟩)
                     go_big_quiet_on
                     (try simp only [Act.put, List.setIfInBounds_toArray, List.set_cons_zero, List.set_cons_succ])))
              refine wpQuiet_nil ?_
              intro w' hC
              go_wp2_with fail
              go_meet
              exact ⟨by rw [HV2.out]; rfl, hC⟩
            · have m2 : ((s[e].toNat : Int) == 92) = false := beq_eq_false_iff_ne.2 (by omega)
              have HV2 : Hid (wordB s t k = true) := by rw [Hid, HV.out, decide_eq_false h92]; rfl
              clear h92 HV
              refine wp_region_quiet (C := fun w' => RdB s g k bd u B W w') (by kernel_rfl) (by kernel_rfl) HR1.out ?_
              dsimp only
              repeat
                (first
                  | go_big_quiet_skip
                  | (go_big_quiet_want; go_big_quiet_op; go_big_quiet_on)
                  | (go_big_quiet_want
                     apply Exists.intro
                     refine ⟨fun w' hC => ?_, ?_⟩
                     · have d0 := hC.rd.s_
                       have d1 := hC.rd.at_
                       clear hC
                       go_simp
                       first
                         | done
                         | rfl
                         | exact ⟨rfl, rfl⟩
                     go_big_quiet_on
                     (try simp only [Act.put, List.setIfInBounds_toArray, List.set_cons_zero, List.set_cons_succ]))
                  | (go_big_quiet_want
                     refine ⟨.string L, fun w' hC => ?_, ?_⟩
                     · go_simp
                       exact (HLo.out w').mono (fun _ _ hh => ⟨hh.1, hC.next hh.2⟩)
                     go_big_quiet_on
                     (try simp only [Act.put, List.setIfInBounds_toArray, List.set_cons_zero, List.set_cons_succ]))
                  | (go_big_quiet_want
                     refine ⟨.bool false, fun w' hC => ?_, ?_⟩
                     · go_simp
                       exact (HNm.out w').mono (fun _ _ hh => ⟨hh.1, by rw [← hh.2]; exact hC⟩)
                     go_big_quiet_on
                     (try simp only [Act.put, List.setIfInBounds_toArray, List.set_cons_zero, List.set_cons_succ])))
              refine wpQuiet_nil ?_
              intro w' hC
              go_wp2_with fail
              go_meet
              exact ⟨by rw [HV2.out]; rfl, hC⟩
          · rw [hn] at HNm
            have HV2 : Hid (wordB s t k = false) := by
              rw [Hid, HWd.out]
              exact decide_eq_false (fun q => by rw [HCb.out, hn] at q; exact Bool.noConfusion q.2.2.1)
            clear hn
            refine wp_region_quiet (C := fun w' => RdB s g k bd u B W w') (by kernel_rfl) (by kernel_rfl) HR1.out ?_
            dsimp only
            repeat
              (first
                | go_big_quiet_skip
                | (go_big_quiet_want; go_big_quiet_op; go_big_quiet_on)
                | (go_big_quiet_want
                   apply Exists.intro
                   refine ⟨fun w' hC => ?_, ?_⟩
                   · have d0 := hC.rd.s_
                     have d1 := hC.rd.at_
                     clear hC
                     go_simp
                     first
                       | done
                       | rfl
                       | exact ⟨rfl, rfl⟩
                   go_big_quiet_on
                   (try simp only [Act.put, List.setIfInBounds_toArray, List.set_cons_zero, List.set_cons_succ]))
                | (go_big_quiet_want
                   refine ⟨.string L, fun w' hC => ?_, ?_⟩
                   · go_simp
                     exact (HLo.out w').mono (fun _ _ hh => ⟨hh.1, hC.next hh.2⟩)
                   go_big_quiet_on
                   (try simp only [Act.put, List.setIfInBounds_toArray, List.set_cons_zero, List.set_cons_succ]))
                | (go_big_quiet_want
                   refine ⟨.bool true, fun w' hC => ?_, ?_⟩
                   · go_simp
                     exact (HNm.out w').mono (fun _ _ hh => ⟨hh.1, by rw [← hh.2]; exact hC⟩)
                   go_big_quiet_on
                   (try simp only [Act.put, List.setIfInBounds_toArray, List.set_cons_zero, List.set_cons_succ])))
            refine wpQuiet_nil ?_
            intro w' hC
            go_wp2_with fail
            go_meet
            exact ⟨by rw [HV2.out]; rfl, hC⟩
        · have hd3 : decide ((e : Int) < (s.size : Int)) = false := decide_eq_false (by omega)
          have hd4 : decide (e < s.size) = false := decide_eq_false hsz
          have HV2 : Hid (wordB s t k = true) := by
            rw [Hid, HWd.out]
            rw [bAt_out (by omega)]
            exact decide_eq_true ⟨hend, HLt.out, by decide, by decide⟩
          refine wp_region_quiet (C := fun w' => RdB s g k bd u B W w') (by kernel_rfl) (by kernel_rfl) HR1.out ?_
          dsimp only
          repeat
            (first
              | go_big_quiet_skip
              | (go_big_quiet_want; go_big_quiet_op; go_big_quiet_on)
              | (go_big_quiet_want
                 apply Exists.intro
                 refine ⟨fun w' hC => ?_, ?_⟩
                 · have d0 := hC.rd.s_
                   have d1 := hC.rd.at_
                   clear hC
                   go_simp
                   first
                     | done
                     | rfl
                     | exact ⟨rfl, rfl⟩
                 go_big_quiet_on
                 (try simp only [Act.put, List.setIfInBounds_toArray, List.set_cons_zero, List.set_cons_succ]))
              | (go_big_quiet_want
                 refine ⟨.string L, fun w' hC => ?_, ?_⟩
                 · go_simp
                   exact (HLo.out w').mono (fun _ _ hh => ⟨hh.1, hC.next hh.2⟩)
                 go_big_quiet_on
                 (try simp only [Act.put, List.setIfInBounds_toArray, List.set_cons_zero, List.set_cons_succ])))
          refine wpQuiet_nil ?_
          intro w' hC
          go_wp2_with fail
          go_meet
          exact ⟨by rw [HV2.out]; rfl, hC⟩
      · have m0 : (L.toList == t.toList) = false := by rw [tl_beq]; exact decide_eq_false hLt
        have HV2 : Hid (wordB s t k = false) := by
          rw [Hid, HWd.out]
          exact decide_eq_false (fun q => hLt (HL.out.trans q.2.1))
        clear hLt
        refine wp_region_quiet (C := fun w' => RdB s g k bd u B W w') (by kernel_rfl) (by kernel_rfl) HR1.out ?_
        dsimp only
        repeat
          (first
            | go_big_quiet_skip
            | (go_big_quiet_want; go_big_quiet_op; go_big_quiet_on)
            | (go_big_quiet_want
               apply Exists.intro
               refine ⟨fun w' hC => ?_, ?_⟩
               · have d0 := hC.rd.s_
                 have d1 := hC.rd.at_
                 clear hC
                 go_simp
                 first
                   | done
                   | rfl
                   | exact ⟨rfl, rfl⟩
               go_big_quiet_on
               (try simp only [Act.put, List.setIfInBounds_toArray, List.set_cons_zero, List.set_cons_succ]))
            | (go_big_quiet_want
               refine ⟨.string L, fun w' hC => ?_, ?_⟩
               · go_simp
                 exact (HLo.out w').mono (fun _ _ hh => ⟨hh.1, hC.next hh.2⟩)
               go_big_quiet_on
               (try simp only [Act.put, List.setIfInBounds_toArray, List.set_cons_zero, List.set_cons_succ])))
        refine wpQuiet_nil ?_
        intro w' hC
        go_wp2_with fail
        go_meet
        exact ⟨by rw [HV2.out]; rfl, hC⟩
    case rest =>
      obtain ⟨rfl, hr⟩ := hcut
      have HR2 := Lib.hid hr
      obtain ⟨c0', c1'⟩ := hr.rd
      have f1' := hr.fz 1
      clear hr c0 c1 f1
      obtain ⟨b, hb⟩ : ∃ b, b = wordB s t k := ⟨_, rfl⟩
      rw [← hb]
      have HB := Lib.hid hb
      clear hb
      cases b
      · go_wp2_with fail
        go_ret
        exact ⟨ret_b HB.out.symm, by rw [← HB.out, if_neg (by simp)]; exact HR2.out⟩
      · go_wp2_with fail
        go_ret
        exact ⟨ret_b HB.out.symm, by rw [← HB.out, if_pos rfl]; exact HR2.out.setI _ _ (by have := HEe.out; omega)⟩
  · have hd : decide ((s.size : Int) < (k : Int) + (t.size : Int)) = true := decide_eq_true (by omega)
    have HV : Hid (wordB s t k = false) := decide_eq_false (fun q => hend q.1)
    go_enter Tryd.func32, Tryd.ntmps32
    go_wp2_with fail
    go_quiet (fail)
    go_wp2_with fail
    go_ret
    exact ⟨ret_b HV.out, by rw [HV.out, if_neg (by simp)]; exact HR.out.drew _⟩
end Go.Proofs.YtkdfdfhejibopaaDoor
