/- FnSpecificWhole: texts joined (joinf.py) -/
import Derived.Test.YtnibpdmbccfgoaaGreatDoorJ6
import Derived.Test.YtnibpdmbccfgoaaGreatDoorT616
namespace Go.Proofs.YtnibpdmbccfgoaaGreatDoor
open Go.RowKit
set_option linter.unusedVariables false

set_option maxRecDepth 100000 in
set_option maxHeartbeats 1000000 in
theorem zzLow_any (s : ByteArray) (w : World) (hs : s.size ≤ 2147483647) :
    Calls Tryz.prog 57 #[.string s] w fun e w' => e = .returned (.string (lowS s)) ∧ Below w.heap.size w w' := by
  have hconv := fun w => run_bytes_of_string (P := Tryz.prog) w 9 70 5 s Tryz.underlying9 Tryz.underlying70 Tryz.underlying5
  go_enter Tryz.func57, Tryz.ntmps57
  go_wp2
  go_loopw [10] (fun i wr => ∃ k : Nat, k ≤ s.size ∧ i = .int .i64 k ∧ MixAt s w.heap.size k wr ∧ w.heap.size < wr.heap.size ∧ Below w.heap.size w wr) (fun i _ => s.size - (intOf i).toNat)
  case atStart => exact ⟨0, Nat.zero_le _, rfl, mixAt_new s w _, by simp, ((Below.refl _ _).alloc (Nat.le_refl _) _).drew⟩
  case round =>
    obtain ⟨k, hk, rfl, hmix, hsz, hb⟩ := hrel
    by_cases hlt : k < s.size
    · have hc : wr.cell? ⟨w.heap.size, k, none⟩ = some (.int .u8 ((mixB s k k).toNat : Int)) := hmix.1 k hlt
      have hf : wr.frozen? ⟨w.heap.size, k, none⟩ = false := hmix.2 k hlt
      go_wp2
      all_goals go_roundw
      case rel =>
        refine ⟨k + 1, by omega, by go_num, ?_, by simpa using hsz, hb.setCell (Nat.le_refl _) _⟩
        have h := mixAt_put hmix hlt (by rw [Lib.isUpperB_int]; simp; omega)
        rw [show ((mixB s k k).toNat : Int) + 32 = ((mixB s k k).toNat : Int) + 97 - 65 by omega] at h
        exact h
      case measure => simp [intOf]; omega
      all_goals first
        | (refine ⟨k + 1, by omega, by go_num, mixAt_skip hmix (by rw [Lib.isUpperB_int]; simp; omega), hsz, hb⟩)
        | (simp [intOf]; omega)
    · have hback := mixAt_back hmix (by omega) (grownCap w s.size 0 5) Tryz.underlying70 Tryz.underlying5 Tryz.underlying9
      go_wp2
      go_ret
      exact ⟨rfl, hb⟩

end Go.Proofs.YtnibpdmbccfgoaaGreatDoor

namespace Go.Proofs.YtnibpdmbccfgoaaGreatDoor
open Go.RowKit
set_option linter.unusedVariables false

set_option maxRecDepth 100000 in
set_option maxHeartbeats 8000000 in
theorem psLang (s : ByteArray) (g k k1 : Nat) (D P : Value) (B : Nat) (W w : World) (hs : s.size ≤ 100000) (hlt : k < s.size) (h58 : bAt s k = 58) (hlt1 : k + 1 < s.size) (hn58 : bAt s (k + 1) ≠ 58) (hid : IdYes s (k + 1) ⟨#[108, 97, 110, 103]⟩ k1) (hk1 : k1 < s.size) (h40 : bAt s k1 = 40) (hsk1 : Sk s (k1 + 1) (k1 + 1)) (O : ByteArray) (k2 : Nat) (hid2 : IdYes s (k1 + 1) O k2) (hk2 : k2 < s.size) (hsk2 : Sk s k2 k2) (h41 : bAt s k2 = 41) (h : PrX s g k D P B W w) :
    Calls Tryz.prog 44 #[.pointer (some ⟨g, 0, none⟩)] w (PsY (0, 1, 0) s (k2 + 1) g D P B W) := by
  have HR := Lib.hid h
  have c0 := h.c0
  have c1 := h.c1
  have f1 := h.fz 1
  clear h
  have HId : Hid (∀ U, PrX s g (k + 1) D P B W U → Calls Tryz.prog 50 #[.pointer (some ⟨g, 0, none⟩)] U (NmY s ⟨#[108, 97, 110, 103]⟩ k1 g D P B W)) := fun U hU => pIdent_to s g (k + 1) _ k1 D P B W U hs (by omega) hid hU
  have HLw : Hid (∀ U, Calls Tryz.prog 51 #[.string ⟨#[108, 97, 110, 103]⟩] U fun e w' => e = .returned (.string ⟨#[108, 97, 110, 103]⟩) ∧ Below U.heap.size U w') := fun U => toLower_any ⟨#[108, 97, 110, 103]⟩ U (by decide)
  rw [bAt_in hlt] at h58
  obtain ⟨m, hm⟩ : ∃ m, m = k + 1 := ⟨_, rfl⟩
  rw [← hm] at hn58 hlt1
  rw [bAt_in hlt1] at hn58
  have m0 : ((s[k].toNat : Int) != 58) = false := by simp; omega
  have m1 : ((s[m].toNat : Int) == 58) = false := beq_eq_false_iff_ne.2 (by omega)
  have HS : Hid (∀ U x, x = ((m : Nat) : Int) → PrX s g k D P B W U → PrX s g m D P B W (U.setCell ⟨g, 1, none⟩ (.int .i64 x))) := fun U x hx h => h.setI _ _ hx
  have HM := Lib.hid hm
  have HId2 : Hid (∀ U, PrX s g (k1 + 1) D P B W U → Calls Tryz.prog 50 #[.pointer (some ⟨g, 0, none⟩)] U (NmY s O k2 g D P B W)) := fun U hU => pIdent_to s g (k1 + 1) O k2 D P B W U hs (by omega) hid2 hU
  have hO : O.size ≤ 2147483647 := by have := id_size hid2; omega
  have HLo : Hid (∀ U, Calls Tryz.prog 57 #[.string O] U fun e w' => e = .returned (.string (lowS O)) ∧ Below U.heap.size U w') := fun U => zzLow_any O U hO
  have HSk2 := Lib.hid hsk2
  have HCl : Hid (∀ U, PrX s g k2 D P B W U → Calls Tryz.prog 56 #[.pointer (some ⟨g, 0, none⟩)] U (SkY true s (k2 + 1) g D P B W)) := fun U hU => pClose_to s g k2 k2 D P B W U hs (by omega) hk2 h41 hsk2 hU
  have hl12 : k1 + 1 < s.size := by have := hid2; obtain ⟨n, acc, hy, hb, _⟩ := this; have := hb.1; omega
  clear hid hn58 h58 hm hid2 hsk2 h41
  go_enter Tryz.func44, Tryz.ntmps44
  go_wp2_with fail
  go_quiet (fail)
  go_wp2_with fail
  go_quiet (fail)
  go_upto_block 2 with fail
  refine wp_gen (R := fun U => PrX s g m D P B W U) (HS.out _ _ (by have := HM.out; omega) (by repeat (first | exact HR.out | refine PrX.drew ?_ _))) ?_
  intro U hU
  have HU := Lib.hid hU
  clear c0 c1 f1 m0 HS
  have c0 := hU.c0
  have c1 := hU.c1
  have f1 := hU.fz 1
  clear hU
  go_wp2_with fail
  go_quiet (fail)
  go_wp2_with fail
  go_quiet (fail)
  go_wp2_with fail
  refine (HId.out _ (by rw [← HM.out]; repeat (first | exact HU.out | refine PrX.drew ?_ _))).mono ?_
  rintro e1 w1 ⟨rfl, hr1⟩
  have HR1 := Lib.hid hr1
  clear hr1 c0 c1 f1 m1
  go_wp2_with fail
  refine (HLw.out _).mono ?_
  rintro e2 w2 ⟨rfl, hb2⟩
  have HR2 := Lib.hid (HR1.out.next hb2)
  clear hb2 HLw HId
  have HOp : Hid (∀ U, PrX s g k1 D P B W U → Calls Tryz.prog 54 #[.pointer (some ⟨g, 0, none⟩)] U (SkY true s (k1 + 1) g D P B W)) := fun U hU => pOpen_to s g k1 (k1 + 1) D P B W U hs hk1 h40 hsk1 hU
  clear h40 hsk1
  go_wp2_with fail
  refine (HOp.out _ HR2.out).mono ?_
  rintro e3 w3 ⟨rfl, hr3⟩
  have HR3 := Lib.hid hr3
  have c0 := hr3.c0
  have c1 := hr3.c1
  clear hr3 HOp
  obtain ⟨j, hj⟩ : ∃ j, j = k1 + 1 := ⟨_, rfl⟩
  rw [← hj] at HId2 HR3 c1 hl12
  have q0 : ((j : Int) == (s.size : Int)) = false := beq_eq_false_iff_ne.2 (by omega)
  clear hj
  go_wp2_with fail
  go_quiet (fail)
  go_wp2_with fail
  refine (HId2.out _ (by repeat (first | exact HR3.out | refine PrX.drew ?_ _))).mono ?_
  rintro e4 w4 ⟨rfl, hr4⟩
  have HR4 := Lib.hid hr4
  clear hr4 c0 c1 HId2
  go_wp2_with fail
  refine (HLo.out _).mono ?_
  rintro e5 w5 ⟨rfl, hb5⟩
  have HR5 := Lib.hid (HR4.out.next hb5)
  clear hb5
  go_wp2_with fail
  refine (pSkip_to s g k2 k2 D P B W _ hs (by omega) HSk2.out HR5.out).mono ?_
  rintro e6 w6 ⟨rfl, hr6⟩
  have HR6 := Lib.hid hr6
  have c0 := hr6.c0
  have c1 := hr6.c1
  clear hr6
  go_wp2_with fail
  go_quiet (fail)
  go_wp2_with fail
  refine (HCl.out _ (by repeat (first | exact HR6.out | refine PrX.drew ?_ _))).mono ?_
  rintro e7 w7 ⟨rfl, hr7⟩
  have HR7 := Lib.hid hr7
  clear hr7 c0 c1
  go_wp2_with fail
  go_ret3
  exact ⟨_, rfl, HR7.out, dispLan _ _ _ _ (Nat.le_refl _)⟩
set_option maxRecDepth 100000 in
set_option maxHeartbeats 8000000 in
theorem psCon (s : ByteArray) (g k k1 : Nat) (D P : Value) (B : Nat) (W w : World) (hs : s.size ≤ 100000) (hlt : k < s.size) (h58 : bAt s k = 58) (hlt1 : k + 1 < s.size) (hn58 : bAt s (k + 1) ≠ 58) (hid : IdYes s (k + 1) ⟨#[99, 111, 110, 116, 97, 105, 110, 115]⟩ k1) (hk1 : k1 < s.size) (h40 : bAt s k1 = 40) (hsk1 : Sk s (k1 + 1) (k1 + 1)) (e0 : Nat) (h34 : bAt s (k1 + 1) = 34) (hq : QtR s e0 (k1 + 1 + 1)) (hsk2 : Sk s (e0 + 1) (e0 + 1)) (hk2 : e0 + 1 < s.size) (h41 : bAt s (e0 + 1) = 41) (h : PrX s g k D P B W w) :
    Calls Tryz.prog 44 #[.pointer (some ⟨g, 0, none⟩)] w (PsY (0, 1, 0) s (e0 + 1 + 1) g D P B W) := by
  have HR := Lib.hid h
  have c0 := h.c0
  have c1 := h.c1
  have f1 := h.fz 1
  clear h
  have HId : Hid (∀ U, PrX s g (k + 1) D P B W U → Calls Tryz.prog 50 #[.pointer (some ⟨g, 0, none⟩)] U (NmY s ⟨#[99, 111, 110, 116, 97, 105, 110, 115]⟩ k1 g D P B W)) := fun U hU => pIdent_to s g (k + 1) _ k1 D P B W U hs (by omega) hid hU
  have HLw : Hid (∀ U, Calls Tryz.prog 51 #[.string ⟨#[99, 111, 110, 116, 97, 105, 110, 115]⟩] U fun e w' => e = .returned (.string ⟨#[99, 111, 110, 116, 97, 105, 110, 115]⟩) ∧ Below U.heap.size U w') := fun U => toLower_any ⟨#[99, 111, 110, 116, 97, 105, 110, 115]⟩ U (by decide)
  rw [bAt_in hlt] at h58
  obtain ⟨m, hm⟩ : ∃ m, m = k + 1 := ⟨_, rfl⟩
  rw [← hm] at hn58 hlt1
  rw [bAt_in hlt1] at hn58
  have m0 : ((s[k].toNat : Int) != 58) = false := by simp; omega
  have m1 : ((s[m].toNat : Int) == 58) = false := beq_eq_false_iff_ne.2 (by omega)
  have HS : Hid (∀ U x, x = ((m : Nat) : Int) → PrX s g k D P B W U → PrX s g m D P B W (U.setCell ⟨g, 1, none⟩ (.int .i64 x))) := fun U x hx h => h.setI _ _ hx
  have HM := Lib.hid hm
  have hl12 : k1 + 1 < s.size := by have := hq.lt; omega
  have HSt : Hid (∀ U, PrX s g (k1 + 1) D P B W U → Calls Tryz.prog 53 #[.pointer (some ⟨g, 0, none⟩)] U (StrP2 s e0 g D P B W)) := fun U hU => pStrAt_any s g (k1 + 1) e0 D P B W U hs h34 hq hU
  have HLo : Hid (∀ O U, O.size ≤ 2147483647 → Calls Tryz.prog 57 #[.string O] U fun e w' => e = .returned (.string (lowS O)) ∧ Below U.heap.size U w') := fun O U hO => zzLow_any O U hO
  have HSk2 := Lib.hid hsk2
  have HCl : Hid (∀ U, PrX s g (e0 + 1) D P B W U → Calls Tryz.prog 56 #[.pointer (some ⟨g, 0, none⟩)] U (SkY true s (e0 + 1 + 1) g D P B W)) := fun U hU => pClose_to s g (e0 + 1) (e0 + 1) D P B W U hs (by omega) hk2 h41 hsk2 hU
  have H34 := Lib.hid h34
  clear hid hn58 h58 hm hsk2 h41 h34 hq
  go_enter Tryz.func44, Tryz.ntmps44
  go_wp2_with fail
  go_quiet (fail)
  go_wp2_with fail
  go_quiet (fail)
  go_upto_block 2 with fail
  refine wp_gen (R := fun U => PrX s g m D P B W U) (HS.out _ _ (by have := HM.out; omega) (by repeat (first | exact HR.out | refine PrX.drew ?_ _))) ?_
  intro U hU
  have HU := Lib.hid hU
  clear c0 c1 f1 m0 HS
  have c0 := hU.c0
  have c1 := hU.c1
  have f1 := hU.fz 1
  clear hU
  go_wp2_with fail
  go_quiet (fail)
  go_wp2_with fail
  go_quiet (fail)
  go_wp2_with fail
  refine (HId.out _ (by rw [← HM.out]; repeat (first | exact HU.out | refine PrX.drew ?_ _))).mono ?_
  rintro e1 w1 ⟨rfl, hr1⟩
  have HR1 := Lib.hid hr1
  clear hr1 c0 c1 f1 m1
  go_wp2_with fail
  refine (HLw.out _).mono ?_
  rintro e2 w2 ⟨rfl, hb2⟩
  have HR2 := Lib.hid (HR1.out.next hb2)
  clear hb2 HLw HId
  have HOp : Hid (∀ U, PrX s g k1 D P B W U → Calls Tryz.prog 54 #[.pointer (some ⟨g, 0, none⟩)] U (SkY true s (k1 + 1) g D P B W)) := fun U hU => pOpen_to s g k1 (k1 + 1) D P B W U hs hk1 h40 hsk1 hU
  clear h40 hsk1
  go_wp2_with fail
  refine (HOp.out _ HR2.out).mono ?_
  rintro e3 w3 ⟨rfl, hr3⟩
  have HR3 := Lib.hid hr3
  have c0 := hr3.c0
  have c1 := hr3.c1
  clear hr3 HOp
  obtain ⟨j, hj⟩ : ∃ j, j = k1 + 1 := ⟨_, rfl⟩
  have h34 := H34.out
  rw [← hj] at HSt HR3 c1 hl12 h34
  rw [bAt_in hl12] at h34
  have q0 : ((j : Int) == (s.size : Int)) = false := beq_eq_false_iff_ne.2 (by omega)
  have q1 : ((s[j].toNat : Int) == 39) = false := beq_eq_false_iff_ne.2 (by omega)
  have q2 : ((s[j].toNat : Int) == 34) = true := beq_iff_eq.2 (by omega)
  clear hj h34 H34
  go_wp2_with fail
  go_quiet (fail)
  go_wp2_with fail
  go_quiet (fail)
  go_wp2_with fail
  refine (HSt.out _ (by repeat (first | exact HR3.out | refine PrX.drew ?_ _))).mono ?_
  rintro e4 w4 ⟨O, rfl, hOs, hr4⟩
  have HR4 := Lib.hid hr4
  clear hr4 c0 c1 HSt q0 q1 q2
  go_wp2_with fail
  refine (HLo.out O _ (by omega)).mono ?_
  rintro e5 w5 ⟨rfl, hb5⟩
  have HR5 := Lib.hid (HR4.out.next hb5)
  clear hb5
  obtain ⟨t, ht⟩ : ∃ t, t = e0 + 1 := ⟨_, rfl⟩
  rw [← ht] at HSk2 HCl HR5 hk2
  have HT := Lib.hid ht
  clear ht
  go_wp2_with fail
  refine (pSkip_to s g t t D P B W _ hs (by omega) HSk2.out HR5.out).mono ?_
  rintro e6 w6 ⟨rfl, hr6⟩
  have HR6 := Lib.hid hr6
  have c0 := hr6.c0
  have c1 := hr6.c1
  clear hr6
  go_wp2_with fail
  go_quiet (fail)
  go_wp2_with fail
  refine (HCl.out _ (by repeat (first | exact HR6.out | refine PrX.drew ?_ _))).mono ?_
  rintro e7 w7 ⟨rfl, hr7⟩
  have HR7 := Lib.hid hr7
  clear hr7 c0 c1
  go_wp2_with fail
  go_ret3
  exact ⟨_, rfl, by have := HR7.out; rw [HT.out] at this; exact this, dispCon _ false _ _ _ (Nat.le_refl _)⟩
set_option maxRecDepth 100000 in
set_option maxHeartbeats 8000000 in
theorem psConOwn (s : ByteArray) (g k k1 : Nat) (D P : Value) (B : Nat) (W w : World) (hs : s.size ≤ 100000) (hlt : k < s.size) (h58 : bAt s k = 58) (hlt1 : k + 1 < s.size) (hn58 : bAt s (k + 1) ≠ 58) (hid : IdYes s (k + 1) ⟨#[99, 111, 110, 116, 97, 105, 110, 115, 79, 119, 110]⟩ k1) (hk1 : k1 < s.size) (h40 : bAt s k1 = 40) (hsk1 : Sk s (k1 + 1) (k1 + 1)) (e0 : Nat) (h34 : bAt s (k1 + 1) = 34) (hq : QtR s e0 (k1 + 1 + 1)) (hsk2 : Sk s (e0 + 1) (e0 + 1)) (hk2 : e0 + 1 < s.size) (h41 : bAt s (e0 + 1) = 41) (h : PrX s g k D P B W w) :
    Calls Tryz.prog 44 #[.pointer (some ⟨g, 0, none⟩)] w (PsY (0, 1, 0) s (e0 + 1 + 1) g D P B W) := by
  have HR := Lib.hid h
  have c0 := h.c0
  have c1 := h.c1
  have f1 := h.fz 1
  clear h
  have HId : Hid (∀ U, PrX s g (k + 1) D P B W U → Calls Tryz.prog 50 #[.pointer (some ⟨g, 0, none⟩)] U (NmY s ⟨#[99, 111, 110, 116, 97, 105, 110, 115, 79, 119, 110]⟩ k1 g D P B W)) := fun U hU => pIdent_to s g (k + 1) _ k1 D P B W U hs (by omega) hid hU
  have HLw : Hid (∀ U, Calls Tryz.prog 51 #[.string ⟨#[99, 111, 110, 116, 97, 105, 110, 115, 79, 119, 110]⟩] U fun e w' => e = .returned (.string ⟨#[99, 111, 110, 116, 97, 105, 110, 115, 111, 119, 110]⟩) ∧ Below U.heap.size U w') := fun U => toLower_any ⟨#[99, 111, 110, 116, 97, 105, 110, 115, 79, 119, 110]⟩ U (by decide)
  rw [bAt_in hlt] at h58
  obtain ⟨m, hm⟩ : ∃ m, m = k + 1 := ⟨_, rfl⟩
  rw [← hm] at hn58 hlt1
  rw [bAt_in hlt1] at hn58
  have m0 : ((s[k].toNat : Int) != 58) = false := by simp; omega
  have m1 : ((s[m].toNat : Int) == 58) = false := beq_eq_false_iff_ne.2 (by omega)
  have HS : Hid (∀ U x, x = ((m : Nat) : Int) → PrX s g k D P B W U → PrX s g m D P B W (U.setCell ⟨g, 1, none⟩ (.int .i64 x))) := fun U x hx h => h.setI _ _ hx
  have HM := Lib.hid hm
  have hl12 : k1 + 1 < s.size := by have := hq.lt; omega
  have HSt : Hid (∀ U, PrX s g (k1 + 1) D P B W U → Calls Tryz.prog 53 #[.pointer (some ⟨g, 0, none⟩)] U (StrP2 s e0 g D P B W)) := fun U hU => pStrAt_any s g (k1 + 1) e0 D P B W U hs h34 hq hU
  have HLo : Hid (∀ O U, O.size ≤ 2147483647 → Calls Tryz.prog 57 #[.string O] U fun e w' => e = .returned (.string (lowS O)) ∧ Below U.heap.size U w') := fun O U hO => zzLow_any O U hO
  have HSk2 := Lib.hid hsk2
  have HCl : Hid (∀ U, PrX s g (e0 + 1) D P B W U → Calls Tryz.prog 56 #[.pointer (some ⟨g, 0, none⟩)] U (SkY true s (e0 + 1 + 1) g D P B W)) := fun U hU => pClose_to s g (e0 + 1) (e0 + 1) D P B W U hs (by omega) hk2 h41 hsk2 hU
  have H34 := Lib.hid h34
  clear hid hn58 h58 hm hsk2 h41 h34 hq
  go_enter Tryz.func44, Tryz.ntmps44
  go_wp2_with fail
  go_quiet (fail)
  go_wp2_with fail
  go_quiet (fail)
  go_upto_block 2 with fail
  refine wp_gen (R := fun U => PrX s g m D P B W U) (HS.out _ _ (by have := HM.out; omega) (by repeat (first | exact HR.out | refine PrX.drew ?_ _))) ?_
  intro U hU
  have HU := Lib.hid hU
  clear c0 c1 f1 m0 HS
  have c0 := hU.c0
  have c1 := hU.c1
  have f1 := hU.fz 1
  clear hU
  go_wp2_with fail
  go_quiet (fail)
  go_wp2_with fail
  go_quiet (fail)
  go_wp2_with fail
  refine (HId.out _ (by rw [← HM.out]; repeat (first | exact HU.out | refine PrX.drew ?_ _))).mono ?_
  rintro e1 w1 ⟨rfl, hr1⟩
  have HR1 := Lib.hid hr1
  clear hr1 c0 c1 f1 m1
  go_wp2_with fail
  refine (HLw.out _).mono ?_
  rintro e2 w2 ⟨rfl, hb2⟩
  have HR2 := Lib.hid (HR1.out.next hb2)
  clear hb2 HLw HId
  have HOp : Hid (∀ U, PrX s g k1 D P B W U → Calls Tryz.prog 54 #[.pointer (some ⟨g, 0, none⟩)] U (SkY true s (k1 + 1) g D P B W)) := fun U hU => pOpen_to s g k1 (k1 + 1) D P B W U hs hk1 h40 hsk1 hU
  clear h40 hsk1
  go_wp2_with fail
  refine (HOp.out _ HR2.out).mono ?_
  rintro e3 w3 ⟨rfl, hr3⟩
  have HR3 := Lib.hid hr3
  have c0 := hr3.c0
  have c1 := hr3.c1
  clear hr3 HOp
  obtain ⟨j, hj⟩ : ∃ j, j = k1 + 1 := ⟨_, rfl⟩
  have h34 := H34.out
  rw [← hj] at HSt HR3 c1 hl12 h34
  rw [bAt_in hl12] at h34
  have q0 : ((j : Int) == (s.size : Int)) = false := beq_eq_false_iff_ne.2 (by omega)
  have q1 : ((s[j].toNat : Int) == 39) = false := beq_eq_false_iff_ne.2 (by omega)
  have q2 : ((s[j].toNat : Int) == 34) = true := beq_iff_eq.2 (by omega)
  clear hj h34 H34
  go_wp2_with fail
  go_quiet (fail)
  go_wp2_with fail
  go_quiet (fail)
  go_wp2_with fail
  refine (HSt.out _ (by repeat (first | exact HR3.out | refine PrX.drew ?_ _))).mono ?_
  rintro e4 w4 ⟨O, rfl, hOs, hr4⟩
  have HR4 := Lib.hid hr4
  clear hr4 c0 c1 HSt q0 q1 q2
  go_wp2_with fail
  refine (HLo.out O _ (by omega)).mono ?_
  rintro e5 w5 ⟨rfl, hb5⟩
  have HR5 := Lib.hid (HR4.out.next hb5)
  clear hb5
  obtain ⟨t, ht⟩ : ∃ t, t = e0 + 1 := ⟨_, rfl⟩
  rw [← ht] at HSk2 HCl HR5 hk2
  have HT := Lib.hid ht
  clear ht
  go_wp2_with fail
  refine (pSkip_to s g t t D P B W _ hs (by omega) HSk2.out HR5.out).mono ?_
  rintro e6 w6 ⟨rfl, hr6⟩
  have HR6 := Lib.hid hr6
  have c0 := hr6.c0
  have c1 := hr6.c1
  clear hr6
  go_wp2_with fail
  go_quiet (fail)
  go_wp2_with fail
  refine (HCl.out _ (by repeat (first | exact HR6.out | refine PrX.drew ?_ _))).mono ?_
  rintro e7 w7 ⟨rfl, hr7⟩
  have HR7 := Lib.hid hr7
  clear hr7 c0 c1
  go_wp2_with fail
  go_ret3
  exact ⟨_, rfl, by have := HR7.out; rw [HT.out] at this; exact this, dispCon _ true _ _ _ (Nat.le_refl _)⟩
end Go.Proofs.YtnibpdmbccfgoaaGreatDoor
