/- parsePseudoclassSelector: nth. -/
import Derived.Test.YtnibpdmbccfgoaaGreatDoorT616
import Derived.Test.YtnibpdmbccfgoaaGreatDoorT614
namespace Go.Proofs.YtnibpdmbccfgoaaGreatDoor
open Go.RowKit
set_option linter.unusedVariables false

set_option maxRecDepth 100000 in
set_option maxHeartbeats 8000000 in
theorem psNth0 (s : ByteArray) (g k k1 : Nat) (D P : Value) (B : Nat) (W w : World) (hs : s.size ≤ 100000) (hlt : k < s.size) (h58 : bAt s k = 58) (hlt1 : k + 1 < s.size) (hn58 : bAt s (k + 1) ≠ 58) (hid : IdYes s (k + 1) ⟨#[110, 116, 104, 45, 99, 104, 105, 108, 100]⟩ k1) (hk1 : k1 < s.size) (h40 : bAt s k1 = 40) (hsk1 : Sk s (k1 + 1) (k1 + 1)) (p e0 : Nat) (hl12 : k1 + 1 < s.size) (hsg : (bAt s (k1 + 1) = 45 ∧ p = k1 + 1 + 1) ∨ (bAt s (k1 + 1) ≠ 45 ∧ p = k1 + 1)) (hnt : NthTo s p e0) (hk2 : e0 < s.size) (hsk2 : Sk s e0 e0) (h41 : bAt s e0 = 41) (h : PrX s g k D P B W w) :
    Calls Tryz.prog 44 #[.pointer (some ⟨g, 0, none⟩)] w (PsY (0, 1, 0) s (e0 + 1) g D P B W) := by
  have HR := Lib.hid h
  have c0 := h.c0
  have c1 := h.c1
  have f1 := h.fz 1
  clear h
  have HId : Hid (∀ U, PrX s g (k + 1) D P B W U → Calls Tryz.prog 50 #[.pointer (some ⟨g, 0, none⟩)] U (NmY s ⟨#[110, 116, 104, 45, 99, 104, 105, 108, 100]⟩ k1 g D P B W)) := fun U hU => pIdent_to s g (k + 1) _ k1 D P B W U hs (by omega) hid hU
  have HLw : Hid (∀ U, Calls Tryz.prog 51 #[.string ⟨#[110, 116, 104, 45, 99, 104, 105, 108, 100]⟩] U fun e w' => e = .returned (.string ⟨#[110, 116, 104, 45, 99, 104, 105, 108, 100]⟩) ∧ Below U.heap.size U w') := fun U => toLower_any ⟨#[110, 116, 104, 45, 99, 104, 105, 108, 100]⟩ U (by decide)
  rw [bAt_in hlt] at h58
  obtain ⟨m, hm⟩ : ∃ m, m = k + 1 := ⟨_, rfl⟩
  rw [← hm] at hn58 hlt1
  rw [bAt_in hlt1] at hn58
  have m0 : ((s[k].toNat : Int) != 58) = false := by simp; omega
  have m1 : ((s[m].toNat : Int) == 58) = false := beq_eq_false_iff_ne.2 (by omega)
  have HS : Hid (∀ U x, x = ((m : Nat) : Int) → PrX s g k D P B W U → PrX s g m D P B W (U.setCell ⟨g, 1, none⟩ (.int .i64 x))) := fun U x hx h => h.setI _ _ hx
  have HM := Lib.hid hm
  have HNt : Hid (∀ U, PrX s g (k1 + 1) D P B W U → Calls Tryz.prog 58 #[.pointer (some ⟨g, 0, none⟩)] U (NthY s g D P B W e0)) := fun U hU => pNth_to s (k1 + 1) p g e0 D P B W U hs hl12 hsg hnt hU
  have HCl : Hid (∀ U, PrX s g e0 D P B W U → Calls Tryz.prog 56 #[.pointer (some ⟨g, 0, none⟩)] U (SkY true s (e0 + 1) g D P B W)) := fun U hU => pClose_to s g e0 e0 D P B W U hs (by omega) hk2 h41 hsk2 hU
  clear hid hn58 h58 hm hsk2 h41 hsg hnt
  go_enter Tryz.func44, Tryz.ntmps44
  go_wp2_with fail
  go_quiet (fail)
  go_wp2_with fail
  go_quiet (fail)
  go_upto_block 2 with fail
  refine wp_gen (R := fun U => PrX s g m D P B W U) (HS.out _ _ (by have := HM.out; omega) (by repeat (first | exact HR.out | refine PrX.drew ?_ _))) ?_
  intro U hU
  have HU := Lib.hid hU
  clear c0 c1 f1 m0 HS
  have c0 := hU.c0
  have c1 := hU.c1
  have f1 := hU.fz 1
  clear hU
  go_wp2_with fail
  go_quiet (fail)
  go_wp2_with fail
  go_quiet (fail)
  go_wp2_with fail
  refine (HId.out _ (by rw [← HM.out]; repeat (first | exact HU.out | refine PrX.drew ?_ _))).mono ?_
  rintro e1 w1 ⟨rfl, hr1⟩
  have HR1 := Lib.hid hr1
  clear hr1 c0 c1 f1 m1
  go_wp2_with fail
  refine (HLw.out _).mono ?_
  rintro e2 w2 ⟨rfl, hb2⟩
  have HR2 := Lib.hid (HR1.out.next hb2)
  clear hb2 HLw HId
  have HOp : Hid (∀ U, PrX s g k1 D P B W U → Calls Tryz.prog 54 #[.pointer (some ⟨g, 0, none⟩)] U (SkY true s (k1 + 1) g D P B W)) := fun U hU => pOpen_to s g k1 (k1 + 1) D P B W U hs hk1 h40 hsk1 hU
  clear h40 hsk1
  go_wp2_with fail
  refine (HOp.out _ HR2.out).mono ?_
  rintro e3 w3 ⟨rfl, hr3⟩
  have HR3 := Lib.hid hr3
  have c0 := hr3.c0
  have c1 := hr3.c1
  clear hr3 HOp
  clear c0 c1
  go_wp2_with fail
  refine (HNt.out _ HR3.out).mono ?_
  rintro e4 w4 ⟨a, b, rfl, hr4⟩
  have HR4 := Lib.hid hr4
  clear hr4
  go_wp2_with fail
  refine (HCl.out _ HR4.out).mono ?_
  rintro e7 w7 ⟨rfl, hr7⟩
  have HR7 := Lib.hid hr7
  clear hr7
  go_wp2_with fail
  go_ret3
  exact ⟨_, rfl, HR7.out, dispNth a b false false _ _ _ (Nat.le_refl _)⟩
set_option maxRecDepth 100000 in
set_option maxHeartbeats 8000000 in
theorem psNth1 (s : ByteArray) (g k k1 : Nat) (D P : Value) (B : Nat) (W w : World) (hs : s.size ≤ 100000) (hlt : k < s.size) (h58 : bAt s k = 58) (hlt1 : k + 1 < s.size) (hn58 : bAt s (k + 1) ≠ 58) (hid : IdYes s (k + 1) ⟨#[110, 116, 104, 45, 108, 97, 115, 116, 45, 99, 104, 105, 108, 100]⟩ k1) (hk1 : k1 < s.size) (h40 : bAt s k1 = 40) (hsk1 : Sk s (k1 + 1) (k1 + 1)) (p e0 : Nat) (hl12 : k1 + 1 < s.size) (hsg : (bAt s (k1 + 1) = 45 ∧ p = k1 + 1 + 1) ∨ (bAt s (k1 + 1) ≠ 45 ∧ p = k1 + 1)) (hnt : NthTo s p e0) (hk2 : e0 < s.size) (hsk2 : Sk s e0 e0) (h41 : bAt s e0 = 41) (h : PrX s g k D P B W w) :
    Calls Tryz.prog 44 #[.pointer (some ⟨g, 0, none⟩)] w (PsY (0, 1, 0) s (e0 + 1) g D P B W) := by
  have HR := Lib.hid h
  have c0 := h.c0
  have c1 := h.c1
  have f1 := h.fz 1
  clear h
  have HId : Hid (∀ U, PrX s g (k + 1) D P B W U → Calls Tryz.prog 50 #[.pointer (some ⟨g, 0, none⟩)] U (NmY s ⟨#[110, 116, 104, 45, 108, 97, 115, 116, 45, 99, 104, 105, 108, 100]⟩ k1 g D P B W)) := fun U hU => pIdent_to s g (k + 1) _ k1 D P B W U hs (by omega) hid hU
  have HLw : Hid (∀ U, Calls Tryz.prog 51 #[.string ⟨#[110, 116, 104, 45, 108, 97, 115, 116, 45, 99, 104, 105, 108, 100]⟩] U fun e w' => e = .returned (.string ⟨#[110, 116, 104, 45, 108, 97, 115, 116, 45, 99, 104, 105, 108, 100]⟩) ∧ Below U.heap.size U w') := fun U => toLower_any ⟨#[110, 116, 104, 45, 108, 97, 115, 116, 45, 99, 104, 105, 108, 100]⟩ U (by decide)
  rw [bAt_in hlt] at h58
  obtain ⟨m, hm⟩ : ∃ m, m = k + 1 := ⟨_, rfl⟩
  rw [← hm] at hn58 hlt1
  rw [bAt_in hlt1] at hn58
  have m0 : ((s[k].toNat : Int) != 58) = false := by simp; omega
  have m1 : ((s[m].toNat : Int) == 58) = false := beq_eq_false_iff_ne.2 (by omega)
  have HS : Hid (∀ U x, x = ((m : Nat) : Int) → PrX s g k D P B W U → PrX s g m D P B W (U.setCell ⟨g, 1, none⟩ (.int .i64 x))) := fun U x hx h => h.setI _ _ hx
  have HM := Lib.hid hm
  have HNt : Hid (∀ U, PrX s g (k1 + 1) D P B W U → Calls Tryz.prog 58 #[.pointer (some ⟨g, 0, none⟩)] U (NthY s g D P B W e0)) := fun U hU => pNth_to s (k1 + 1) p g e0 D P B W U hs hl12 hsg hnt hU
  have HCl : Hid (∀ U, PrX s g e0 D P B W U → Calls Tryz.prog 56 #[.pointer (some ⟨g, 0, none⟩)] U (SkY true s (e0 + 1) g D P B W)) := fun U hU => pClose_to s g e0 e0 D P B W U hs (by omega) hk2 h41 hsk2 hU
  clear hid hn58 h58 hm hsk2 h41 hsg hnt
  go_enter Tryz.func44, Tryz.ntmps44
  go_wp2_with fail
  go_quiet (fail)
  go_wp2_with fail
  go_quiet (fail)
  go_upto_block 2 with fail
  refine wp_gen (R := fun U => PrX s g m D P B W U) (HS.out _ _ (by have := HM.out; omega) (by repeat (first | exact HR.out | refine PrX.drew ?_ _))) ?_
  intro U hU
  have HU := Lib.hid hU
  clear c0 c1 f1 m0 HS
  have c0 := hU.c0
  have c1 := hU.c1
  have f1 := hU.fz 1
  clear hU
  go_wp2_with fail
  go_quiet (fail)
  go_wp2_with fail
  go_quiet (fail)
  go_wp2_with fail
  refine (HId.out _ (by rw [← HM.out]; repeat (first | exact HU.out | refine PrX.drew ?_ _))).mono ?_
  rintro e1 w1 ⟨rfl, hr1⟩
  have HR1 := Lib.hid hr1
  clear hr1 c0 c1 f1 m1
  go_wp2_with fail
  refine (HLw.out _).mono ?_
  rintro e2 w2 ⟨rfl, hb2⟩
  have HR2 := Lib.hid (HR1.out.next hb2)
  clear hb2 HLw HId
  have HOp : Hid (∀ U, PrX s g k1 D P B W U → Calls Tryz.prog 54 #[.pointer (some ⟨g, 0, none⟩)] U (SkY true s (k1 + 1) g D P B W)) := fun U hU => pOpen_to s g k1 (k1 + 1) D P B W U hs hk1 h40 hsk1 hU
  clear h40 hsk1
  go_wp2_with fail
  refine (HOp.out _ HR2.out).mono ?_
  rintro e3 w3 ⟨rfl, hr3⟩
  have HR3 := Lib.hid hr3
  have c0 := hr3.c0
  have c1 := hr3.c1
  clear hr3 HOp
  clear c0 c1
  go_wp2_with fail
  refine (HNt.out _ HR3.out).mono ?_
  rintro e4 w4 ⟨a, b, rfl, hr4⟩
  have HR4 := Lib.hid hr4
  clear hr4
  go_wp2_with fail
  refine (HCl.out _ HR4.out).mono ?_
  rintro e7 w7 ⟨rfl, hr7⟩
  have HR7 := Lib.hid hr7
  clear hr7
  go_wp2_with fail
  go_ret3
  exact ⟨_, rfl, HR7.out, dispNth a b true false _ _ _ (Nat.le_refl _)⟩
set_option maxRecDepth 100000 in
set_option maxHeartbeats 8000000 in
theorem psNth2 (s : ByteArray) (g k k1 : Nat) (D P : Value) (B : Nat) (W w : World) (hs : s.size ≤ 100000) (hlt : k < s.size) (h58 : bAt s k = 58) (hlt1 : k + 1 < s.size) (hn58 : bAt s (k + 1) ≠ 58) (hid : IdYes s (k + 1) ⟨#[110, 116, 104, 45, 111, 102, 45, 116, 121, 112, 101]⟩ k1) (hk1 : k1 < s.size) (h40 : bAt s k1 = 40) (hsk1 : Sk s (k1 + 1) (k1 + 1)) (p e0 : Nat) (hl12 : k1 + 1 < s.size) (hsg : (bAt s (k1 + 1) = 45 ∧ p = k1 + 1 + 1) ∨ (bAt s (k1 + 1) ≠ 45 ∧ p = k1 + 1)) (hnt : NthTo s p e0) (hk2 : e0 < s.size) (hsk2 : Sk s e0 e0) (h41 : bAt s e0 = 41) (h : PrX s g k D P B W w) :
    Calls Tryz.prog 44 #[.pointer (some ⟨g, 0, none⟩)] w (PsY (0, 1, 0) s (e0 + 1) g D P B W) := by
  have HR := Lib.hid h
  have c0 := h.c0
  have c1 := h.c1
  have f1 := h.fz 1
  clear h
  have HId : Hid (∀ U, PrX s g (k + 1) D P B W U → Calls Tryz.prog 50 #[.pointer (some ⟨g, 0, none⟩)] U (NmY s ⟨#[110, 116, 104, 45, 111, 102, 45, 116, 121, 112, 101]⟩ k1 g D P B W)) := fun U hU => pIdent_to s g (k + 1) _ k1 D P B W U hs (by omega) hid hU
  have HLw : Hid (∀ U, Calls Tryz.prog 51 #[.string ⟨#[110, 116, 104, 45, 111, 102, 45, 116, 121, 112, 101]⟩] U fun e w' => e = .returned (.string ⟨#[110, 116, 104, 45, 111, 102, 45, 116, 121, 112, 101]⟩) ∧ Below U.heap.size U w') := fun U => toLower_any ⟨#[110, 116, 104, 45, 111, 102, 45, 116, 121, 112, 101]⟩ U (by decide)
  rw [bAt_in hlt] at h58
  obtain ⟨m, hm⟩ : ∃ m, m = k + 1 := ⟨_, rfl⟩
  rw [← hm] at hn58 hlt1
  rw [bAt_in hlt1] at hn58
  have m0 : ((s[k].toNat : Int) != 58) = false := by simp; omega
  have m1 : ((s[m].toNat : Int) == 58) = false := beq_eq_false_iff_ne.2 (by omega)
  have HS : Hid (∀ U x, x = ((m : Nat) : Int) → PrX s g k D P B W U → PrX s g m D P B W (U.setCell ⟨g, 1, none⟩ (.int .i64 x))) := fun U x hx h => h.setI _ _ hx
  have HM := Lib.hid hm
  have HNt : Hid (∀ U, PrX s g (k1 + 1) D P B W U → Calls Tryz.prog 58 #[.pointer (some ⟨g, 0, none⟩)] U (NthY s g D P B W e0)) := fun U hU => pNth_to s (k1 + 1) p g e0 D P B W U hs hl12 hsg hnt hU
  have HCl : Hid (∀ U, PrX s g e0 D P B W U → Calls Tryz.prog 56 #[.pointer (some ⟨g, 0, none⟩)] U (SkY true s (e0 + 1) g D P B W)) := fun U hU => pClose_to s g e0 e0 D P B W U hs (by omega) hk2 h41 hsk2 hU
  clear hid hn58 h58 hm hsk2 h41 hsg hnt
  go_enter Tryz.func44, Tryz.ntmps44
  go_wp2_with fail
  go_quiet (fail)
  go_wp2_with fail
  go_quiet (fail)
  go_upto_block 2 with fail
  refine wp_gen (R := fun U => PrX s g m D P B W U) (HS.out _ _ (by have := HM.out; omega) (by repeat (first | exact HR.out | refine PrX.drew ?_ _))) ?_
  intro U hU
  have HU := Lib.hid hU
  clear c0 c1 f1 m0 HS
  have c0 := hU.c0
  have c1 := hU.c1
  have f1 := hU.fz 1
  clear hU
  go_wp2_with fail
  go_quiet (fail)
  go_wp2_with fail
  go_quiet (fail)
  go_wp2_with fail
  refine (HId.out _ (by rw [← HM.out]; repeat (first | exact HU.out | refine PrX.drew ?_ _))).mono ?_
  rintro e1 w1 ⟨rfl, hr1⟩
  have HR1 := Lib.hid hr1
  clear hr1 c0 c1 f1 m1
  go_wp2_with fail
  refine (HLw.out _).mono ?_
  rintro e2 w2 ⟨rfl, hb2⟩
  have HR2 := Lib.hid (HR1.out.next hb2)
  clear hb2 HLw HId
  have HOp : Hid (∀ U, PrX s g k1 D P B W U → Calls Tryz.prog 54 #[.pointer (some ⟨g, 0, none⟩)] U (SkY true s (k1 + 1) g D P B W)) := fun U hU => pOpen_to s g k1 (k1 + 1) D P B W U hs hk1 h40 hsk1 hU
  clear h40 hsk1
  go_wp2_with fail
  refine (HOp.out _ HR2.out).mono ?_
  rintro e3 w3 ⟨rfl, hr3⟩
  have HR3 := Lib.hid hr3
  have c0 := hr3.c0
  have c1 := hr3.c1
  clear hr3 HOp
  clear c0 c1
  go_wp2_with fail
  refine (HNt.out _ HR3.out).mono ?_
  rintro e4 w4 ⟨a, b, rfl, hr4⟩
  have HR4 := Lib.hid hr4
  clear hr4
  go_wp2_with fail
  refine (HCl.out _ HR4.out).mono ?_
  rintro e7 w7 ⟨rfl, hr7⟩
  have HR7 := Lib.hid hr7
  clear hr7
  go_wp2_with fail
  go_ret3
  exact ⟨_, rfl, HR7.out, dispNth a b false true _ _ _ (Nat.le_refl _)⟩
set_option maxRecDepth 100000 in
set_option maxHeartbeats 8000000 in
theorem psNth3 (s : ByteArray) (g k k1 : Nat) (D P : Value) (B : Nat) (W w : World) (hs : s.size ≤ 100000) (hlt : k < s.size) (h58 : bAt s k = 58) (hlt1 : k + 1 < s.size) (hn58 : bAt s (k + 1) ≠ 58) (hid : IdYes s (k + 1) ⟨#[110, 116, 104, 45, 108, 97, 115, 116, 45, 111, 102, 45, 116, 121, 112, 101]⟩ k1) (hk1 : k1 < s.size) (h40 : bAt s k1 = 40) (hsk1 : Sk s (k1 + 1) (k1 + 1)) (p e0 : Nat) (hl12 : k1 + 1 < s.size) (hsg : (bAt s (k1 + 1) = 45 ∧ p = k1 + 1 + 1) ∨ (bAt s (k1 + 1) ≠ 45 ∧ p = k1 + 1)) (hnt : NthTo s p e0) (hk2 : e0 < s.size) (hsk2 : Sk s e0 e0) (h41 : bAt s e0 = 41) (h : PrX s g k D P B W w) :
    Calls Tryz.prog 44 #[.pointer (some ⟨g, 0, none⟩)] w (PsY (0, 1, 0) s (e0 + 1) g D P B W) := by
  have HR := Lib.hid h
  have c0 := h.c0
  have c1 := h.c1
  have f1 := h.fz 1
  clear h
  have HId : Hid (∀ U, PrX s g (k + 1) D P B W U → Calls Tryz.prog 50 #[.pointer (some ⟨g, 0, none⟩)] U (NmY s ⟨#[110, 116, 104, 45, 108, 97, 115, 116, 45, 111, 102, 45, 116, 121, 112, 101]⟩ k1 g D P B W)) := fun U hU => pIdent_to s g (k + 1) _ k1 D P B W U hs (by omega) hid hU
  have HLw : Hid (∀ U, Calls Tryz.prog 51 #[.string ⟨#[110, 116, 104, 45, 108, 97, 115, 116, 45, 111, 102, 45, 116, 121, 112, 101]⟩] U fun e w' => e = .returned (.string ⟨#[110, 116, 104, 45, 108, 97, 115, 116, 45, 111, 102, 45, 116, 121, 112, 101]⟩) ∧ Below U.heap.size U w') := fun U => toLower_any ⟨#[110, 116, 104, 45, 108, 97, 115, 116, 45, 111, 102, 45, 116, 121, 112, 101]⟩ U (by decide)
  rw [bAt_in hlt] at h58
  obtain ⟨m, hm⟩ : ∃ m, m = k + 1 := ⟨_, rfl⟩
  rw [← hm] at hn58 hlt1
  rw [bAt_in hlt1] at hn58
  have m0 : ((s[k].toNat : Int) != 58) = false := by simp; omega
  have m1 : ((s[m].toNat : Int) == 58) = false := beq_eq_false_iff_ne.2 (by omega)
  have HS : Hid (∀ U x, x = ((m : Nat) : Int) → PrX s g k D P B W U → PrX s g m D P B W (U.setCell ⟨g, 1, none⟩ (.int .i64 x))) := fun U x hx h => h.setI _ _ hx
  have HM := Lib.hid hm
  have HNt : Hid (∀ U, PrX s g (k1 + 1) D P B W U → Calls Tryz.prog 58 #[.pointer (some ⟨g, 0, none⟩)] U (NthY s g D P B W e0)) := fun U hU => pNth_to s (k1 + 1) p g e0 D P B W U hs hl12 hsg hnt hU
  have HCl : Hid (∀ U, PrX s g e0 D P B W U → Calls Tryz.prog 56 #[.pointer (some ⟨g, 0, none⟩)] U (SkY true s (e0 + 1) g D P B W)) := fun U hU => pClose_to s g e0 e0 D P B W U hs (by omega) hk2 h41 hsk2 hU
  clear hid hn58 h58 hm hsk2 h41 hsg hnt
  go_enter Tryz.func44, Tryz.ntmps44
  go_wp2_with fail
  go_quiet (fail)
  go_wp2_with fail
  go_quiet (fail)
  go_upto_block 2 with fail
  refine wp_gen (R := fun U => PrX s g m D P B W U) (HS.out _ _ (by have := HM.out; omega) (by repeat (first | exact HR.out | refine PrX.drew ?_ _))) ?_
  intro U hU
  have HU := Lib.hid hU
  clear c0 c1 f1 m0 HS
  have c0 := hU.c0
  have c1 := hU.c1
  have f1 := hU.fz 1
  clear hU
  go_wp2_with fail
  go_quiet (fail)
  go_wp2_with fail
  go_quiet (fail)
  go_wp2_with fail
  refine (HId.out _ (by rw [← HM.out]; repeat (first | exact HU.out | refine PrX.drew ?_ _))).mono ?_
  rintro e1 w1 ⟨rfl, hr1⟩
  have HR1 := Lib.hid hr1
  clear hr1 c0 c1 f1 m1
  go_wp2_with fail
  refine (HLw.out _).mono ?_
  rintro e2 w2 ⟨rfl, hb2⟩
  have HR2 := Lib.hid (HR1.out.next hb2)
  clear hb2 HLw HId
  have HOp : Hid (∀ U, PrX s g k1 D P B W U → Calls Tryz.prog 54 #[.pointer (some ⟨g, 0, none⟩)] U (SkY true s (k1 + 1) g D P B W)) := fun U hU => pOpen_to s g k1 (k1 + 1) D P B W U hs hk1 h40 hsk1 hU
  clear h40 hsk1
  go_wp2_with fail
  refine (HOp.out _ HR2.out).mono ?_
  rintro e3 w3 ⟨rfl, hr3⟩
  have HR3 := Lib.hid hr3
  have c0 := hr3.c0
  have c1 := hr3.c1
  clear hr3 HOp
  clear c0 c1
  go_wp2_with fail
  refine (HNt.out _ HR3.out).mono ?_
  rintro e4 w4 ⟨a, b, rfl, hr4⟩
  have HR4 := Lib.hid hr4
  clear hr4
  go_wp2_with fail
  refine (HCl.out _ HR4.out).mono ?_
  rintro e7 w7 ⟨rfl, hr7⟩
  have HR7 := Lib.hid hr7
  clear hr7
  go_wp2_with fail
  go_ret3
  exact ⟨_, rfl, HR7.out, dispNth a b true true _ _ _ (Nat.le_refl _)⟩
end Go.Proofs.YtnibpdmbccfgoaaGreatDoor
