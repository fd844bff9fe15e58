/- parsePseudoclassSelector: names alone. -/
import Derived.Test.YtnibpdmbccfgoaaGreatDoorT607
import Derived.Test.YtnibpdmbccfgoaaGreatDoorJ7
namespace Go.Proofs.YtnibpdmbccfgoaaGreatDoor
open Go.RowKit
set_option linter.unusedVariables false

theorem wp_gen {P : Program} {c : Code} {Q : Exit → Act → World → Prop} {a : Act} {w : World} {R : World → Prop} (hw : R w) (H : ∀ U, R U → c.wp P Q a U) : c.wp P Q a w := H w hw
/-- What parsePseudoclassSelector answers. -/
def PsY (x : S3) (s : ByteArray) (e' g : Nat) (D P : Value) (B : Nat) (W : World) (e : Ending) (w' : World) : Prop :=
  ∃ v, e = .returned (.tuple #[v, .string ⟨#[]⟩, .nilIface]) ∧ PrX s g e' D P B W w' ∧ Disp B w'.heap.size v x w'

set_option maxRecDepth 100000 in
set_option maxHeartbeats 8000000 in
theorem psOnly0 (s : ByteArray) (g k k1 : Nat) (D P : Value) (B : Nat) (W w : World) (hs : s.size ≤ 100000) (hlt : k < s.size) (h58 : bAt s k = 58) (hlt1 : k + 1 < s.size) (hn58 : bAt s (k + 1) ≠ 58) (hid : IdYes s (k + 1) ⟨#[111, 110, 108, 121, 45, 99, 104, 105, 108, 100]⟩ k1) (h : PrX s g k D P B W w) :
    Calls Tryz.prog 44 #[.pointer (some ⟨g, 0, none⟩)] w (PsY (0, 1, 0) s k1 g D P B W) := by
  have HR := Lib.hid h
  have c0 := h.c0
  have c1 := h.c1
  have f1 := h.fz 1
  clear h
  have HId : Hid (∀ U, PrX s g (k + 1) D P B W U → Calls Tryz.prog 50 #[.pointer (some ⟨g, 0, none⟩)] U (NmY s ⟨#[111, 110, 108, 121, 45, 99, 104, 105, 108, 100]⟩ k1 g D P B W)) := fun U hU => pIdent_to s g (k + 1) _ k1 D P B W U hs (by omega) hid hU
  have HLw : Hid (∀ U, Calls Tryz.prog 51 #[.string ⟨#[111, 110, 108, 121, 45, 99, 104, 105, 108, 100]⟩] U fun e w' => e = .returned (.string ⟨#[111, 110, 108, 121, 45, 99, 104, 105, 108, 100]⟩) ∧ Below U.heap.size U w') := fun U => toLower_any ⟨#[111, 110, 108, 121, 45, 99, 104, 105, 108, 100]⟩ U (by decide)
  rw [bAt_in hlt] at h58
  obtain ⟨m, hm⟩ : ∃ m, m = k + 1 := ⟨_, rfl⟩
  rw [← hm] at hn58 hlt1
  rw [bAt_in hlt1] at hn58
  have m0 : ((s[k].toNat : Int) != 58) = false := by simp; omega
  have m1 : ((s[m].toNat : Int) == 58) = false := beq_eq_false_iff_ne.2 (by omega)
  have HS : Hid (∀ U x, x = ((m : Nat) : Int) → PrX s g k D P B W U → PrX s g m D P B W (U.setCell ⟨g, 1, none⟩ (.int .i64 x))) := fun U x hx h => h.setI _ _ hx
  have HM := Lib.hid hm
  clear hid hn58 h58 hm
  go_enter Tryz.func44, Tryz.ntmps44
  go_wp2_with fail
  go_quiet (fail)
  go_wp2_with fail
  go_quiet (fail)
  go_upto_block 2 with fail
  refine wp_gen (R := fun U => PrX s g m D P B W U) (HS.out _ _ (by have := HM.out; omega) (by repeat (first | exact HR.out | refine PrX.drew ?_ _))) ?_
  intro U hU
  have HU := Lib.hid hU
  clear c0 c1 f1 m0 HS
  have c0 := hU.c0
  have c1 := hU.c1
  have f1 := hU.fz 1
  clear hU
  go_wp2_with fail
  go_quiet (fail)
  go_wp2_with fail
  go_quiet (fail)
  go_wp2_with fail
  refine (HId.out _ (by rw [← HM.out]; repeat (first | exact HU.out | refine PrX.drew ?_ _))).mono ?_
  rintro e1 w1 ⟨rfl, hr1⟩
  have HR1 := Lib.hid hr1
  clear hr1 c0 c1 f1 m1
  go_wp2_with fail
  refine (HLw.out _).mono ?_
  rintro e2 w2 ⟨rfl, hb2⟩
  have HR2 := Lib.hid (HR1.out.next hb2)
  clear hb2 HLw HId
  go_wp2_with fail
  go_ret3
  exact ⟨_, rfl, HR2.out, dispOnl false _ _ _ (Nat.le_refl _)⟩

set_option maxRecDepth 100000 in
set_option maxHeartbeats 8000000 in
theorem psOnly2 (s : ByteArray) (g k k1 : Nat) (D P : Value) (B : Nat) (W w : World) (hs : s.size ≤ 100000) (hlt : k < s.size) (h58 : bAt s k = 58) (hlt1 : k + 1 < s.size) (hn58 : bAt s (k + 1) ≠ 58) (hid : IdYes s (k + 1) ⟨#[111, 110, 108, 121, 45, 111, 102, 45, 116, 121, 112, 101]⟩ k1) (h : PrX s g k D P B W w) :
    Calls Tryz.prog 44 #[.pointer (some ⟨g, 0, none⟩)] w (PsY (0, 1, 0) s k1 g D P B W) := by
  have HR := Lib.hid h
  have c0 := h.c0
  have c1 := h.c1
  have f1 := h.fz 1
  clear h
  have HId : Hid (∀ U, PrX s g (k + 1) D P B W U → Calls Tryz.prog 50 #[.pointer (some ⟨g, 0, none⟩)] U (NmY s ⟨#[111, 110, 108, 121, 45, 111, 102, 45, 116, 121, 112, 101]⟩ k1 g D P B W)) := fun U hU => pIdent_to s g (k + 1) _ k1 D P B W U hs (by omega) hid hU
  have HLw : Hid (∀ U, Calls Tryz.prog 51 #[.string ⟨#[111, 110, 108, 121, 45, 111, 102, 45, 116, 121, 112, 101]⟩] U fun e w' => e = .returned (.string ⟨#[111, 110, 108, 121, 45, 111, 102, 45, 116, 121, 112, 101]⟩) ∧ Below U.heap.size U w') := fun U => toLower_any ⟨#[111, 110, 108, 121, 45, 111, 102, 45, 116, 121, 112, 101]⟩ U (by decide)
  rw [bAt_in hlt] at h58
  obtain ⟨m, hm⟩ : ∃ m, m = k + 1 := ⟨_, rfl⟩
  rw [← hm] at hn58 hlt1
  rw [bAt_in hlt1] at hn58
  have m0 : ((s[k].toNat : Int) != 58) = false := by simp; omega
  have m1 : ((s[m].toNat : Int) == 58) = false := beq_eq_false_iff_ne.2 (by omega)
  have HS : Hid (∀ U x, x = ((m : Nat) : Int) → PrX s g k D P B W U → PrX s g m D P B W (U.setCell ⟨g, 1, none⟩ (.int .i64 x))) := fun U x hx h => h.setI _ _ hx
  have HM := Lib.hid hm
  clear hid hn58 h58 hm
  go_enter Tryz.func44, Tryz.ntmps44
  go_wp2_with fail
  go_quiet (fail)
  go_wp2_with fail
  go_quiet (fail)
  go_upto_block 2 with fail
  refine wp_gen (R := fun U => PrX s g m D P B W U) (HS.out _ _ (by have := HM.out; omega) (by repeat (first | exact HR.out | refine PrX.drew ?_ _))) ?_
  intro U hU
  have HU := Lib.hid hU
  clear c0 c1 f1 m0 HS
  have c0 := hU.c0
  have c1 := hU.c1
  have f1 := hU.fz 1
  clear hU
  go_wp2_with fail
  go_quiet (fail)
  go_wp2_with fail
  go_quiet (fail)
  go_wp2_with fail
  refine (HId.out _ (by rw [← HM.out]; repeat (first | exact HU.out | refine PrX.drew ?_ _))).mono ?_
  rintro e1 w1 ⟨rfl, hr1⟩
  have HR1 := Lib.hid hr1
  clear hr1 c0 c1 f1 m1
  go_wp2_with fail
  refine (HLw.out _).mono ?_
  rintro e2 w2 ⟨rfl, hb2⟩
  have HR2 := Lib.hid (HR1.out.next hb2)
  clear hb2 HLw HId
  go_wp2_with fail
  go_ret3
  exact ⟨_, rfl, HR2.out, dispOnl true _ _ _ (Nat.le_refl _)⟩

set_option maxRecDepth 100000 in
set_option maxHeartbeats 8000000 in
theorem psInput (s : ByteArray) (g k k1 : Nat) (D P : Value) (B : Nat) (W w : World) (hs : s.size ≤ 100000) (hlt : k < s.size) (h58 : bAt s k = 58) (hlt1 : k + 1 < s.size) (hn58 : bAt s (k + 1) ≠ 58) (hid : IdYes s (k + 1) ⟨#[105, 110, 112, 117, 116]⟩ k1) (h : PrX s g k D P B W w) :
    Calls Tryz.prog 44 #[.pointer (some ⟨g, 0, none⟩)] w (PsY (0, 1, 0) s k1 g D P B W) := by
  have HR := Lib.hid h
  have c0 := h.c0
  have c1 := h.c1
  have f1 := h.fz 1
  clear h
  have HId : Hid (∀ U, PrX s g (k + 1) D P B W U → Calls Tryz.prog 50 #[.pointer (some ⟨g, 0, none⟩)] U (NmY s ⟨#[105, 110, 112, 117, 116]⟩ k1 g D P B W)) := fun U hU => pIdent_to s g (k + 1) _ k1 D P B W U hs (by omega) hid hU
  have HLw : Hid (∀ U, Calls Tryz.prog 51 #[.string ⟨#[105, 110, 112, 117, 116]⟩] U fun e w' => e = .returned (.string ⟨#[105, 110, 112, 117, 116]⟩) ∧ Below U.heap.size U w') := fun U => toLower_any ⟨#[105, 110, 112, 117, 116]⟩ U (by decide)
  rw [bAt_in hlt] at h58
  obtain ⟨m, hm⟩ : ∃ m, m = k + 1 := ⟨_, rfl⟩
  rw [← hm] at hn58 hlt1
  rw [bAt_in hlt1] at hn58
  have m0 : ((s[k].toNat : Int) != 58) = false := by simp; omega
  have m1 : ((s[m].toNat : Int) == 58) = false := beq_eq_false_iff_ne.2 (by omega)
  have HS : Hid (∀ U x, x = ((m : Nat) : Int) → PrX s g k D P B W U → PrX s g m D P B W (U.setCell ⟨g, 1, none⟩ (.int .i64 x))) := fun U x hx h => h.setI _ _ hx
  have HM := Lib.hid hm
  clear hid hn58 h58 hm
  go_enter Tryz.func44, Tryz.ntmps44
  go_wp2_with fail
  go_quiet (fail)
  go_wp2_with fail
  go_quiet (fail)
  go_upto_block 2 with fail
  refine wp_gen (R := fun U => PrX s g m D P B W U) (HS.out _ _ (by have := HM.out; omega) (by repeat (first | exact HR.out | refine PrX.drew ?_ _))) ?_
  intro U hU
  have HU := Lib.hid hU
  clear c0 c1 f1 m0 HS
  have c0 := hU.c0
  have c1 := hU.c1
  have f1 := hU.fz 1
  clear hU
  go_wp2_with fail
  go_quiet (fail)
  go_wp2_with fail
  go_quiet (fail)
  go_wp2_with fail
  refine (HId.out _ (by rw [← HM.out]; repeat (first | exact HU.out | refine PrX.drew ?_ _))).mono ?_
  rintro e1 w1 ⟨rfl, hr1⟩
  have HR1 := Lib.hid hr1
  clear hr1 c0 c1 f1 m1
  go_wp2_with fail
  refine (HLw.out _).mono ?_
  rintro e2 w2 ⟨rfl, hb2⟩
  have HR2 := Lib.hid (HR1.out.next hb2)
  clear hb2 HLw HId
  go_wp2_with fail
  go_ret3
  exact ⟨_, rfl, HR2.out, dispInp _ _ _ (Nat.le_refl _)⟩

set_option maxRecDepth 100000 in
set_option maxHeartbeats 8000000 in
theorem psEmpty (s : ByteArray) (g k k1 : Nat) (D P : Value) (B : Nat) (W w : World) (hs : s.size ≤ 100000) (hlt : k < s.size) (h58 : bAt s k = 58) (hlt1 : k + 1 < s.size) (hn58 : bAt s (k + 1) ≠ 58) (hid : IdYes s (k + 1) ⟨#[101, 109, 112, 116, 121]⟩ k1) (h : PrX s g k D P B W w) :
    Calls Tryz.prog 44 #[.pointer (some ⟨g, 0, none⟩)] w (PsY (0, 1, 0) s k1 g D P B W) := by
  have HR := Lib.hid h
  have c0 := h.c0
  have c1 := h.c1
  have f1 := h.fz 1
  clear h
  have HId : Hid (∀ U, PrX s g (k + 1) D P B W U → Calls Tryz.prog 50 #[.pointer (some ⟨g, 0, none⟩)] U (NmY s ⟨#[101, 109, 112, 116, 121]⟩ k1 g D P B W)) := fun U hU => pIdent_to s g (k + 1) _ k1 D P B W U hs (by omega) hid hU
  have HLw : Hid (∀ U, Calls Tryz.prog 51 #[.string ⟨#[101, 109, 112, 116, 121]⟩] U fun e w' => e = .returned (.string ⟨#[101, 109, 112, 116, 121]⟩) ∧ Below U.heap.size U w') := fun U => toLower_any ⟨#[101, 109, 112, 116, 121]⟩ U (by decide)
  rw [bAt_in hlt] at h58
  obtain ⟨m, hm⟩ : ∃ m, m = k + 1 := ⟨_, rfl⟩
  rw [← hm] at hn58 hlt1
  rw [bAt_in hlt1] at hn58
  have m0 : ((s[k].toNat : Int) != 58) = false := by simp; omega
  have m1 : ((s[m].toNat : Int) == 58) = false := beq_eq_false_iff_ne.2 (by omega)
  have HS : Hid (∀ U x, x = ((m : Nat) : Int) → PrX s g k D P B W U → PrX s g m D P B W (U.setCell ⟨g, 1, none⟩ (.int .i64 x))) := fun U x hx h => h.setI _ _ hx
  have HM := Lib.hid hm
  clear hid hn58 h58 hm
  go_enter Tryz.func44, Tryz.ntmps44
  go_wp2_with fail
  go_quiet (fail)
  go_wp2_with fail
  go_quiet (fail)
  go_upto_block 2 with fail
  refine wp_gen (R := fun U => PrX s g m D P B W U) (HS.out _ _ (by have := HM.out; omega) (by repeat (first | exact HR.out | refine PrX.drew ?_ _))) ?_
  intro U hU
  have HU := Lib.hid hU
  clear c0 c1 f1 m0 HS
  have c0 := hU.c0
  have c1 := hU.c1
  have f1 := hU.fz 1
  clear hU
  go_wp2_with fail
  go_quiet (fail)
  go_wp2_with fail
  go_quiet (fail)
  go_wp2_with fail
  refine (HId.out _ (by rw [← HM.out]; repeat (first | exact HU.out | refine PrX.drew ?_ _))).mono ?_
  rintro e1 w1 ⟨rfl, hr1⟩
  have HR1 := Lib.hid hr1
  clear hr1 c0 c1 f1 m1
  go_wp2_with fail
  refine (HLw.out _).mono ?_
  rintro e2 w2 ⟨rfl, hb2⟩
  have HR2 := Lib.hid (HR1.out.next hb2)
  clear hb2 HLw HId
  go_wp2_with fail
  go_ret3
  exact ⟨_, rfl, HR2.out, dispEmp _ _ _ (Nat.le_refl _)⟩

set_option maxRecDepth 100000 in
set_option maxHeartbeats 8000000 in
theorem psRoot (s : ByteArray) (g k k1 : Nat) (D P : Value) (B : Nat) (W w : World) (hs : s.size ≤ 100000) (hlt : k < s.size) (h58 : bAt s k = 58) (hlt1 : k + 1 < s.size) (hn58 : bAt s (k + 1) ≠ 58) (hid : IdYes s (k + 1) ⟨#[114, 111, 111, 116]⟩ k1) (h : PrX s g k D P B W w) :
    Calls Tryz.prog 44 #[.pointer (some ⟨g, 0, none⟩)] w (PsY (0, 1, 0) s k1 g D P B W) := by
  have HR := Lib.hid h
  have c0 := h.c0
  have c1 := h.c1
  have f1 := h.fz 1
  clear h
  have HId : Hid (∀ U, PrX s g (k + 1) D P B W U → Calls Tryz.prog 50 #[.pointer (some ⟨g, 0, none⟩)] U (NmY s ⟨#[114, 111, 111, 116]⟩ k1 g D P B W)) := fun U hU => pIdent_to s g (k + 1) _ k1 D P B W U hs (by omega) hid hU
  have HLw : Hid (∀ U, Calls Tryz.prog 51 #[.string ⟨#[114, 111, 111, 116]⟩] U fun e w' => e = .returned (.string ⟨#[114, 111, 111, 116]⟩) ∧ Below U.heap.size U w') := fun U => toLower_any ⟨#[114, 111, 111, 116]⟩ U (by decide)
  rw [bAt_in hlt] at h58
  obtain ⟨m, hm⟩ : ∃ m, m = k + 1 := ⟨_, rfl⟩
  rw [← hm] at hn58 hlt1
  rw [bAt_in hlt1] at hn58
  have m0 : ((s[k].toNat : Int) != 58) = false := by simp; omega
  have m1 : ((s[m].toNat : Int) == 58) = false := beq_eq_false_iff_ne.2 (by omega)
  have HS : Hid (∀ U x, x = ((m : Nat) : Int) → PrX s g k D P B W U → PrX s g m D P B W (U.setCell ⟨g, 1, none⟩ (.int .i64 x))) := fun U x hx h => h.setI _ _ hx
  have HM := Lib.hid hm
  clear hid hn58 h58 hm
  go_enter Tryz.func44, Tryz.ntmps44
  go_wp2_with fail
  go_quiet (fail)
  go_wp2_with fail
  go_quiet (fail)
  go_upto_block 2 with fail
  refine wp_gen (R := fun U => PrX s g m D P B W U) (HS.out _ _ (by have := HM.out; omega) (by repeat (first | exact HR.out | refine PrX.drew ?_ _))) ?_
  intro U hU
  have HU := Lib.hid hU
  clear c0 c1 f1 m0 HS
  have c0 := hU.c0
  have c1 := hU.c1
  have f1 := hU.fz 1
  clear hU
  go_wp2_with fail
  go_quiet (fail)
  go_wp2_with fail
  go_quiet (fail)
  go_wp2_with fail
  refine (HId.out _ (by rw [← HM.out]; repeat (first | exact HU.out | refine PrX.drew ?_ _))).mono ?_
  rintro e1 w1 ⟨rfl, hr1⟩
  have HR1 := Lib.hid hr1
  clear hr1 c0 c1 f1 m1
  go_wp2_with fail
  refine (HLw.out _).mono ?_
  rintro e2 w2 ⟨rfl, hb2⟩
  have HR2 := Lib.hid (HR1.out.next hb2)
  clear hb2 HLw HId
  go_wp2_with fail
  go_ret3
  exact ⟨_, rfl, HR2.out, dispRoo _ _ _ (Nat.le_refl _)⟩

set_option maxRecDepth 100000 in
set_option maxHeartbeats 8000000 in
theorem psLink (s : ByteArray) (g k k1 : Nat) (D P : Value) (B : Nat) (W w : World) (hs : s.size ≤ 100000) (hlt : k < s.size) (h58 : bAt s k = 58) (hlt1 : k + 1 < s.size) (hn58 : bAt s (k + 1) ≠ 58) (hid : IdYes s (k + 1) ⟨#[108, 105, 110, 107]⟩ k1) (h : PrX s g k D P B W w) :
    Calls Tryz.prog 44 #[.pointer (some ⟨g, 0, none⟩)] w (PsY (0, 1, 0) s k1 g D P B W) := by
  have HR := Lib.hid h
  have c0 := h.c0
  have c1 := h.c1
  have f1 := h.fz 1
  clear h
  have HId : Hid (∀ U, PrX s g (k + 1) D P B W U → Calls Tryz.prog 50 #[.pointer (some ⟨g, 0, none⟩)] U (NmY s ⟨#[108, 105, 110, 107]⟩ k1 g D P B W)) := fun U hU => pIdent_to s g (k + 1) _ k1 D P B W U hs (by omega) hid hU
  have HLw : Hid (∀ U, Calls Tryz.prog 51 #[.string ⟨#[108, 105, 110, 107]⟩] U fun e w' => e = .returned (.string ⟨#[108, 105, 110, 107]⟩) ∧ Below U.heap.size U w') := fun U => toLower_any ⟨#[108, 105, 110, 107]⟩ U (by decide)
  rw [bAt_in hlt] at h58
  obtain ⟨m, hm⟩ : ∃ m, m = k + 1 := ⟨_, rfl⟩
  rw [← hm] at hn58 hlt1
  rw [bAt_in hlt1] at hn58
  have m0 : ((s[k].toNat : Int) != 58) = false := by simp; omega
  have m1 : ((s[m].toNat : Int) == 58) = false := beq_eq_false_iff_ne.2 (by omega)
  have HS : Hid (∀ U x, x = ((m : Nat) : Int) → PrX s g k D P B W U → PrX s g m D P B W (U.setCell ⟨g, 1, none⟩ (.int .i64 x))) := fun U x hx h => h.setI _ _ hx
  have HM := Lib.hid hm
  clear hid hn58 h58 hm
  go_enter Tryz.func44, Tryz.ntmps44
  go_wp2_with fail
  go_quiet (fail)
  go_wp2_with fail
  go_quiet (fail)
  go_upto_block 2 with fail
  refine wp_gen (R := fun U => PrX s g m D P B W U) (HS.out _ _ (by have := HM.out; omega) (by repeat (first | exact HR.out | refine PrX.drew ?_ _))) ?_
  intro U hU
  have HU := Lib.hid hU
  clear c0 c1 f1 m0 HS
  have c0 := hU.c0
  have c1 := hU.c1
  have f1 := hU.fz 1
  clear hU
  go_wp2_with fail
  go_quiet (fail)
  go_wp2_with fail
  go_quiet (fail)
  go_wp2_with fail
  refine (HId.out _ (by rw [← HM.out]; repeat (first | exact HU.out | refine PrX.drew ?_ _))).mono ?_
  rintro e1 w1 ⟨rfl, hr1⟩
  have HR1 := Lib.hid hr1
  clear hr1 c0 c1 f1 m1
  go_wp2_with fail
  refine (HLw.out _).mono ?_
  rintro e2 w2 ⟨rfl, hb2⟩
  have HR2 := Lib.hid (HR1.out.next hb2)
  clear hb2 HLw HId
  go_wp2_with fail
  go_ret3
  exact ⟨_, rfl, HR2.out, dispLin _ _ _ (Nat.le_refl _)⟩

set_option maxRecDepth 100000 in
set_option maxHeartbeats 8000000 in
theorem psEnabled (s : ByteArray) (g k k1 : Nat) (D P : Value) (B : Nat) (W w : World) (hs : s.size ≤ 100000) (hlt : k < s.size) (h58 : bAt s k = 58) (hlt1 : k + 1 < s.size) (hn58 : bAt s (k + 1) ≠ 58) (hid : IdYes s (k + 1) ⟨#[101, 110, 97, 98, 108, 101, 100]⟩ k1) (h : PrX s g k D P B W w) :
    Calls Tryz.prog 44 #[.pointer (some ⟨g, 0, none⟩)] w (PsY (0, 1, 0) s k1 g D P B W) := by
  have HR := Lib.hid h
  have c0 := h.c0
  have c1 := h.c1
  have f1 := h.fz 1
  clear h
  have HId : Hid (∀ U, PrX s g (k + 1) D P B W U → Calls Tryz.prog 50 #[.pointer (some ⟨g, 0, none⟩)] U (NmY s ⟨#[101, 110, 97, 98, 108, 101, 100]⟩ k1 g D P B W)) := fun U hU => pIdent_to s g (k + 1) _ k1 D P B W U hs (by omega) hid hU
  have HLw : Hid (∀ U, Calls Tryz.prog 51 #[.string ⟨#[101, 110, 97, 98, 108, 101, 100]⟩] U fun e w' => e = .returned (.string ⟨#[101, 110, 97, 98, 108, 101, 100]⟩) ∧ Below U.heap.size U w') := fun U => toLower_any ⟨#[101, 110, 97, 98, 108, 101, 100]⟩ U (by decide)
  rw [bAt_in hlt] at h58
  obtain ⟨m, hm⟩ : ∃ m, m = k + 1 := ⟨_, rfl⟩
  rw [← hm] at hn58 hlt1
  rw [bAt_in hlt1] at hn58
  have m0 : ((s[k].toNat : Int) != 58) = false := by simp; omega
  have m1 : ((s[m].toNat : Int) == 58) = false := beq_eq_false_iff_ne.2 (by omega)
  have HS : Hid (∀ U x, x = ((m : Nat) : Int) → PrX s g k D P B W U → PrX s g m D P B W (U.setCell ⟨g, 1, none⟩ (.int .i64 x))) := fun U x hx h => h.setI _ _ hx
  have HM := Lib.hid hm
  clear hid hn58 h58 hm
  go_enter Tryz.func44, Tryz.ntmps44
  go_wp2_with fail
  go_quiet (fail)
  go_wp2_with fail
  go_quiet (fail)
  go_upto_block 2 with fail
  refine wp_gen (R := fun U => PrX s g m D P B W U) (HS.out _ _ (by have := HM.out; omega) (by repeat (first | exact HR.out | refine PrX.drew ?_ _))) ?_
  intro U hU
  have HU := Lib.hid hU
  clear c0 c1 f1 m0 HS
  have c0 := hU.c0
  have c1 := hU.c1
  have f1 := hU.fz 1
  clear hU
  go_wp2_with fail
  go_quiet (fail)
  go_wp2_with fail
  go_quiet (fail)
  go_wp2_with fail
  refine (HId.out _ (by rw [← HM.out]; repeat (first | exact HU.out | refine PrX.drew ?_ _))).mono ?_
  rintro e1 w1 ⟨rfl, hr1⟩
  have HR1 := Lib.hid hr1
  clear hr1 c0 c1 f1 m1
  go_wp2_with fail
  refine (HLw.out _).mono ?_
  rintro e2 w2 ⟨rfl, hb2⟩
  have HR2 := Lib.hid (HR1.out.next hb2)
  clear hb2 HLw HId
  go_wp2_with fail
  go_ret3
  exact ⟨_, rfl, HR2.out, dispEna _ _ _ (Nat.le_refl _)⟩

set_option maxRecDepth 100000 in
set_option maxHeartbeats 8000000 in
theorem psDisabled (s : ByteArray) (g k k1 : Nat) (D P : Value) (B : Nat) (W w : World) (hs : s.size ≤ 100000) (hlt : k < s.size) (h58 : bAt s k = 58) (hlt1 : k + 1 < s.size) (hn58 : bAt s (k + 1) ≠ 58) (hid : IdYes s (k + 1) ⟨#[100, 105, 115, 97, 98, 108, 101, 100]⟩ k1) (h : PrX s g k D P B W w) :
    Calls Tryz.prog 44 #[.pointer (some ⟨g, 0, none⟩)] w (PsY (0, 1, 0) s k1 g D P B W) := by
  have HR := Lib.hid h
  have c0 := h.c0
  have c1 := h.c1
  have f1 := h.fz 1
  clear h
  have HId : Hid (∀ U, PrX s g (k + 1) D P B W U → Calls Tryz.prog 50 #[.pointer (some ⟨g, 0, none⟩)] U (NmY s ⟨#[100, 105, 115, 97, 98, 108, 101, 100]⟩ k1 g D P B W)) := fun U hU => pIdent_to s g (k + 1) _ k1 D P B W U hs (by omega) hid hU
  have HLw : Hid (∀ U, Calls Tryz.prog 51 #[.string ⟨#[100, 105, 115, 97, 98, 108, 101, 100]⟩] U fun e w' => e = .returned (.string ⟨#[100, 105, 115, 97, 98, 108, 101, 100]⟩) ∧ Below U.heap.size U w') := fun U => toLower_any ⟨#[100, 105, 115, 97, 98, 108, 101, 100]⟩ U (by decide)
  rw [bAt_in hlt] at h58
  obtain ⟨m, hm⟩ : ∃ m, m = k + 1 := ⟨_, rfl⟩
  rw [← hm] at hn58 hlt1
  rw [bAt_in hlt1] at hn58
  have m0 : ((s[k].toNat : Int) != 58) = false := by simp; omega
  have m1 : ((s[m].toNat : Int) == 58) = false := beq_eq_false_iff_ne.2 (by omega)
  have HS : Hid (∀ U x, x = ((m : Nat) : Int) → PrX s g k D P B W U → PrX s g m D P B W (U.setCell ⟨g, 1, none⟩ (.int .i64 x))) := fun U x hx h => h.setI _ _ hx
  have HM := Lib.hid hm
  clear hid hn58 h58 hm
  go_enter Tryz.func44, Tryz.ntmps44
  go_wp2_with fail
  go_quiet (fail)
  go_wp2_with fail
  go_quiet (fail)
  go_upto_block 2 with fail
  refine wp_gen (R := fun U => PrX s g m D P B W U) (HS.out _ _ (by have := HM.out; omega) (by repeat (first | exact HR.out | refine PrX.drew ?_ _))) ?_
  intro U hU
  have HU := Lib.hid hU
  clear c0 c1 f1 m0 HS
  have c0 := hU.c0
  have c1 := hU.c1
  have f1 := hU.fz 1
  clear hU
  go_wp2_with fail
  go_quiet (fail)
  go_wp2_with fail
  go_quiet (fail)
  go_wp2_with fail
  refine (HId.out _ (by rw [← HM.out]; repeat (first | exact HU.out | refine PrX.drew ?_ _))).mono ?_
  rintro e1 w1 ⟨rfl, hr1⟩
  have HR1 := Lib.hid hr1
  clear hr1 c0 c1 f1 m1
  go_wp2_with fail
  refine (HLw.out _).mono ?_
  rintro e2 w2 ⟨rfl, hb2⟩
  have HR2 := Lib.hid (HR1.out.next hb2)
  clear hb2 HLw HId
  go_wp2_with fail
  go_ret3
  exact ⟨_, rfl, HR2.out, dispDis _ _ _ (Nat.le_refl _)⟩

set_option maxRecDepth 100000 in
set_option maxHeartbeats 8000000 in
theorem psChecked (s : ByteArray) (g k k1 : Nat) (D P : Value) (B : Nat) (W w : World) (hs : s.size ≤ 100000) (hlt : k < s.size) (h58 : bAt s k = 58) (hlt1 : k + 1 < s.size) (hn58 : bAt s (k + 1) ≠ 58) (hid : IdYes s (k + 1) ⟨#[99, 104, 101, 99, 107, 101, 100]⟩ k1) (h : PrX s g k D P B W w) :
    Calls Tryz.prog 44 #[.pointer (some ⟨g, 0, none⟩)] w (PsY (0, 1, 0) s k1 g D P B W) := by
  have HR := Lib.hid h
  have c0 := h.c0
  have c1 := h.c1
  have f1 := h.fz 1
  clear h
  have HId : Hid (∀ U, PrX s g (k + 1) D P B W U → Calls Tryz.prog 50 #[.pointer (some ⟨g, 0, none⟩)] U (NmY s ⟨#[99, 104, 101, 99, 107, 101, 100]⟩ k1 g D P B W)) := fun U hU => pIdent_to s g (k + 1) _ k1 D P B W U hs (by omega) hid hU
  have HLw : Hid (∀ U, Calls Tryz.prog 51 #[.string ⟨#[99, 104, 101, 99, 107, 101, 100]⟩] U fun e w' => e = .returned (.string ⟨#[99, 104, 101, 99, 107, 101, 100]⟩) ∧ Below U.heap.size U w') := fun U => toLower_any ⟨#[99, 104, 101, 99, 107, 101, 100]⟩ U (by decide)
  rw [bAt_in hlt] at h58
  obtain ⟨m, hm⟩ : ∃ m, m = k + 1 := ⟨_, rfl⟩
  rw [← hm] at hn58 hlt1
  rw [bAt_in hlt1] at hn58
  have m0 : ((s[k].toNat : Int) != 58) = false := by simp; omega
  have m1 : ((s[m].toNat : Int) == 58) = false := beq_eq_false_iff_ne.2 (by omega)
  have HS : Hid (∀ U x, x = ((m : Nat) : Int) → PrX s g k D P B W U → PrX s g m D P B W (U.setCell ⟨g, 1, none⟩ (.int .i64 x))) := fun U x hx h => h.setI _ _ hx
  have HM := Lib.hid hm
  clear hid hn58 h58 hm
  go_enter Tryz.func44, Tryz.ntmps44
  go_wp2_with fail
  go_quiet (fail)
  go_wp2_with fail
  go_quiet (fail)
  go_upto_block 2 with fail
  refine wp_gen (R := fun U => PrX s g m D P B W U) (HS.out _ _ (by have := HM.out; omega) (by repeat (first | exact HR.out | refine PrX.drew ?_ _))) ?_
  intro U hU
  have HU := Lib.hid hU
  clear c0 c1 f1 m0 HS
  have c0 := hU.c0
  have c1 := hU.c1
  have f1 := hU.fz 1
  clear hU
  go_wp2_with fail
  go_quiet (fail)
  go_wp2_with fail
  go_quiet (fail)
  go_wp2_with fail
  refine (HId.out _ (by rw [← HM.out]; repeat (first | exact HU.out | refine PrX.drew ?_ _))).mono ?_
  rintro e1 w1 ⟨rfl, hr1⟩
  have HR1 := Lib.hid hr1
  clear hr1 c0 c1 f1 m1
  go_wp2_with fail
  refine (HLw.out _).mono ?_
  rintro e2 w2 ⟨rfl, hb2⟩
  have HR2 := Lib.hid (HR1.out.next hb2)
  clear hb2 HLw HId
  go_wp2_with fail
  go_ret3
  exact ⟨_, rfl, HR2.out, dispChe _ _ _ (Nat.le_refl _)⟩

end Go.Proofs.YtnibpdmbccfgoaaGreatDoor
