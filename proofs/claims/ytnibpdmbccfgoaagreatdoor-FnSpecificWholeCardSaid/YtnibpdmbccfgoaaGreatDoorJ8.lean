/- FnSpecificWhole: texts joined (joinf.py) -/
import Derived.Test.YtnibpdmbccfgoaaGreatDoorT616
import Derived.Laws.AppendOwn
import Derived.Maps.AppendAt
namespace Go.Proofs.YtnibpdmbccfgoaaGreatDoor
open Go.RowKit
set_option linter.unusedVariables false

theorem PrX.kp {s : ByteArray} {g i lo hi : Nat} {D P : Value} {W w : World} (h : PrX s g i D P W.heap.size W w) (hg : g < lo) (ht : hi ≤ W.heap.size) : Kp lo hi W w := ⟨h.size, fun b h1 h2 => h.oth b (Nat.lt_of_lt_of_le h2 ht) (by omega)⟩
/-- What parseSelectorGroup answers where a group is known to stand from k to e. -/
def GrpY (s : ByteArray) (g k e' : Nat) (sps : List S3) (D P : Value) : Prop :=
  ∀ (N : Nat) (V U : World), g < N → PrX s g k D P N V U → Calls Tryz.prog 55 #[.pointer (some ⟨g, 0, none⟩)] U
    (fun e w' => ∃ (vs : List Value) (p : Option Addr) (cp : Nat), e = .returned (.tuple #[.slice p vs.length cp, .nilIface]) ∧ PrX s g e' D P N V w' ∧ RowS N w'.heap.size vs sps p w' ∧ vs.length ≤ 100000)

set_option maxRecDepth 100000 in
set_option maxHeartbeats 8000000 in
theorem psNot (s : ByteArray) (g k k1 : Nat) (D P : Value) (B : Nat) (W w : World) (hs : s.size ≤ 100000) (hlt : k < s.size) (h58 : bAt s k = 58) (hlt1 : k + 1 < s.size) (hn58 : bAt s (k + 1) ≠ 58) (hid : IdYes s (k + 1) ⟨#[110, 111, 116]⟩ k1) (hk1 : k1 < s.size) (h40 : bAt s k1 = 40) (hsk1 : Sk s (k1 + 1) (k1 + 1)) (e0 : Nat) (sps : List S3) (hgr : GrpY s g (k1 + 1) e0 sps D P) (hgB : g < B) (hlm : ∀ i (hi : i < sps.length), (sps[i]).lim) (hl12 : k1 + 1 ≤ s.size) (hk2 : e0 < s.size) (hsk2 : Sk s e0 e0) (h41 : bAt s e0 = 41) (h : PrX s g k D P B W w) :
    Calls Tryz.prog 44 #[.pointer (some ⟨g, 0, none⟩)] w (PsY (maxS sps sps.length) s (e0 + 1) g D P B W) := by
  have HR := Lib.hid h
  have c0 := h.c0
  have c1 := h.c1
  have f1 := h.fz 1
  clear h
  have HId : Hid (∀ U, PrX s g (k + 1) D P B W U → Calls Tryz.prog 50 #[.pointer (some ⟨g, 0, none⟩)] U (NmY s ⟨#[110, 111, 116]⟩ k1 g D P B W)) := fun U hU => pIdent_to s g (k + 1) _ k1 D P B W U hs (by omega) hid hU
  have HLw : Hid (∀ U, Calls Tryz.prog 51 #[.string ⟨#[110, 111, 116]⟩] U fun e w' => e = .returned (.string ⟨#[110, 111, 116]⟩) ∧ Below U.heap.size U w') := fun U => toLower_any ⟨#[110, 111, 116]⟩ U (by decide)
  rw [bAt_in hlt] at h58
  obtain ⟨m, hm⟩ : ∃ m, m = k + 1 := ⟨_, rfl⟩
  rw [← hm] at hn58 hlt1
  rw [bAt_in hlt1] at hn58
  have m0 : ((s[k].toNat : Int) != 58) = false := by simp; omega
  have m1 : ((s[m].toNat : Int) == 58) = false := beq_eq_false_iff_ne.2 (by omega)
  have HS : Hid (∀ U x, x = ((m : Nat) : Int) → PrX s g k D P B W U → PrX s g m D P B W (U.setCell ⟨g, 1, none⟩ (.int .i64 x))) := fun U x hx h => h.setI _ _ hx
  have HM := Lib.hid hm
  have HGr := Lib.hid hgr
  have HCl : Hid (∀ N V U, PrX s g e0 D P N V U → Calls Tryz.prog 56 #[.pointer (some ⟨g, 0, none⟩)] U (SkY true s (e0 + 1) g D P N V)) := fun N V U hU => pClose_to s g e0 e0 D P N V U hs (by omega) hk2 h41 hsk2 hU
  have HLm := Lib.hid hlm
  clear hid hn58 h58 hm hsk2 h41 hgr hlm
  go_enter Tryz.func44, Tryz.ntmps44
  go_wp2_with fail
  go_quiet (fail)
  go_wp2_with fail
  go_quiet (fail)
  go_upto_block 2 with fail
  refine wp_gen (R := fun U => PrX s g m D P B W U) (HS.out _ _ (by have := HM.out; omega) (by repeat (first | exact HR.out | refine PrX.drew ?_ _))) ?_
  intro U hU
  have HU := Lib.hid hU
  clear c0 c1 f1 m0 HS
  have c0 := hU.c0
  have c1 := hU.c1
  have f1 := hU.fz 1
  clear hU
  go_wp2_with fail
  go_quiet (fail)
  go_wp2_with fail
  go_quiet (fail)
  go_wp2_with fail
  refine (HId.out _ (by rw [← HM.out]; repeat (first | exact HU.out | refine PrX.drew ?_ _))).mono ?_
  rintro e1 w1 ⟨rfl, hr1⟩
  have HR1 := Lib.hid hr1
  clear hr1 c0 c1 f1 m1
  go_wp2_with fail
  refine (HLw.out _).mono ?_
  rintro e2 w2 ⟨rfl, hb2⟩
  have HR2 := Lib.hid (HR1.out.next hb2)
  clear hb2 HLw HId
  have HOp : Hid (∀ U, PrX s g k1 D P B W U → Calls Tryz.prog 54 #[.pointer (some ⟨g, 0, none⟩)] U (SkY true s (k1 + 1) g D P B W)) := fun U hU => pOpen_to s g k1 (k1 + 1) D P B W U hs hk1 h40 hsk1 hU
  clear h40 hsk1
  go_wp2_with fail
  refine (HOp.out _ HR2.out).mono ?_
  rintro e3 w3 ⟨rfl, hr3⟩
  have HR3 := Lib.hid hr3
  have c0 := hr3.c0
  have c1 := hr3.c1
  clear hr3 HOp
  clear c0 c1
  go_wp2_with fail
  refine (HGr.out B W _ hgB HR3.out).mono ?_
  rintro e4 w4 ⟨vs, p, cp, rfl, hr4, hrow, hln⟩
  have HR4 := Lib.hid hr4
  have HRow := Lib.hid hrow
  clear hr4 hrow
  go_wp2_with fail
  refine (HCl.out _ _ _ (PrX.of HR4.out.blk)).mono ?_
  rintro e7 w7 ⟨rfl, hr7⟩
  have HR7 : Hid (PrX s g (e0 + 1) D P B W w7) := hr7.comp HR4.out HR4.out.base
  have HTop : Hid (w4.heap.size ≤ w7.heap.size) := hr7.size
  have HRow7 := Lib.hid (HRow.out.next (hr7.kp hgB (Nat.le_refl _)))
  clear hr7
  go_wp2_with fail
  go_ret3
  have htop : w4.heap.size ≤ w7.heap.size := HTop.out
  exact ⟨_, rfl, HR7.out, (dispRel _ _ _ vs sps p cp hln _ HRow7.out HLm.out).more (Nat.le_refl _) htop (Nat.le_refl _)⟩
set_option maxRecDepth 100000 in
set_option maxHeartbeats 8000000 in
theorem psHas (s : ByteArray) (g k k1 : Nat) (D P : Value) (B : Nat) (W w : World) (hs : s.size ≤ 100000) (hlt : k < s.size) (h58 : bAt s k = 58) (hlt1 : k + 1 < s.size) (hn58 : bAt s (k + 1) ≠ 58) (hid : IdYes s (k + 1) ⟨#[104, 97, 115]⟩ k1) (hk1 : k1 < s.size) (h40 : bAt s k1 = 40) (hsk1 : Sk s (k1 + 1) (k1 + 1)) (e0 : Nat) (sps : List S3) (hgr : GrpY s g (k1 + 1) e0 sps D P) (hgB : g < B) (hlm : ∀ i (hi : i < sps.length), (sps[i]).lim) (hl12 : k1 + 1 ≤ s.size) (hk2 : e0 < s.size) (hsk2 : Sk s e0 e0) (h41 : bAt s e0 = 41) (h : PrX s g k D P B W w) :
    Calls Tryz.prog 44 #[.pointer (some ⟨g, 0, none⟩)] w (PsY (maxS sps sps.length) s (e0 + 1) g D P B W) := by
  have HR := Lib.hid h
  have c0 := h.c0
  have c1 := h.c1
  have f1 := h.fz 1
  clear h
  have HId : Hid (∀ U, PrX s g (k + 1) D P B W U → Calls Tryz.prog 50 #[.pointer (some ⟨g, 0, none⟩)] U (NmY s ⟨#[104, 97, 115]⟩ k1 g D P B W)) := fun U hU => pIdent_to s g (k + 1) _ k1 D P B W U hs (by omega) hid hU
  have HLw : Hid (∀ U, Calls Tryz.prog 51 #[.string ⟨#[104, 97, 115]⟩] U fun e w' => e = .returned (.string ⟨#[104, 97, 115]⟩) ∧ Below U.heap.size U w') := fun U => toLower_any ⟨#[104, 97, 115]⟩ U (by decide)
  rw [bAt_in hlt] at h58
  obtain ⟨m, hm⟩ : ∃ m, m = k + 1 := ⟨_, rfl⟩
  rw [← hm] at hn58 hlt1
  rw [bAt_in hlt1] at hn58
  have m0 : ((s[k].toNat : Int) != 58) = false := by simp; omega
  have m1 : ((s[m].toNat : Int) == 58) = false := beq_eq_false_iff_ne.2 (by omega)
  have HS : Hid (∀ U x, x = ((m : Nat) : Int) → PrX s g k D P B W U → PrX s g m D P B W (U.setCell ⟨g, 1, none⟩ (.int .i64 x))) := fun U x hx h => h.setI _ _ hx
  have HM := Lib.hid hm
  have HGr := Lib.hid hgr
  have HCl : Hid (∀ N V U, PrX s g e0 D P N V U → Calls Tryz.prog 56 #[.pointer (some ⟨g, 0, none⟩)] U (SkY true s (e0 + 1) g D P N V)) := fun N V U hU => pClose_to s g e0 e0 D P N V U hs (by omega) hk2 h41 hsk2 hU
  have HLm := Lib.hid hlm
  clear hid hn58 h58 hm hsk2 h41 hgr hlm
  go_enter Tryz.func44, Tryz.ntmps44
  go_wp2_with fail
  go_quiet (fail)
  go_wp2_with fail
  go_quiet (fail)
  go_upto_block 2 with fail
  refine wp_gen (R := fun U => PrX s g m D P B W U) (HS.out _ _ (by have := HM.out; omega) (by repeat (first | exact HR.out | refine PrX.drew ?_ _))) ?_
  intro U hU
  have HU := Lib.hid hU
  clear c0 c1 f1 m0 HS
  have c0 := hU.c0
  have c1 := hU.c1
  have f1 := hU.fz 1
  clear hU
  go_wp2_with fail
  go_quiet (fail)
  go_wp2_with fail
  go_quiet (fail)
  go_wp2_with fail
  refine (HId.out _ (by rw [← HM.out]; repeat (first | exact HU.out | refine PrX.drew ?_ _))).mono ?_
  rintro e1 w1 ⟨rfl, hr1⟩
  have HR1 := Lib.hid hr1
  clear hr1 c0 c1 f1 m1
  go_wp2_with fail
  refine (HLw.out _).mono ?_
  rintro e2 w2 ⟨rfl, hb2⟩
  have HR2 := Lib.hid (HR1.out.next hb2)
  clear hb2 HLw HId
  have HOp : Hid (∀ U, PrX s g k1 D P B W U → Calls Tryz.prog 54 #[.pointer (some ⟨g, 0, none⟩)] U (SkY true s (k1 + 1) g D P B W)) := fun U hU => pOpen_to s g k1 (k1 + 1) D P B W U hs hk1 h40 hsk1 hU
  clear h40 hsk1
  go_wp2_with fail
  refine (HOp.out _ HR2.out).mono ?_
  rintro e3 w3 ⟨rfl, hr3⟩
  have HR3 := Lib.hid hr3
  have c0 := hr3.c0
  have c1 := hr3.c1
  clear hr3 HOp
  clear c0 c1
  go_wp2_with fail
  refine (HGr.out B W _ hgB HR3.out).mono ?_
  rintro e4 w4 ⟨vs, p, cp, rfl, hr4, hrow, hln⟩
  have HR4 := Lib.hid hr4
  have HRow := Lib.hid hrow
  clear hr4 hrow
  go_wp2_with fail
  refine (HCl.out _ _ _ (PrX.of HR4.out.blk)).mono ?_
  rintro e7 w7 ⟨rfl, hr7⟩
  have HR7 : Hid (PrX s g (e0 + 1) D P B W w7) := hr7.comp HR4.out HR4.out.base
  have HTop : Hid (w4.heap.size ≤ w7.heap.size) := hr7.size
  have HRow7 := Lib.hid (HRow.out.next (hr7.kp hgB (Nat.le_refl _)))
  clear hr7
  go_wp2_with fail
  go_ret3
  have htop : w4.heap.size ≤ w7.heap.size := HTop.out
  exact ⟨_, rfl, HR7.out, (dispRel _ _ _ vs sps p cp hln _ HRow7.out HLm.out).more (Nat.le_refl _) htop (Nat.le_refl _)⟩
set_option maxRecDepth 100000 in
set_option maxHeartbeats 8000000 in
theorem psHasChild (s : ByteArray) (g k k1 : Nat) (D P : Value) (B : Nat) (W w : World) (hs : s.size ≤ 100000) (hlt : k < s.size) (h58 : bAt s k = 58) (hlt1 : k + 1 < s.size) (hn58 : bAt s (k + 1) ≠ 58) (hid : IdYes s (k + 1) ⟨#[104, 97, 115, 99, 104, 105, 108, 100]⟩ k1) (hk1 : k1 < s.size) (h40 : bAt s k1 = 40) (hsk1 : Sk s (k1 + 1) (k1 + 1)) (e0 : Nat) (sps : List S3) (hgr : GrpY s g (k1 + 1) e0 sps D P) (hgB : g < B) (hlm : ∀ i (hi : i < sps.length), (sps[i]).lim) (hl12 : k1 + 1 ≤ s.size) (hk2 : e0 < s.size) (hsk2 : Sk s e0 e0) (h41 : bAt s e0 = 41) (h : PrX s g k D P B W w) :
    Calls Tryz.prog 44 #[.pointer (some ⟨g, 0, none⟩)] w (PsY (maxS sps sps.length) s (e0 + 1) g D P B W) := by
  have HR := Lib.hid h
  have c0 := h.c0
  have c1 := h.c1
  have f1 := h.fz 1
  clear h
  have HId : Hid (∀ U, PrX s g (k + 1) D P B W U → Calls Tryz.prog 50 #[.pointer (some ⟨g, 0, none⟩)] U (NmY s ⟨#[104, 97, 115, 99, 104, 105, 108, 100]⟩ k1 g D P B W)) := fun U hU => pIdent_to s g (k + 1) _ k1 D P B W U hs (by omega) hid hU
  have HLw : Hid (∀ U, Calls Tryz.prog 51 #[.string ⟨#[104, 97, 115, 99, 104, 105, 108, 100]⟩] U fun e w' => e = .returned (.string ⟨#[104, 97, 115, 99, 104, 105, 108, 100]⟩) ∧ Below U.heap.size U w') := fun U => toLower_any ⟨#[104, 97, 115, 99, 104, 105, 108, 100]⟩ U (by decide)
  rw [bAt_in hlt] at h58
  obtain ⟨m, hm⟩ : ∃ m, m = k + 1 := ⟨_, rfl⟩
  rw [← hm] at hn58 hlt1
  rw [bAt_in hlt1] at hn58
  have m0 : ((s[k].toNat : Int) != 58) = false := by simp; omega
  have m1 : ((s[m].toNat : Int) == 58) = false := beq_eq_false_iff_ne.2 (by omega)
  have HS : Hid (∀ U x, x = ((m : Nat) : Int) → PrX s g k D P B W U → PrX s g m D P B W (U.setCell ⟨g, 1, none⟩ (.int .i64 x))) := fun U x hx h => h.setI _ _ hx
  have HM := Lib.hid hm
  have HGr := Lib.hid hgr
  have HCl : Hid (∀ N V U, PrX s g e0 D P N V U → Calls Tryz.prog 56 #[.pointer (some ⟨g, 0, none⟩)] U (SkY true s (e0 + 1) g D P N V)) := fun N V U hU => pClose_to s g e0 e0 D P N V U hs (by omega) hk2 h41 hsk2 hU
  have HLm := Lib.hid hlm
  clear hid hn58 h58 hm hsk2 h41 hgr hlm
  go_enter Tryz.func44, Tryz.ntmps44
  go_wp2_with fail
  go_quiet (fail)
  go_wp2_with fail
  go_quiet (fail)
  go_upto_block 2 with fail
  refine wp_gen (R := fun U => PrX s g m D P B W U) (HS.out _ _ (by have := HM.out; omega) (by repeat (first | exact HR.out | refine PrX.drew ?_ _))) ?_
  intro U hU
  have HU := Lib.hid hU
  clear c0 c1 f1 m0 HS
  have c0 := hU.c0
  have c1 := hU.c1
  have f1 := hU.fz 1
  clear hU
  go_wp2_with fail
  go_quiet (fail)
  go_wp2_with fail
  go_quiet (fail)
  go_wp2_with fail
  refine (HId.out _ (by rw [← HM.out]; repeat (first | exact HU.out | refine PrX.drew ?_ _))).mono ?_
  rintro e1 w1 ⟨rfl, hr1⟩
  have HR1 := Lib.hid hr1
  clear hr1 c0 c1 f1 m1
  go_wp2_with fail
  refine (HLw.out _).mono ?_
  rintro e2 w2 ⟨rfl, hb2⟩
  have HR2 := Lib.hid (HR1.out.next hb2)
  clear hb2 HLw HId
  have HOp : Hid (∀ U, PrX s g k1 D P B W U → Calls Tryz.prog 54 #[.pointer (some ⟨g, 0, none⟩)] U (SkY true s (k1 + 1) g D P B W)) := fun U hU => pOpen_to s g k1 (k1 + 1) D P B W U hs hk1 h40 hsk1 hU
  clear h40 hsk1
  go_wp2_with fail
  refine (HOp.out _ HR2.out).mono ?_
  rintro e3 w3 ⟨rfl, hr3⟩
  have HR3 := Lib.hid hr3
  have c0 := hr3.c0
  have c1 := hr3.c1
  clear hr3 HOp
  clear c0 c1
  go_wp2_with fail
  refine (HGr.out B W _ hgB HR3.out).mono ?_
  rintro e4 w4 ⟨vs, p, cp, rfl, hr4, hrow, hln⟩
  have HR4 := Lib.hid hr4
  have HRow := Lib.hid hrow
  clear hr4 hrow
  go_wp2_with fail
  refine (HCl.out _ _ _ (PrX.of HR4.out.blk)).mono ?_
  rintro e7 w7 ⟨rfl, hr7⟩
  have HR7 : Hid (PrX s g (e0 + 1) D P B W w7) := hr7.comp HR4.out HR4.out.base
  have HTop : Hid (w4.heap.size ≤ w7.heap.size) := hr7.size
  have HRow7 := Lib.hid (HRow.out.next (hr7.kp hgB (Nat.le_refl _)))
  clear hr7
  go_wp2_with fail
  go_ret3
  have htop : w4.heap.size ≤ w7.heap.size := HTop.out
  exact ⟨_, rfl, HR7.out, (dispRel _ _ _ vs sps p cp hln _ HRow7.out HLm.out).more (Nat.le_refl _) htop (Nat.le_refl _)⟩
end Go.Proofs.YtnibpdmbccfgoaaGreatDoor

namespace Go.Proofs.YtnibpdmbccfgoaaGreatDoor
open Go.RowKit
set_option linter.unusedVariables false

/-- The selectors of a compound so far: the row is the parser's own, and no value of it lies in the row's block. -/
structure Grow (B : Nat) (sv : Value) (vs : List Value) (ds : List S3) (w : World) : Prop where
  own : w.ownsRow B 36 1 sv vs.length vs
  len : ds.length = vs.length
  dsp : ∀ i (h : i < vs.length) (h2 : i < ds.length), ∃ lo hi, B ≤ lo ∧ Disp lo hi vs[i] ds[i] w ∧ ∀ b, sv.ownBlock = some b → b < lo ∨ hi ≤ b
theorem Grow.nil (B : Nat) (w : World) : Grow B (.slice none 0 0) [] [] w := ⟨World.ownsRow_nil w _ _ _, rfl, fun i h => absurd h (Nat.not_lt_zero i)⟩
theorem Grow.keep {B : Nat} {sv : Value} {vs : List Value} {ds : List S3} {w U : World} (h : Grow B sv vs ds w) (hs : w.heap.size ≤ U.heap.size) (hk : ∀ b, B ≤ b → b < w.heap.size → U.heap[b]? = w.heap[b]?) : Grow B sv vs ds U := by
  refine ⟨⟨h.own.1, ?_⟩, h.len, fun i h1 h2 => ?_⟩
  · rcases h.own.2 with hn | ⟨g, cap, cur, rfl, hb, hgg, rest⟩
    · exact .inl hn
    · exact .inr ⟨g, cap, cur, rfl, hb, (hk g hb (Array.getElem?_eq_some_iff.1 hgg).1).trans hgg, rest⟩
  · obtain ⟨lo, hi, hlo, hd, hr⟩ := h.dsp i h1 h2
    exact ⟨lo, hi, hlo, hd.next ⟨hs, fun b q1 q2 => hk b (Nat.le_trans hlo q1) (Nat.lt_of_lt_of_le q2 hd.1)⟩, hr⟩
theorem Grow.move {B : Nat} {sv : Value} {vs : List Value} {ds : List S3} {s : ByteArray} {g m : Nat} {D P : Value} {w U : World} (h : Grow B sv vs ds w) (hp : PrX s g m D P w.heap.size w U) (hg : g < B) : Grow B sv vs ds U :=
  h.keep hp.size (fun b q1 q2 => hp.oth b q2 (by omega))
theorem Grow.below {B : Nat} {sv : Value} {vs : List Value} {ds : List S3} {w U : World} (h : Grow B sv vs ds w) (hp : Below w.heap.size w U) : Grow B sv vs ds U :=
  h.keep hp.size (fun b _ q2 => hp.block b q2)
theorem Grow.push {B : Nat} {sv sv' : Value} {vs : List Value} {ds : List S3} {w U : World} {v : Value} {x : S3} {lo hi : Nat} (h : Grow B sv vs ds w) (hlo : B ≤ lo) (hd : Disp lo hi v x w) (hr : ∀ b, sv.ownBlock = some b → b < lo ∨ hi ≤ b)
    (ho : U.ownsRow B 36 1 sv' (vs.length + 1) (vs ++ [v])) (hg : w.grownBy U sv.ownBlock) (hat : sv'.ownBlock = sv.ownBlock ∨ sv'.ownBlock = some w.heap.size) : Grow B sv' (vs ++ [v]) (ds ++ [x]) U := by
  have key : ∀ lo hi v x, Disp lo hi v x w → (∀ b, sv.ownBlock = some b → b < lo ∨ hi ≤ b) → Disp lo hi v x U ∧ ∀ b, sv'.ownBlock = some b → b < lo ∨ hi ≤ b := by
    intro lo hi v x hd hr
    refine ⟨hd.next ⟨hg.size, fun b q1 q2 => hg.block b (Nat.lt_of_lt_of_le q2 hd.1) (fun q => ?_)⟩, fun b hb => ?_⟩
    · rcases hr b q.symm with c | c <;> omega
    · rcases hat with e | e
      · exact hr b (e ▸ hb)
      · rw [e] at hb
        cases hb
        exact .inr hd.1
  refine ⟨by rw [List.length_append]; exact ho, by rw [List.length_append, List.length_append, h.len]; rfl, fun i h1 h2 => ?_⟩
  by_cases c : i < vs.length
  · obtain ⟨l, t, q1, q2, q3⟩ := h.dsp i c (by rw [h.len]; exact c)
    obtain ⟨r1, r2⟩ := key l t _ _ q2 q3
    refine ⟨l, t, q1, ?_, r2⟩
    rw [List.getElem_append_left c, List.getElem_append_left (by rw [h.len]; exact c)]
    exact r1
  · have hi1 : i = vs.length := by rw [List.length_append] at h1; simp at h1; omega
    subst hi1
    obtain ⟨r1, r2⟩ := key lo hi v x hd hr
    refine ⟨lo, hi, hlo, ?_, r2⟩
    rw [List.getElem_append_right (Nat.le_refl _), List.getElem_append_right (by rw [h.len]; exact Nat.le_refl _)]
    simpa [h.len] using r1
theorem Grow.row {B : Nat} {p : Option Addr} {n cp : Nat} {vs : List Value} {ds : List S3} {w : World} (h : Grow B (.slice p n cp) vs ds w) : RowS B w.heap.size vs ds p w := by
  refine ⟨Nat.le_refl _, h.len, fun i hi => ?_, fun i h1 h2 => ?_⟩
  · rcases h.own.2 with ⟨e, e2⟩ | ⟨g, cap, cur, e, hb, hgg, _⟩
    · omega
    · have hp : p = some ⟨g, 0, none⟩ := by cases e; rfl
      subst hp
      have hc := h.own.cells (g := g) rfl i vs[i] (List.getElem?_eq_getElem hi)
      have hadd : (⟨g, 0, none⟩ : Addr).add i = ⟨g, i, none⟩ := by unfold Addr.add; split <;> simp_all
      rw [hadd] at hc
      exact ⟨g, 0, rfl, ⟨hb, (Array.getElem?_eq_some_iff.1 hgg).1⟩, by rw [Nat.zero_add]; exact hc⟩
  · obtain ⟨lo, hi, hlo, hd, _⟩ := h.dsp i h1 h2
    exact hd.more hlo hd.1 (Nat.le_refl _)
theorem PrX.grown {s : ByteArray} {g i : Nat} {D P : Value} {B : Nat} {W w U : World} {row : Option Nat} (h : PrX s g i D P B W w) (hg : w.grownBy U row) (hrow : ∀ b, row = some b → B ≤ b) (hgB : g < B) : PrX s g i D P B W U :=
  ⟨(hg.block g (Array.getElem?_eq_some_iff.1 h.blk).1 (fun q => by have := hrow g q.symm; omega)).trans h.blk, hg.os.trans h.os, hg.tape.trans h.tape, hg.output.trans h.output, Nat.le_trans h.size hg.size,
    fun b h1 h2 => (hg.block b (Nat.lt_of_lt_of_le h1 h.base) (fun q => by have := hrow b q.symm; omega)).trans (h.oth b h1 h2), Nat.le_trans h.base hg.size⟩
theorem Tryz.infoSel : (Tryz.prog.info? 36).map (fun i => (i.zero, i.size, i.bytes)) = some (some .nilIface, 1, 16) := by kernel_rfl
end Go.Proofs.YtnibpdmbccfgoaaGreatDoor
