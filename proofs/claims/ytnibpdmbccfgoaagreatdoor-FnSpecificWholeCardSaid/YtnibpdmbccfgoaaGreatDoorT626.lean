/- parseSimpleSelectorSequence where it is known what stands there. -/
import Derived.Test.YtnibpdmbccfgoaaGreatDoorJ8
import Derived.Test.YtnibpdmbccfgoaaGreatDoorT609
namespace Go.Proofs.YtnibpdmbccfgoaaGreatDoor
open Go.RowKit
set_option linter.unusedVariables false

/-- A simple selector with its mark ahead, from i up to m. -/
inductive Sim1 (s : ByteArray) (g : Nat) (D P : Value) (i m : Nat) (x : S3) : Prop
  | id (h : bAt s i = 35) (O : ByteArray) (hn : NameTo s (i + 1) O m) (hx : x = (1, 0, 0))
  | cls (h : bAt s i = 46) (O : ByteArray) (hn : IdYes s (i + 1) O m) (hx : x = (0, 1, 0))
  | att (h : bAt s i = 91) (hc : ∀ N V U, PrX s g i D P N V U → Calls Tryz.prog 43 #[.pointer (some ⟨g, 0, none⟩)] U (AtHas m s g D P N V)) (hx : x = (0, 1, 0))
  | psu (h : bAt s i = 58) (hc : ∀ N V U, g < N → PrX s g i D P N V U → Calls Tryz.prog 44 #[.pointer (some ⟨g, 0, none⟩)] U (PsY x s m g D P N V))
def isMk (c : Nat) : Prop := c = 35 ∨ c = 46 ∨ c = 91 ∨ c = 58
/-- Several, up to what is none. -/
inductive Sims (s : ByteArray) (g : Nat) (D P : Value) (e : Nat) : Nat → List S3 → Prop
  | nil : e ≤ s.size → (e < s.size → ¬ isMk (bAt s e)) → Sims s g D P e e []
  | cons {i m : Nat} {x : S3} {l : List S3} : i < s.size → i < m → m ≤ s.size → Sim1 s g D P i m x → Sims s g D P e m l → Sims s g D P e i (x :: l)
/-- A compound from k up to e. -/
inductive SeqTo (s : ByteArray) (g : Nat) (D P : Value) (k e : Nat) (ds : List S3) : Prop
  | any (h : bAt s k = 42) (h2 : bAt s (k + 1) ≠ 124) (hr : Sims s g D P e (k + 1) ds)
  | mark (h : isMk (bAt s k)) (hr : Sims s g D P e k ds)
  | tag (h : bAt s k ≠ 42) (h2 : ¬ isMk (bAt s k)) (O : ByteArray) (m : Nat) (hm : k < m) (hn : IdYes s k O m) (l : List S3) (hr : Sims s g D P e m l) (hd : ds = (0, 0, 1) :: l)
theorem Sims.le {s : ByteArray} {g : Nat} {D P : Value} {e i : Nat} {l : List S3} (h : Sims s g D P e i l) : i ≤ s.size ∧ e ≤ s.size := by
  induction h with
  | nil h _ => exact ⟨h, h⟩
  | cons h _ _ _ _ ih => exact ⟨Nat.le_of_lt h, ih.2⟩

theorem calls_gen {P : Program} {f : FuncId} {xs : Array Value} {K : Ending → World → Prop} {w : World} {R : World → Prop} (hw : R w) (H : ∀ U, R U → Calls P f xs U K) : Calls P f xs w K := H w hw
/-- What the parser answers with a selector. -/
def SqY (x : S3) (s : ByteArray) (e' g : Nat) (D P : Value) (B : Nat) (W : World) (e : Ending) (w' : World) : Prop :=
  ∃ v, e = .returned (.tuple #[v, .nilIface]) ∧ PrX s g e' D P B W w' ∧ Disp B w'.heap.size v x w'
/-- The selectors so far, and what is still to be read. -/
def SqL (s : ByteArray) (g e : Nat) (ds : List S3) (D P : Value) (B : Nat) (W : World) (v4 : Value) (wx : World) : Prop :=
  ∃ (vs : List Value) (d l : List S3) (i : Nat), Grow B v4 vs d wx ∧ PrX s g i D P B W wx ∧ Sims s g D P e i l ∧ ds = d ++ l ∧ vs.length ≤ i

set_option maxRecDepth 100000 in
set_option maxHeartbeats 8000000 in
theorem pSeq_to (s : ByteArray) (g k e : Nat) (ds : List S3) (D P : Value) (B : Nat) (W w : World) (hs : s.size ≤ 100000) (hlt : k < s.size) (hq : SeqTo s g D P k e ds) (hlm : (sumS ds ds.length).lim) (hgB : g < B) (h : PrX s g k D P B W w) :
    Calls Tryz.prog 32 #[.pointer (some ⟨g, 0, none⟩)] w (SqY (sumS ds ds.length) s e g D P B W) := by
  have HR := Lib.hid h
  have HQ := Lib.hid hq
  have HLm := Lib.hid hlm
  have c0 := h.c0
  have c1 := h.c1
  have f1 := h.fz 1
  have hb := bAt_in hlt
  clear h hq hlm
  go_enter Tryz.func32, Tryz.ntmps32
  go_wp2_with fail
  go_step3
  go_wp2_with fail
  go_quiet (fail)
  go_wp2_with fail
  go_quiet (fail)
  go_upto_block 0 with fail
  go_cut [4] (fun v4 wx => SqL s g e ds D P B W v4 wx)
  case first =>
    rcases HQ.out with ⟨h42, h124, hr⟩ | ⟨hmk, hr⟩ | ⟨h42, hmk, O, m, hm, hn, l, hr, hd⟩
    · rw [hb] at h42
      have m0 : ((s[k].toNat : Int) == 42) = true := beq_iff_eq.2 (by omega)
      clear hb h42
      go_wp2_with fail
      obtain ⟨j, hj⟩ : ∃ j, j = k + 1 := ⟨_, rfl⟩
      rw [← hj] at h124 hr
      have hjs := hr.le.1
      have HRs := Lib.hid hr
      refine wp_gen (R := fun U => PrX s g j D P B W U) ((show PrX s g k D P B W _ by repeat (first | exact HR.out | refine PrX.drew ?_ _)).setI j _ (by omega)) ?_
      intro U hU
      have HU := Lib.hid hU
      clear c0 c1 f1 m0 hr hj
      have c0 := hU.c0
      have c1 := hU.c1
      clear hU
      by_cases hj2 : j + 2 < s.size
      · have g1 : decide ((j : Int) + 2 < (s.size : Int)) = true := decide_eq_true (by omega)
        have hX : ((s.extract j (j + 2)).toList == [124, 42]) = false := by
          refine beq_eq_false_iff_ne.2 (fun q => h124 ?_)
          have : s.extract j (j + 2) = ⟨#[124, 42]⟩ := ByteArray.ext (Array.ext' (by rw [ByteArray.toList_eq] at q; exact q))
          rw [ext2 (by omega)] at this
          rw [bAt_in (by omega), this.1]; rfl
        clear h124
        go_quiet (fail)
        go_wp2_with fail
        go_meet
        exact ⟨[], [], ds, j, Grow.nil _ _, by repeat (first | exact HU.out | refine PrX.drew ?_ _), HRs.out, rfl, Nat.zero_le _⟩
      · have g1 : decide ((j : Int) + 2 < (s.size : Int)) = false := decide_eq_false (by omega)
        clear h124
        go_quiet (fail)
        go_wp2_with fail
        go_meet
        exact ⟨[], [], ds, j, Grow.nil _ _, by repeat (first | exact HU.out | refine PrX.drew ?_ _), HRs.out, rfl, Nat.zero_le _⟩
    · have hcs : s[k].toNat = 35 ∨ s[k].toNat = 46 ∨ s[k].toNat = 91 ∨ s[k].toNat = 58 := by rw [hb] at hmk; exact hmk
      have m42 : ((s[k].toNat : Int) == 42) = false := beq_eq_false_iff_ne.2 (by omega)
      have HRs := Lib.hid hr
      have HW1 : Hid (∀ q, PrX s g k D P B W (w.drewN q)) := fun q => HR.out.drew q
      clear hb hmk hr
      rcases hcs with q | q | q | q
      · have m35 : ((s[k].toNat : Int) == 35) = true := beq_iff_eq.2 (by omega)
        clear q
        go_wp2_with fail
        go_meet
        exact ⟨[], [], ds, k, Grow.nil _ _, by repeat (first | exact HR.out | refine PrX.drew ?_ _), HRs.out, rfl, Nat.zero_le _⟩
      · have m35 : ((s[k].toNat : Int) == 35) = false := beq_eq_false_iff_ne.2 (by omega)
        have m46 : ((s[k].toNat : Int) == 46) = true := beq_iff_eq.2 (by omega)
        clear q
        go_wp2_with fail
        go_meet
        exact ⟨[], [], ds, k, Grow.nil _ _, by repeat (first | exact HR.out | refine PrX.drew ?_ _), HRs.out, rfl, Nat.zero_le _⟩
      · have m35 : ((s[k].toNat : Int) == 35) = false := beq_eq_false_iff_ne.2 (by omega)
        have m46 : ((s[k].toNat : Int) == 46) = false := beq_eq_false_iff_ne.2 (by omega)
        have m91 : ((s[k].toNat : Int) == 91) = true := beq_iff_eq.2 (by omega)
        clear q
        go_wp2_with fail
        go_meet
        exact ⟨[], [], ds, k, Grow.nil _ _, by repeat (first | exact HR.out | refine PrX.drew ?_ _), HRs.out, rfl, Nat.zero_le _⟩
      · have m35 : ((s[k].toNat : Int) == 35) = false := beq_eq_false_iff_ne.2 (by omega)
        have m46 : ((s[k].toNat : Int) == 46) = false := beq_eq_false_iff_ne.2 (by omega)
        have m91 : ((s[k].toNat : Int) == 91) = false := beq_eq_false_iff_ne.2 (by omega)
        have m58 : ((s[k].toNat : Int) == 58) = true := beq_iff_eq.2 (by omega)
        clear q
        go_wp2_with fail
        go_meet
        exact ⟨[], [], ds, k, Grow.nil _ _, by repeat (first | exact HR.out | refine PrX.drew ?_ _), HRs.out, rfl, Nat.zero_le _⟩
    · have hcs : s[k].toNat ≠ 35 ∧ s[k].toNat ≠ 46 ∧ s[k].toNat ≠ 91 ∧ s[k].toNat ≠ 58 := by rw [hb] at hmk; exact ⟨fun q => hmk (.inl q), fun q => hmk (.inr (.inl q)), fun q => hmk (.inr (.inr (.inl q))), fun q => hmk (.inr (.inr (.inr q)))⟩
      rw [hb] at h42
      obtain ⟨q1, q2, q3, q4⟩ := hcs
      have m42 : ((s[k].toNat : Int) == 42) = false := beq_eq_false_iff_ne.2 (by omega)
      have m35 : ((s[k].toNat : Int) == 35) = false := beq_eq_false_iff_ne.2 (by omega)
      have m46 : ((s[k].toNat : Int) == 46) = false := beq_eq_false_iff_ne.2 (by omega)
      have m91 : ((s[k].toNat : Int) == 91) = false := beq_eq_false_iff_ne.2 (by omega)
      have m58 : ((s[k].toNat : Int) == 58) = false := beq_eq_false_iff_ne.2 (by omega)
      have HTy : Hid (∀ U, PrX s g k D P B W U → Calls Tryz.prog 40 #[.pointer (some ⟨g, 0, none⟩)] U (StY s m g D P B W)) := fun U hU => pType_to s g k O m D P B W U hs hlt hn hU
      have HRs := Lib.hid hr
      have HD := Lib.hid hd
      clear hb hmk q1 q2 q3 q4 h42 hn hr hd
      go_wp2_with fail
      refine (HTy.out _ (by repeat (first | exact HR.out | refine PrX.drew ?_ _))).mono ?_
      rintro e1 w1 ⟨O1, rfl, hr1⟩
      have HR1 := Lib.hid hr1
      clear hr1
      obtain ⟨i0, hinf, hz0, hz1, hz2⟩ := info_parts Tryz.infoSel
      have hbs := HR1.out.base
      go_wp2_with (at_builtin; refine wpList_append_own_at _ rfl _ _ 73 rfl B 36 i0 .nilIface 1 16 Tryz.underlying73 hinf hz0 hz1 hz2 rfl (by decide) _ _ _ rfl (World.ownsRow_nil _ _ _ _) ⟨w1.heap.size + 1, 0, none⟩ 1 1 [.iface 75 (.agg #[.string O1])] rfl rfl (by rw [show w1.heap.size + 1 = (w1.alloc (.cells #[.string O1] 75)).heap.size by simp]; exact cell_one_new _ _ _) (by intro u hu; simp at hu; subst hu; rfl) (by unfold maxLen; omega) (by omega) (by simp; omega) ?_)
      intro v' w4 hown' hgrow _ hat
      have HG : Hid (Grow B v' [.iface 75 (.agg #[.string O1])] [(0, 0, 1)] w4) := Grow.push (Grow.nil B _) (Nat.le_refl B) (dispTag O1 B B _ (by simp; omega)) (fun b hb => by cases hb) hown' hgrow (by simpa using hat)
      have HP4 : Hid (PrX s g m D P B W w4) := ((HR1.out.next ((Below.refl _ _).alloc (Nat.le_refl _) _)).next ((Below.refl _ _).alloc (Nat.le_refl _) _)).grown hgrow (fun b hb => by cases hb) hgB
      clear hown' hgrow hat
      go_wp2_with fail
      go_meet
      exact ⟨_, _, l, m, HG.out, HP4.out, HRs.out, HD.out, by show 1 ≤ m; omega⟩
  case rest =>
    obtain ⟨vs, d, l, i, hG, hP, hS, hds, hvl⟩ := hcut
    have HG := Lib.hid hG
    have HP := Lib.hid hP
    have HS := Lib.hid hS
    have HD := Lib.hid hds
    have HVl := Lib.hid hvl
    clear hG hP hS hds hvl c0 c1 f1 HR HQ hb
    go_wp2_with fail
    go_step3
    go_upto_block 1 with fail
    go_cut [4, 7] (fun v4 v7 wx => v7 = .string ⟨#[]⟩ ∧ ∃ (sv : Value) (vs : List Value), sv = v4 ∧ Grow B v4 vs ds wx ∧ PrX s g e D P B W wx ∧ vs.length ≤ 100000)
    case first =>
      go_wp2_with fail
      go_loopg [4, 7] (s.size - i) (fun gk v4 v7 wr => v7 = .string ⟨#[]⟩ ∧ ∃ (sv : Value) (vs : List Value) (d l : List S3) (i : Nat), sv = v4 ∧ gk = s.size - i ∧ Hid (Grow B v4 vs d wr) ∧ Hid (PrX s g i D P B W wr) ∧ Hid (Sims s g D P e i l) ∧ Hid (ds = d ++ l) ∧ Hid (vs.length ≤ i))
      case atStart => exact ⟨rfl, _, vs, d, l, i, rfl, rfl, HG.out, HP.out, HS.out, HD.out, HVl.out⟩
      case round =>
        obtain ⟨rfl, sv, vs, d, l, i, rfl, rfl, HG, HP, HS, HD, HVl⟩ := hrel
        have c0 := HP.out.c0
        have c1 := HP.out.c1
        have hS := HS.out
        rcases hS with ⟨hnil, hstop⟩ | @⟨_, m, x, l, hlt, him, hms, hsim, hrest⟩
        · have hle := hnil
          by_cases hlt : e < s.size
          · have hb := bAt_in hlt
            have hno := hstop hlt
            rw [hb] at hno
            have hcs : s[e].toNat ≠ 35 ∧ s[e].toNat ≠ 46 ∧ s[e].toNat ≠ 91 ∧ s[e].toNat ≠ 58 := ⟨fun q => hno (.inl q), fun q => hno (.inr (.inl q)), fun q => hno (.inr (.inr (.inl q))), fun q => hno (.inr (.inr (.inr q)))⟩
            obtain ⟨q1, q2, q3, q4⟩ := hcs
            have m35 : ((s[e].toNat : Int) == 35) = false := beq_eq_false_iff_ne.2 (by omega)
            have m46 : ((s[e].toNat : Int) == 46) = false := beq_eq_false_iff_ne.2 (by omega)
            have m91 : ((s[e].toNat : Int) == 91) = false := beq_eq_false_iff_ne.2 (by omega)
            have m58 : ((s[e].toNat : Int) == 58) = false := beq_eq_false_iff_ne.2 (by omega)
            clear hb hno hstop q1 q2 q3 q4
            go_wp2_with fail
            go_quiet (fail)
            go_wp2_with fail
            go_quiet (fail)
            go_wp2_with fail
            go_meet
            exact ⟨rfl, _, vs, rfl, by rw [HD.out, List.append_nil]; exact HG.out.below (by repeat (first | exact Below.refl _ _ | refine below_drewN ?_ _)), by repeat (first | exact HP.out | refine PrX.drew ?_ _), by have := HVl.out; have := hnil; omega⟩
          · clear hstop
            go_wp2_with fail
            go_quiet (fail)
            go_wp2_with fail
            go_meet
            exact ⟨rfl, _, vs, rfl, by rw [HD.out, List.append_nil]; exact HG.out.below (by repeat (first | exact Below.refl _ _ | refine below_drewN ?_ _)), by repeat (first | exact HP.out | refine PrX.drew ?_ _), by have := HVl.out; have := hnil; omega⟩
        · have hb := bAt_in hlt
          have HRest := Lib.hid hrest
          have hvl := HVl.out
          have hm1 := (hrest.le).1
          clear hrest HS
          obtain ⟨i0, hinf, hz0, hz1, hz2⟩ := info_parts Tryz.infoSel
          rcases hsim with ⟨h35, O, hn, rfl⟩ | ⟨h35, O, hn, rfl⟩ | ⟨h35, hc, rfl⟩ | ⟨h35, hc⟩
          · have h35' := h35
            rw [hb] at h35
            have m35 : ((s[i].toNat : Int) == 35) = true := beq_iff_eq.2 (by omega)
            clear hb h35
            go_wp2_with fail
            go_quiet (fail)
            go_wp2_with fail
            go_quiet (fail)
            go_wp2_with fail
            refine calls_gen (R := fun U => PrX s g i D P B W U ∧ Grow B sv vs d U) ⟨by repeat (first | exact HP.out | refine PrX.drew ?_ _), HG.out.below (by repeat (first | exact Below.refl _ _ | refine below_drewN ?_ _))⟩ ?_
            rintro U ⟨hU, hGU⟩
            refine (pId_to s g i O m D P U.heap.size U U hs hlt h35' hn (PrX.of hU.blk)).mono ?_
            rintro e1 w2 ⟨O1, rfl, hr2⟩
            have HG2 := Lib.hid (hGU.move hr2 hgB)
            have HP2 := Lib.hid (hr2.comp hU hU.base)
            have hb2 := HP2.out.base

            clear hr2 c0 c1
            go_wp2_with (at_builtin; refine wpList_append_own_at _ rfl _ _ 73 rfl B 36 i0 .nilIface 1 16 Tryz.underlying73 hinf hz0 hz1 hz2 rfl (by decide) _ _ _ rfl (HG2.out.own.alloc _) ⟨w2.heap.size, 0, none⟩ 1 1 [.iface 79 (.agg #[.string O1])] rfl rfl (cell_one_new _ _ _) (by intro u hu; simp at hu; subst hu; rfl) (by unfold maxLen; omega) (by omega) (by simp; omega) ?_)
            intro v' w4 hown' hgrow _ hat
            have HG4 : Hid (Grow B v' (vs ++ [.iface 79 (.agg #[.string O1])]) (d ++ [(1, 0, 0)]) w4) := Grow.push (HG2.out.below ((Below.refl _ _).alloc (Nat.le_refl _) _)) (Nat.le_refl B) (dispId O1 B B _ (by simp; omega)) (fun b hb => by omega) hown' hgrow (by simpa using hat)
            have HP4 : Hid (PrX s g m D P B W w4) := (HP2.out.next ((Below.refl _ _).alloc (Nat.le_refl _) _)).grown hgrow (fun b hb => (HG2.out.own.lt b hb).1) hgB
            clear hown' hgrow hat
            go_wp2_with fail
            go_roundg (s.size - m)
            case measure => omega
            case rel => exact ⟨rfl, _, _, _, _, m, rfl, rfl, HG4.out, HP4.out, HRest.out, by rw [Hid, HD.out, List.append_assoc]; rfl, by rw [Hid, List.length_append]; simp; omega⟩
          · have h35' := h35
            rw [hb] at h35
            have m35 : ((s[i].toNat : Int) == 35) = false := beq_eq_false_iff_ne.2 (by omega)
            have m46 : ((s[i].toNat : Int) == 46) = true := beq_iff_eq.2 (by omega)
            clear hb h35
            go_wp2_with fail
            go_quiet (fail)
            go_wp2_with fail
            go_quiet (fail)
            go_wp2_with fail
            refine calls_gen (R := fun U => PrX s g i D P B W U ∧ Grow B sv vs d U) ⟨by repeat (first | exact HP.out | refine PrX.drew ?_ _), HG.out.below (by repeat (first | exact Below.refl _ _ | refine below_drewN ?_ _))⟩ ?_
            rintro U ⟨hU, hGU⟩
            refine (pClass_to s g i O m D P U.heap.size U U hs hlt h35' hn (PrX.of hU.blk)).mono ?_
            rintro e1 w2 ⟨O1, rfl, hr2⟩
            have HG2 := Lib.hid (hGU.move hr2 hgB)
            have HP2 := Lib.hid (hr2.comp hU hU.base)
            have hb2 := HP2.out.base

            clear hr2 c0 c1
            go_wp2_with (at_builtin; refine wpList_append_own_at _ rfl _ _ 73 rfl B 36 i0 .nilIface 1 16 Tryz.underlying73 hinf hz0 hz1 hz2 rfl (by decide) _ _ _ rfl (HG2.out.own.alloc _) ⟨w2.heap.size, 0, none⟩ 1 1 [.iface 83 (.agg #[.string O1])] rfl rfl (cell_one_new _ _ _) (by intro u hu; simp at hu; subst hu; rfl) (by unfold maxLen; omega) (by omega) (by simp; omega) ?_)
            intro v' w4 hown' hgrow _ hat
            have HG4 : Hid (Grow B v' (vs ++ [.iface 83 (.agg #[.string O1])]) (d ++ [(0, 1, 0)]) w4) := Grow.push (HG2.out.below ((Below.refl _ _).alloc (Nat.le_refl _) _)) (Nat.le_refl B) (dispCls O1 B B _ (by simp; omega)) (fun b hb => by omega) hown' hgrow (by simpa using hat)
            have HP4 : Hid (PrX s g m D P B W w4) := (HP2.out.next ((Below.refl _ _).alloc (Nat.le_refl _) _)).grown hgrow (fun b hb => (HG2.out.own.lt b hb).1) hgB
            clear hown' hgrow hat
            go_wp2_with fail
            go_roundg (s.size - m)
            case measure => omega
            case rel => exact ⟨rfl, _, _, _, _, m, rfl, rfl, HG4.out, HP4.out, HRest.out, by rw [Hid, HD.out, List.append_assoc]; rfl, by rw [Hid, List.length_append]; simp; omega⟩
          · rw [hb] at h35
            have m35 : ((s[i].toNat : Int) == 35) = false := beq_eq_false_iff_ne.2 (by omega)
            have m46 : ((s[i].toNat : Int) == 46) = false := beq_eq_false_iff_ne.2 (by omega)
            have m91 : ((s[i].toNat : Int) == 91) = true := beq_iff_eq.2 (by omega)
            clear hb h35
            go_wp2_with fail
            go_quiet (fail)
            go_wp2_with fail
            go_quiet (fail)
            go_wp2_with fail
            refine calls_gen (R := fun U => PrX s g i D P B W U ∧ Grow B sv vs d U) ⟨by repeat (first | exact HP.out | refine PrX.drew ?_ _), HG.out.below (by repeat (first | exact Below.refl _ _ | refine below_drewN ?_ _))⟩ ?_
            rintro U ⟨hU, hGU⟩
            refine (hc U.heap.size U U (PrX.of hU.blk)).mono ?_
            rintro e1 w2 ⟨O1, V1, o1, b1, rfl, hr2⟩
            have HG2 := Lib.hid (hGU.move hr2 hgB)
            have HP2 := Lib.hid (hr2.comp hU hU.base)
            have hb2 := HP2.out.base

            clear hr2 c0 c1
            go_wp2_with (at_builtin; refine wpList_append_own_at _ rfl _ _ 73 rfl B 36 i0 .nilIface 1 16 Tryz.underlying73 hinf hz0 hz1 hz2 rfl (by decide) _ _ _ rfl (HG2.out.own.alloc _) ⟨w2.heap.size, 0, none⟩ 1 1 [.iface 87 (.agg #[.string O1, .string V1, .string o1, .bool b1])] rfl rfl (cell_one_new _ _ _) (by intro u hu; simp at hu; subst hu; rfl) (by unfold maxLen; omega) (by omega) (by simp; omega) ?_)
            intro v' w4 hown' hgrow _ hat
            have HG4 : Hid (Grow B v' (vs ++ [.iface 87 (.agg #[.string O1, .string V1, .string o1, .bool b1])]) (d ++ [(0, 1, 0)]) w4) := Grow.push (HG2.out.below ((Below.refl _ _).alloc (Nat.le_refl _) _)) (Nat.le_refl B) (dispAtt O1 V1 o1 b1 B B _ (by simp; omega)) (fun b hb => by omega) hown' hgrow (by simpa using hat)
            have HP4 : Hid (PrX s g m D P B W w4) := (HP2.out.next ((Below.refl _ _).alloc (Nat.le_refl _) _)).grown hgrow (fun b hb => (HG2.out.own.lt b hb).1) hgB
            clear hown' hgrow hat
            go_wp2_with fail
            go_roundg (s.size - m)
            case measure => omega
            case rel => exact ⟨rfl, _, _, _, _, m, rfl, rfl, HG4.out, HP4.out, HRest.out, by rw [Hid, HD.out, List.append_assoc]; rfl, by rw [Hid, List.length_append]; simp; omega⟩
          · rw [hb] at h35
            have m35 : ((s[i].toNat : Int) == 35) = false := beq_eq_false_iff_ne.2 (by omega)
            have m46 : ((s[i].toNat : Int) == 46) = false := beq_eq_false_iff_ne.2 (by omega)
            have m91 : ((s[i].toNat : Int) == 91) = false := beq_eq_false_iff_ne.2 (by omega)
            have m58 : ((s[i].toNat : Int) == 58) = true := beq_iff_eq.2 (by omega)
            clear hb h35
            go_wp2_with fail
            go_quiet (fail)
            go_wp2_with fail
            go_quiet (fail)
            go_wp2_with fail
            refine calls_gen (R := fun U => PrX s g i D P B W U ∧ Grow B sv vs d U) ⟨by repeat (first | exact HP.out | refine PrX.drew ?_ _), HG.out.below (by repeat (first | exact Below.refl _ _ | refine below_drewN ?_ _))⟩ ?_
            rintro U ⟨hU, hGU⟩
            refine (hc U.heap.size U U (Nat.lt_of_lt_of_le hgB hU.base) (PrX.of hU.blk)).mono ?_
            rintro e1 w2 ⟨_, rfl, hr2, htv, T, f, K, r, rfl, hm', hc', hh'⟩
            have HG2 := Lib.hid (hGU.move hr2 hgB)
            have HP2 := Lib.hid (hr2.comp hU hU.base)
            have hb2 := HP2.out.base
            have HDv : Hid (Disp U.heap.size w2.heap.size (.iface T f) x w2) := ⟨htv, T, f, K, r, rfl, hm', hc', hh'⟩
            have HUo : Hid (∀ b, sv.ownBlock = some b → b < U.heap.size) := fun b hb => (hGU.own.lt b hb).2
            clear hm' hc' hh' hGU
            clear hr2 c0 c1
            go_wp2_with (at_builtin; refine wpList_append_own_at _ rfl _ _ 73 rfl B 36 i0 .nilIface 1 16 Tryz.underlying73 hinf hz0 hz1 hz2 rfl (by decide) _ _ _ rfl (HG2.out.own.alloc _) ⟨w2.heap.size, 0, none⟩ 1 1 [.iface T f] rfl rfl (cell_one_new _ _ _) (by intro u hu; simp at hu; subst hu; rfl) (by unfold maxLen; omega) (by omega) (by simp; omega) ?_)
            intro v' w4 hown' hgrow _ hat
            have HG4 : Hid (Grow B v' (vs ++ [.iface T f]) (d ++ [x]) w4) := Grow.push (HG2.out.below ((Below.refl _ _).alloc (Nat.le_refl _) _)) hU.base (HDv.out.next (Kp.of ((Below.refl _ _).alloc (Nat.le_refl _) _) (Nat.le_refl _))) (fun b hb => .inl (HUo.out b hb)) hown' hgrow (by simpa using hat)
            have HP4 : Hid (PrX s g m D P B W w4) := (HP2.out.next ((Below.refl _ _).alloc (Nat.le_refl _) _)).grown hgrow (fun b hb => (HG2.out.own.lt b hb).1) hgB
            clear hown' hgrow hat
            go_wp2_with fail
            go_roundg (s.size - m)
            case measure => omega
            case rel => exact ⟨rfl, _, _, _, _, m, rfl, rfl, HG4.out, HP4.out, HRest.out, by rw [Hid, HD.out, List.append_assoc]; rfl, by rw [Hid, List.length_append]; simp; omega⟩
    case rest =>
      obtain ⟨rfl, sv9, vs, rfl, hG, hP, hvl⟩ := hcut
      obtain ⟨A, cp, hsv⟩ : ∃ A cp, sv9 = .slice A vs.length cp := by
        rcases hG.own.2 with ⟨e1, e2⟩ | ⟨g1, cap, cur, e1, _⟩
        · exact ⟨none, 0, by rw [e1, e2]⟩
        · exact ⟨_, _, e1⟩
      subst hsv
      have hlen := hG.len
      have HP5 := Lib.hid hP
      have HRow := Lib.hid hG.row
      have hrow := hG.row
      clear hG hP HG HP HS HD HVl
      by_cases h1 : vs.length = 1
      · have m0 : ((vs.length : Int) == 1) = true := beq_iff_eq.2 (by omega)
        obtain ⟨b, o, rfl, _, hc⟩ := hrow.row 0 (by omega)
        have hd := HRow.out.disp 0 (by omega) (by omega)
        obtain ⟨htv, T, f, K, r, hv, hm', hc', hh'⟩ := hd
        rw [hv] at hc
        rw [Nat.add_zero] at hc
        have hsum : sumS ds ds.length = ds[0] := by
          have e : sumS ds ds.length = sumS ds (0 + 1) := congrArg (sumS ds) (by omega)
          have e2 := sumS_succ (l := ds) (k := 0) (by omega)
          rw [e, e2]
          show S3.add (0, 0, 0) ds[0] = ds[0]
          unfold S3.add; simp
        have HDv : Hid (Disp B wc.heap.size (.iface T f) (sumS ds ds.length) wc) := by rw [Hid, hsum]; exact ⟨htv, T, f, K, r, rfl, hm', hc', hh'⟩
        clear hrow hm' hc' hh' hv hsum
        go_wp2_with fail
        go_ret2
        exact ⟨_, rfl, HP5.out, HDv.out⟩
      · have m0 : ((vs.length : Int) == 1) = false := beq_eq_false_iff_ne.2 (by omega)
        clear hrow
        go_wp2_with fail
        go_ret2
        exact ⟨_, rfl, HP5.out, dispComp B _ vs ds A cp (by omega) _ HRow.out HLm.out⟩
end Go.Proofs.YtnibpdmbccfgoaaGreatDoor
