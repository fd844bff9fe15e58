/- parseAttributeSelector where it is known what stands there. -/
import Derived.Test.YtnibpdmbccfgoaaGreatDoorT608
namespace Go.Proofs.YtnibpdmbccfgoaaGreatDoor
open Go.RowKit
set_option linter.unusedVariables false

set_option maxRecDepth 100000 in
set_option maxHeartbeats 8000000 in
theorem pAttrOp_to (s : ByteArray) (g k k1 : Nat) (O : ByteArray) (o : ByteArray) (k2 e0 f f2 : Nat) (bi : Bool) (D P : Value) (B : Nat) (W w : World) (hs : s.size ≤ 100000) (h91 : bAt s k = 91) (hlt : k < s.size) (hsk : Sk s (k + 1) (k + 1)) (hid : IdYes s (k + 1) O k1) (hsk1 : Sk s k1 k1) (hlt1 : k1 < s.size) (h93 : bAt s k1 ≠ 93) (hlt2 : k1 + 2 < s.size) (hop : (bAt s k1 = 61 ∧ k2 = k1 + 1 ∧ o = ⟨#[61]⟩) ∨ (bAt s k1 ≠ 61 ∧ bAt s (k1 + 1) = 61 ∧ k2 = k1 + 2 ∧ o = s.extract k1 (k1 + 2)))
    (ho7 : o = ⟨#[61]⟩ ∨ o = ⟨#[33, 61]⟩ ∨ o = ⟨#[126, 61]⟩ ∨ o = ⟨#[124, 61]⟩ ∨ o = ⟨#[94, 61]⟩ ∨ o = ⟨#[36, 61]⟩ ∨ o = ⟨#[42, 61]⟩) (hsk2 : Sk s k2 k2) (h34 : bAt s k2 = 34) (hq : QtR s e0 (k2 + 1)) (hsk3 : Sk s (e0 + 1) f) (hf : f < s.size)
    (hbi : (bi = true ∧ bAt s f = 105 ∧ f2 = f + 1) ∨ (bi = false ∧ bAt s f ≠ 105 ∧ bAt s f ≠ 73 ∧ f2 = f)) (hsk4 : Sk s f2 f2) (hf2 : f2 < s.size) (h93b : bAt s f2 = 93) (h : PrX s g k D P B W w) :
    Calls Tryz.prog 43 #[.pointer (some ⟨g, 0, none⟩)] w (AtHas (f2 + 1) s g D P B W) := by
  have hBH := h.base
  have hsz : g < w.heap.size := (Array.getElem?_eq_some_iff.1 h.blk).1
  have hst : BlkB w.heap.size #[.string ⟨#[]⟩, .string ⟨#[]⟩, .string ⟨#[]⟩, .bool false] 87 0 (w.alloc (.cells #[.string ⟨#[]⟩, .string ⟨#[]⟩, .string ⟨#[]⟩, .bool false] 87)) (w.alloc (.cells #[.string ⟨#[]⟩, .string ⟨#[]⟩, .string ⟨#[]⟩, .bool false] 87)) := ⟨heap_alloc_new w _, Below.refl _ _, Nat.zero_le _⟩
  have hr0 := h.next ((Below.refl w.heap.size w).alloc (Nat.le_refl _) (.cells #[.string ⟨#[]⟩, .string ⟨#[]⟩, .string ⟨#[]⟩, .bool false] 87))
  have hhs : (w.alloc (.cells #[.string ⟨#[]⟩, .string ⟨#[]⟩, .string ⟨#[]⟩, .bool false] 87)).heap.size = w.heap.size + 1 := by simp
  clear h
  go_enter Tryz.func43, Tryz.ntmps43
  go_wp2_with fail
  obtain ⟨H, hH⟩ : ∃ H, H = w.heap.size := ⟨_, rfl⟩
  obtain ⟨W0, hW0⟩ : ∃ W0 : World, W0 = (w.alloc (.cells #[.string ⟨#[]⟩, .string ⟨#[]⟩, .string ⟨#[]⟩, .bool false] 87)) := ⟨_, rfl⟩
  rw [← hW0, ← hH] at hst ⊢
  rw [← hW0] at hr0 hhs
  rw [← hH] at hhs hsz hBH
  have HST := Lib.hid hst
  have HR := Lib.hid hr0
  have HHs := Lib.hid hhs
  have c0 := hr0.c0
  have c1 := hr0.c1
  have f1 := hr0.fz 1
  have hHg : H ≠ g := by omega
  clear hst hr0 hW0 hH hhs
  have HK : Hid (∀ w2 i, PrX s g i D P W0.heap.size W0 w2 → BlkB H #[.string ⟨#[]⟩, .string ⟨#[]⟩, .string ⟨#[]⟩, .bool false] 87 0 w2 w2) := fun w2 i h2 => HST.out.keep (h2.oth H (by have := HHs.out; omega) hHg)
  have HC : Hid (∀ w2 i, PrX s g i D P W0.heap.size W0 w2 → PrX s g i D P B W w2) := fun w2 i h2 => h2.comp HR.out (by have := HHs.out; omega)
  have HSkip : Hid (∀ i j U, Sk s i j → i ≤ s.size → PrX s g i D P W0.heap.size W0 U → Calls Tryz.prog 31 #[.pointer (some ⟨g, 0, none⟩)] U (SkY (decide (i < j)) s j g D P W0.heap.size W0)) := fun i j U hij hi hU => pSkip_to s g i j D P W0.heap.size W0 U hs hi hij hU
  have HId : Hid (∀ U, PrX s g (k + 1) D P W0.heap.size W0 U → Calls Tryz.prog 50 #[.pointer (some ⟨g, 0, none⟩)] U (NmY s O k1 g D P W0.heap.size W0)) := fun U hU => pIdent_to s g (k + 1) O k1 D P W0.heap.size W0 U hs hlt hid hU
  have hO : O.size ≤ 2147483647 := by have := id_size hid; omega
  have HLw : Hid (∀ U, Calls Tryz.prog 51 #[.string O] U fun e w' => e = .returned (.string (lowS O)) ∧ Below U.heap.size U w') := fun U => toLower_any O U hO
  have HSk := Lib.hid hsk
  have HSk1 := Lib.hid hsk1
  rw [bAt_in hlt] at h91
  have m0 : ((s[k].toNat : Int) != 91) = false := by simp; omega
  clear hsk hid hsk1 h91
  go_quiet (fail)
  go_wp2_with fail
  go_quiet (fail)
  have HS : Hid (∀ q x, x = ((k + 1 : Nat) : Int) → PrX s g (k + 1) D P W0.heap.size W0 ((W0.drewN q).setCell ⟨g, 1, none⟩ (.int .i64 x))) := fun q x hx => ((PrX.of HR.out.blk).drew q).setI _ _ hx
  go_wp2_with fail
  refine (HSkip.out (k + 1) (k + 1) _ HSk.out hlt (HS.out _ _ (by omega))).mono ?_
  rintro e1 w1 ⟨rfl, hr1⟩
  have HR1 := Lib.hid hr1
  clear hr1 c0 c1 f1 m0
  go_wp2_with fail
  refine (HId.out _ HR1.out).mono ?_
  rintro e2 w2 ⟨rfl, hr2⟩
  have HR2 := Lib.hid hr2
  clear hr2
  go_wp2_with fail
  refine (HLw.out _).mono ?_
  rintro e3 w3 ⟨rfl, hb3⟩
  have HR3 := Lib.hid (HR2.out.next hb3)
  clear hb3
  go_wp2_with fail
  refine (HSkip.out k1 k1 _ HSk1.out (by omega) HR3.out).mono ?_
  rintro e4 w4 ⟨rfl, hr4⟩
  have HR4 := Lib.hid hr4
  have c0 := hr4.c0
  have c1 := hr4.c1
  have f1 := hr4.fz 1
  have l0 : BlkB H #[.string ⟨#[]⟩, .string ⟨#[]⟩, .string ⟨#[]⟩, .bool false] 87 0 w4 w4 := HK.out _ _ hr4
  clear hr4
  rw [bAt_in hlt1] at h93
  have m0 : ((s[k1].toNat : Int) == 93) = false := beq_eq_false_iff_ne.2 (by omega)
  have g1 : decide ((s.size : Int) ≤ (k1 : Int) + 2) = false := decide_eq_false (by omega)
  have hql := hq.lt
  have hk2l : k2 < s.size := by omega
  have HSk2 := Lib.hid hsk2
  have HSk3 := Lib.hid hsk3
  have HSk4 := Lib.hid hsk4
  have h34' := h34
  rw [bAt_in hk2l] at h34
  have HSt : Hid (∀ U, PrX s g k2 D P W0.heap.size W0 U → Calls Tryz.prog 53 #[.pointer (some ⟨g, 0, none⟩)] U (StrP2 s e0 g D P W0.heap.size W0)) := fun U hU => pStrAt_any s g k2 e0 D P W0.heap.size W0 U hs h34' hq hU
  have hel := hq.elt.1
  have HO7 := Lib.hid ho7
  have HBi := Lib.hid hbi
  clear hsk2 hsk3 hsk4 hq h34' ho7 hbi h93 l0
  go_wp2_with fail
  go_quiet (fail)
  go_wp2_with fail
  go_quiet (fail)
  go_wp2_with fail
  go_quiet (fail)
  go_wp2_with fail
  go_quiet (fail)
  obtain ⟨X, hX⟩ : ∃ X, X = s.extract k1 (k1 + 2) := ⟨_, rfl⟩
  rw [← hX] at hop ⊢
  have hXs : X.size = 2 := by rw [hX, ByteArray.size_extract]; omega
  have hx0 : bAt X 0 = bAt s k1 := by rw [hX, bAt_extract (by omega) (by omega)]; rfl
  have hx1 : bAt X 1 = bAt s (k1 + 1) := by rw [hX, bAt_extract (by omega) (by omega)]
  rw [bAt_in (by omega)] at hx0 hx1
  clear hX m0 g1
  rcases hop with ⟨q1, hk2, rfl⟩ | ⟨q0, q1, hk2, rfl⟩
  · have m0 : ((X[0].toNat : Int) == 61) = true := beq_iff_eq.2 (by omega)
    have HK2 := Lib.hid hk2
    clear hx0 hx1 q1 HO7 hk2
    go_wp2_with fail
    refine (HSkip.out k2 k2 _ HSk2.out (by omega) ((show PrX s g k1 D P W0.heap.size W0 _ by repeat (first | exact HR4.out | refine PrX.drew ?_ _)).setI k2 _ (by have := HK2.out; omega))).mono ?_
    rintro e5 w5 ⟨rfl, hr5⟩
    have HR5 := Lib.hid hr5
    clear c0 c1 f1
    have c0 := hr5.c0
    have c1 := hr5.c1
    clear hr5
    have m2 : ((s[k2].toNat : Int) == 39) = false := beq_eq_false_iff_ne.2 (by omega)
    have m3 : ((s[k2].toNat : Int) == 34) = true := beq_iff_eq.2 (by omega)
    go_wp2_with fail
    go_quiet (fail)
    go_wp2_with fail
    go_quiet (fail)
    go_wp2_with fail
    refine (HSt.out _ (by repeat (first | exact HR5.out | refine PrX.drew ?_ _))).mono ?_
    rintro e6 w6 ⟨V, rfl, _, hr6⟩
    have HR6 := Lib.hid hr6
    clear c0 c1 hr6 m2 m3
    go_wp2_with fail
    refine (HSkip.out (e0 + 1) f _ HSk3.out (by omega) HR6.out).mono ?_
    rintro e7 w7 ⟨rfl, hr7⟩
    have HR7 := Lib.hid hr7
    have c0 := hr7.c0
    have c1 := hr7.c1
    clear hr7
    go_wp2_with fail
    go_quiet (fail)
    have f1 := HR7.out.fz 1
    rcases HBi.out with ⟨_, b1, b2⟩ | ⟨_, b1, b3, b2⟩
    · rw [bAt_in hf] at b1
      have m2 : ((s[f].toNat : Int) == 105) = true := beq_iff_eq.2 (by omega)
      have HF2 := Lib.hid b2
      clear b1 b2
      go_wp2_with fail
      go_quiet (fail)
      go_wp2_with fail
      refine (HSkip.out f2 f2 _ HSk4.out (by omega) ((show PrX s g f D P W0.heap.size W0 _ by repeat (first | exact HR7.out | refine PrX.drew ?_ _)).setI f2 _ (by have := HF2.out; omega))).mono ?_
      rintro e8 w8 ⟨rfl, hr8⟩
      have HR8 := Lib.hid hr8
      clear c0 c1 f1
      have c0 := hr8.c0
      have c1 := hr8.c1
      have f1 := hr8.fz 1
      have l0 := HK.out _ _ hr8
      have z0 := l0.cell 0
      have z1 := l0.cell 1
      have z2 := l0.cell 2
      have z3 := l0.cell 3
      have y0 := l0.fz 0
      have y1 := l0.fz 1
      have y2 := l0.fz 2
      have y3 := l0.fz 3
      have h93c := h93b
      rw [bAt_in hf2] at h93c
      have m4 : ((s[f2].toNat : Int) != 93) = false := by simp; omega
      clear hr8 l0 h93c
      go_wp2_with fail
      go_quiet (fail)
      go_wp2_with fail
      go_quiet (fail)
      have HS9 : Hid (∀ U x, x = ((f2 + 1 : Nat) : Int) → PrX s g f2 D P W0.heap.size W0 U → PrX s g (f2 + 1) D P W0.heap.size W0 (U.setCell ⟨g, 1, none⟩ (.int .i64 x))) := fun U x hx h => h.setI _ _ hx
      go_wp2_with fail
      refine bodyPost_ret (results_mix2 rfl _ _ H _ _ _ _ rfl (((((HK.out _ _ (HS9.out _ _ (by omega) (by repeat (first | exact HR8.out | refine PrX.drew ?_ _)))).set 0 _).set 1 _).set 2 _).set 3 _).blk Tryz.underlying87 rfl (by kernel_rfl)) rfl ?_
      exact ⟨_, _, _, _, rfl, ((((HC.out _ _ (HS9.out _ _ (by omega) (by repeat (first | exact HR8.out | refine PrX.drew ?_ _)))).off (p := ⟨H, 0, none⟩) (by simpa using hHg) (by simpa using hBH) _).off (p := ⟨H, 1, none⟩) (by simpa using hHg) (by simpa using hBH) _).off (p := ⟨H, 2, none⟩) (by simpa using hHg) (by simpa using hBH) _).off (p := ⟨H, 3, none⟩) (by simpa using hHg) (by simpa using hBH) _⟩
    · rw [bAt_in hf] at b1 b3
      have m2 : ((s[f].toNat : Int) == 105) = false := beq_eq_false_iff_ne.2 (by omega)
      have m3 : ((s[f].toNat : Int) == 73) = false := beq_eq_false_iff_ne.2 (by omega)
      subst b2
      clear b1 b3
      go_wp2_with fail
      go_quiet (fail)
      go_wp2_with fail
      refine (HSkip.out f2 f2 _ HSk4.out (by omega) (by repeat (first | exact HR7.out | refine PrX.drew ?_ _))).mono ?_
      rintro e8 w8 ⟨rfl, hr8⟩
      have HR8 := Lib.hid hr8
      clear c0 c1 f1
      have c0 := hr8.c0
      have c1 := hr8.c1
      have f1 := hr8.fz 1
      have l0 := HK.out _ _ hr8
      have z0 := l0.cell 0
      have z1 := l0.cell 1
      have z2 := l0.cell 2
      have z3 := l0.cell 3
      have y0 := l0.fz 0
      have y1 := l0.fz 1
      have y2 := l0.fz 2
      have y3 := l0.fz 3
      have h93c := h93b
      rw [bAt_in hf2] at h93c
      have m4 : ((s[f2].toNat : Int) != 93) = false := by simp; omega
      clear hr8 l0 h93c
      go_wp2_with fail
      go_quiet (fail)
      go_wp2_with fail
      go_quiet (fail)
      have HS9 : Hid (∀ U x, x = ((f2 + 1 : Nat) : Int) → PrX s g f2 D P W0.heap.size W0 U → PrX s g (f2 + 1) D P W0.heap.size W0 (U.setCell ⟨g, 1, none⟩ (.int .i64 x))) := fun U x hx h => h.setI _ _ hx
      go_wp2_with fail
      refine bodyPost_ret (results_mix2 rfl _ _ H _ _ _ _ rfl (((((HK.out _ _ (HS9.out _ _ (by omega) (by repeat (first | exact HR8.out | refine PrX.drew ?_ _)))).set 0 _).set 1 _).set 2 _).set 3 _).blk Tryz.underlying87 rfl (by kernel_rfl)) rfl ?_
      exact ⟨_, _, _, _, rfl, ((((HC.out _ _ (HS9.out _ _ (by omega) (by repeat (first | exact HR8.out | refine PrX.drew ?_ _)))).off (p := ⟨H, 0, none⟩) (by simpa using hHg) (by simpa using hBH) _).off (p := ⟨H, 1, none⟩) (by simpa using hHg) (by simpa using hBH) _).off (p := ⟨H, 2, none⟩) (by simpa using hHg) (by simpa using hBH) _).off (p := ⟨H, 3, none⟩) (by simpa using hHg) (by simpa using hBH) _⟩
  · have m0 : ((o[0].toNat : Int) == 61) = false := beq_eq_false_iff_ne.2 (by omega)
    have m1 : ((o[1].toNat : Int) != 61) = false := by simp; omega
    have HK2 := Lib.hid hk2
    clear hx0 hx1 q1 q0 hk2
    go_wp2_with fail
    refine (HSkip.out k2 k2 _ HSk2.out (by omega) ((show PrX s g k1 D P W0.heap.size W0 _ by repeat (first | exact HR4.out | refine PrX.drew ?_ _)).setI k2 _ (by have := HK2.out; omega))).mono ?_
    rintro e5 w5 ⟨rfl, hr5⟩
    have HR5 := Lib.hid hr5
    clear c0 c1 f1
    have c0 := hr5.c0
    have c1 := hr5.c1
    clear hr5
    have m2 : ((s[k2].toNat : Int) == 39) = false := beq_eq_false_iff_ne.2 (by omega)
    have m3 : ((s[k2].toNat : Int) == 34) = true := beq_iff_eq.2 (by omega)
    go_wp2_with fail
    go_quiet (fail)
    go_wp2_with fail
    go_quiet (fail)
    go_wp2_with fail
    refine (HSt.out _ (by repeat (first | exact HR5.out | refine PrX.drew ?_ _))).mono ?_
    rintro e6 w6 ⟨V, rfl, _, hr6⟩
    have HR6 := Lib.hid hr6
    clear c0 c1 hr6 m2 m3
    go_wp2_with fail
    refine (HSkip.out (e0 + 1) f _ HSk3.out (by omega) HR6.out).mono ?_
    rintro e7 w7 ⟨rfl, hr7⟩
    have HR7 := Lib.hid hr7
    have c0 := hr7.c0
    have c1 := hr7.c1
    clear hr7
    go_wp2_with fail
    go_quiet (fail)
    have f1 := HR7.out.fz 1
    rcases HBi.out with ⟨_, b1, b2⟩ | ⟨_, b1, b3, b2⟩
    · rw [bAt_in hf] at b1
      have m2 : ((s[f].toNat : Int) == 105) = true := beq_iff_eq.2 (by omega)
      have HF2 := Lib.hid b2
      clear b1 b2
      go_wp2_with fail
      go_quiet (fail)
      go_wp2_with fail
      refine (HSkip.out f2 f2 _ HSk4.out (by omega) ((show PrX s g f D P W0.heap.size W0 _ by repeat (first | exact HR7.out | refine PrX.drew ?_ _)).setI f2 _ (by have := HF2.out; omega))).mono ?_
      rintro e8 w8 ⟨rfl, hr8⟩
      have HR8 := Lib.hid hr8
      clear c0 c1 f1
      have c0 := hr8.c0
      have c1 := hr8.c1
      have f1 := hr8.fz 1
      have l0 := HK.out _ _ hr8
      have z0 := l0.cell 0
      have z1 := l0.cell 1
      have z2 := l0.cell 2
      have z3 := l0.cell 3
      have y0 := l0.fz 0
      have y1 := l0.fz 1
      have y2 := l0.fz 2
      have y3 := l0.fz 3
      have h93c := h93b
      rw [bAt_in hf2] at h93c
      have m4 : ((s[f2].toNat : Int) != 93) = false := by simp; omega
      clear hr8 l0 h93c
      go_wp2_with fail
      go_quiet (fail)
      go_wp2_with fail
      go_quiet (fail)
      have HS9 : Hid (∀ U x, x = ((f2 + 1 : Nat) : Int) → PrX s g f2 D P W0.heap.size W0 U → PrX s g (f2 + 1) D P W0.heap.size W0 (U.setCell ⟨g, 1, none⟩ (.int .i64 x))) := fun U x hx h => h.setI _ _ hx
      clear m0 m1
      rcases HO7.out with rfl | rfl | rfl | rfl | rfl | rfl | rfl
      all_goals
        go_wp2_with fail
        refine bodyPost_ret (results_mix2 rfl _ _ H _ _ _ _ rfl (((((HK.out _ _ (HS9.out _ _ (by omega) (by repeat (first | exact HR8.out | refine PrX.drew ?_ _)))).set 0 _).set 1 _).set 2 _).set 3 _).blk Tryz.underlying87 rfl (by kernel_rfl)) rfl ?_
        exact ⟨_, _, _, _, rfl, ((((HC.out _ _ (HS9.out _ _ (by omega) (by repeat (first | exact HR8.out | refine PrX.drew ?_ _)))).off (p := ⟨H, 0, none⟩) (by simpa using hHg) (by simpa using hBH) _).off (p := ⟨H, 1, none⟩) (by simpa using hHg) (by simpa using hBH) _).off (p := ⟨H, 2, none⟩) (by simpa using hHg) (by simpa using hBH) _).off (p := ⟨H, 3, none⟩) (by simpa using hHg) (by simpa using hBH) _⟩
    · rw [bAt_in hf] at b1 b3
      have m2 : ((s[f].toNat : Int) == 105) = false := beq_eq_false_iff_ne.2 (by omega)
      have m3 : ((s[f].toNat : Int) == 73) = false := beq_eq_false_iff_ne.2 (by omega)
      subst b2
      clear b1 b3
      go_wp2_with fail
      go_quiet (fail)
      go_wp2_with fail
      refine (HSkip.out f2 f2 _ HSk4.out (by omega) (by repeat (first | exact HR7.out | refine PrX.drew ?_ _))).mono ?_
      rintro e8 w8 ⟨rfl, hr8⟩
      have HR8 := Lib.hid hr8
      clear c0 c1 f1
      have c0 := hr8.c0
      have c1 := hr8.c1
      have f1 := hr8.fz 1
      have l0 := HK.out _ _ hr8
      have z0 := l0.cell 0
      have z1 := l0.cell 1
      have z2 := l0.cell 2
      have z3 := l0.cell 3
      have y0 := l0.fz 0
      have y1 := l0.fz 1
      have y2 := l0.fz 2
      have y3 := l0.fz 3
      have h93c := h93b
      rw [bAt_in hf2] at h93c
      have m4 : ((s[f2].toNat : Int) != 93) = false := by simp; omega
      clear hr8 l0 h93c
      go_wp2_with fail
      go_quiet (fail)
      go_wp2_with fail
      go_quiet (fail)
      have HS9 : Hid (∀ U x, x = ((f2 + 1 : Nat) : Int) → PrX s g f2 D P W0.heap.size W0 U → PrX s g (f2 + 1) D P W0.heap.size W0 (U.setCell ⟨g, 1, none⟩ (.int .i64 x))) := fun U x hx h => h.setI _ _ hx
      clear m0 m1
      rcases HO7.out with rfl | rfl | rfl | rfl | rfl | rfl | rfl
      all_goals
        go_wp2_with fail
        refine bodyPost_ret (results_mix2 rfl _ _ H _ _ _ _ rfl (((((HK.out _ _ (HS9.out _ _ (by omega) (by repeat (first | exact HR8.out | refine PrX.drew ?_ _)))).set 0 _).set 1 _).set 2 _).set 3 _).blk Tryz.underlying87 rfl (by kernel_rfl)) rfl ?_
        exact ⟨_, _, _, _, rfl, ((((HC.out _ _ (HS9.out _ _ (by omega) (by repeat (first | exact HR8.out | refine PrX.drew ?_ _)))).off (p := ⟨H, 0, none⟩) (by simpa using hHg) (by simpa using hBH) _).off (p := ⟨H, 1, none⟩) (by simpa using hHg) (by simpa using hBH) _).off (p := ⟨H, 2, none⟩) (by simpa using hHg) (by simpa using hBH) _).off (p := ⟨H, 3, none⟩) (by simpa using hHg) (by simpa using hBH) _⟩
end Go.Proofs.YtnibpdmbccfgoaaGreatDoor
