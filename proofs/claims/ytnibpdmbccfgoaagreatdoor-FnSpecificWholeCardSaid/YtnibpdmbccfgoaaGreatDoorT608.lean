/- parseAttributeSelector where it is known what stands there. -/
import Derived.Test.YtnibpdmbccfgoaaGreatDoorT607
namespace Go.Proofs.YtnibpdmbccfgoaaGreatDoor
open Go.RowKit
set_option linter.unusedVariables false

def AtHas (e' : Nat) (s : ByteArray) (g : Nat) (D P : Value) (B : Nat) (W : World) (e : Ending) (w' : World) : Prop :=
  ∃ O v o b, e = .returned (.tuple #[.agg #[.string O, .string v, .string o, .bool b], .nilIface]) ∧ PrX s g e' D P B W w'

set_option maxRecDepth 100000 in
set_option maxHeartbeats 8000000 in
theorem pAttrHas_to (s : ByteArray) (g k k1 : Nat) (O : ByteArray) (D P : Value) (B : Nat) (W w : World) (hs : s.size ≤ 100000) (h91 : bAt s k = 91) (hlt : k < s.size) (hsk : Sk s (k + 1) (k + 1)) (hid : IdYes s (k + 1) O k1) (hsk1 : Sk s k1 k1) (hlt1 : k1 < s.size) (h93 : bAt s k1 = 93) (h : PrX s g k D P B W w) :
    Calls Tryz.prog 43 #[.pointer (some ⟨g, 0, none⟩)] w (AtHas (k1 + 1) s g D P B W) := by
  have hBH := h.base
  have hsz : g < w.heap.size := (Array.getElem?_eq_some_iff.1 h.blk).1
  have hst : BlkB w.heap.size #[.string ⟨#[]⟩, .string ⟨#[]⟩, .string ⟨#[]⟩, .bool false] 87 0 (w.alloc (.cells #[.string ⟨#[]⟩, .string ⟨#[]⟩, .string ⟨#[]⟩, .bool false] 87)) (w.alloc (.cells #[.string ⟨#[]⟩, .string ⟨#[]⟩, .string ⟨#[]⟩, .bool false] 87)) := ⟨heap_alloc_new w _, Below.refl _ _, Nat.zero_le _⟩
  have hr0 := h.next ((Below.refl w.heap.size w).alloc (Nat.le_refl _) (.cells #[.string ⟨#[]⟩, .string ⟨#[]⟩, .string ⟨#[]⟩, .bool false] 87))
  have hhs : (w.alloc (.cells #[.string ⟨#[]⟩, .string ⟨#[]⟩, .string ⟨#[]⟩, .bool false] 87)).heap.size = w.heap.size + 1 := by simp
  clear h
  go_enter Tryz.func43, Tryz.ntmps43
  go_wp2_with fail
  obtain ⟨H, hH⟩ : ∃ H, H = w.heap.size := ⟨_, rfl⟩
  obtain ⟨W0, hW0⟩ : ∃ W0 : World, W0 = (w.alloc (.cells #[.string ⟨#[]⟩, .string ⟨#[]⟩, .string ⟨#[]⟩, .bool false] 87)) := ⟨_, rfl⟩
  rw [← hW0, ← hH] at hst ⊢
  rw [← hW0] at hr0 hhs
  rw [← hH] at hhs hsz hBH
  have HST := Lib.hid hst
  have HR := Lib.hid hr0
  have HHs := Lib.hid hhs
  have c0 := hr0.c0
  have c1 := hr0.c1
  have f1 := hr0.fz 1
  have hHg : H ≠ g := by omega
  clear hst hr0 hW0 hH hhs
  have HK : Hid (∀ w2 i, PrX s g i D P W0.heap.size W0 w2 → BlkB H #[.string ⟨#[]⟩, .string ⟨#[]⟩, .string ⟨#[]⟩, .bool false] 87 0 w2 w2) := fun w2 i h2 => HST.out.keep (h2.oth H (by have := HHs.out; omega) hHg)
  have HC : Hid (∀ w2 i, PrX s g i D P W0.heap.size W0 w2 → PrX s g i D P B W w2) := fun w2 i h2 => h2.comp HR.out (by have := HHs.out; omega)
  have HSkip : Hid (∀ i j U, Sk s i j → i ≤ s.size → PrX s g i D P W0.heap.size W0 U → Calls Tryz.prog 31 #[.pointer (some ⟨g, 0, none⟩)] U (SkY (decide (i < j)) s j g D P W0.heap.size W0)) := fun i j U hij hi hU => pSkip_to s g i j D P W0.heap.size W0 U hs hi hij hU
  have HId : Hid (∀ U, PrX s g (k + 1) D P W0.heap.size W0 U → Calls Tryz.prog 50 #[.pointer (some ⟨g, 0, none⟩)] U (NmY s O k1 g D P W0.heap.size W0)) := fun U hU => pIdent_to s g (k + 1) O k1 D P W0.heap.size W0 U hs hlt hid hU
  have hO : O.size ≤ 2147483647 := by have := id_size hid; omega
  have HLw : Hid (∀ U, Calls Tryz.prog 51 #[.string O] U fun e w' => e = .returned (.string (lowS O)) ∧ Below U.heap.size U w') := fun U => toLower_any O U hO
  have HSk := Lib.hid hsk
  have HSk1 := Lib.hid hsk1
  rw [bAt_in hlt] at h91
  have m0 : ((s[k].toNat : Int) != 91) = false := by simp; omega
  clear hsk hid hsk1 h91
  go_quiet (fail)
  go_wp2_with fail
  go_quiet (fail)
  have HS : Hid (∀ q x, x = ((k + 1 : Nat) : Int) → PrX s g (k + 1) D P W0.heap.size W0 ((W0.drewN q).setCell ⟨g, 1, none⟩ (.int .i64 x))) := fun q x hx => ((PrX.of HR.out.blk).drew q).setI _ _ hx
  go_wp2_with fail
  refine (HSkip.out (k + 1) (k + 1) _ HSk.out hlt (HS.out _ _ (by omega))).mono ?_
  rintro e1 w1 ⟨rfl, hr1⟩
  have HR1 := Lib.hid hr1
  clear hr1 c0 c1 f1 m0
  go_wp2_with fail
  refine (HId.out _ HR1.out).mono ?_
  rintro e2 w2 ⟨rfl, hr2⟩
  have HR2 := Lib.hid hr2
  clear hr2
  go_wp2_with fail
  refine (HLw.out _).mono ?_
  rintro e3 w3 ⟨rfl, hb3⟩
  have HR3 := Lib.hid (HR2.out.next hb3)
  clear hb3
  go_wp2_with fail
  refine (HSkip.out k1 k1 _ HSk1.out (by omega) HR3.out).mono ?_
  rintro e4 w4 ⟨rfl, hr4⟩
  have HR4 := Lib.hid hr4
  have c0 := hr4.c0
  have c1 := hr4.c1
  have f1 := hr4.fz 1
  have l0 : BlkB H #[.string ⟨#[]⟩, .string ⟨#[]⟩, .string ⟨#[]⟩, .bool false] 87 0 w4 w4 := HK.out _ _ hr4
  clear hr4
  have z0 := l0.cell 0
  have z1 := l0.cell 1
  have z2 := l0.cell 2
  have z3 := l0.cell 3
  have y0 := l0.fz 0
  have y1 := l0.fz 1
  have y2 := l0.fz 2
  have y3 := l0.fz 3
  clear l0
  rw [bAt_in hlt1] at h93
  have m0 : ((s[k1].toNat : Int) == 93) = true := beq_iff_eq.2 (by omega)
  clear h93
  go_wp2_with fail
  go_quiet (fail)
  go_wp2_with fail
  go_quiet (fail)
  have HS4 : Hid (∀ q x, x = ((k1 + 1 : Nat) : Int) → PrX s g (k1 + 1) D P W0.heap.size W0 ((w4.drewN q).setCell ⟨g, 1, none⟩ (.int .i64 x))) := fun q x hx => (HR4.out.drew q).setI _ _ hx
  go_wp2_with fail
  refine bodyPost_ret (results_mix2 rfl _ _ H _ _ _ _ rfl (((((HK.out _ _ (HS4.out _ _ (by omega))).set 0 _).set 1 _).set 2 _).set 3 _).blk Tryz.underlying87 rfl (by kernel_rfl)) rfl ?_
  exact ⟨_, _, _, _, rfl, ((((HC.out _ _ (HS4.out _ _ (by omega))).off (p := ⟨H, 0, none⟩) (by simpa using hHg) (by simpa using hBH) _).off (p := ⟨H, 1, none⟩) (by simpa using hHg) (by simpa using hBH) _).off (p := ⟨H, 2, none⟩) (by simpa using hHg) (by simpa using hBH) _).off (p := ⟨H, 3, none⟩) (by simpa using hHg) (by simpa using hBH) _⟩
end Go.Proofs.YtnibpdmbccfgoaaGreatDoor
