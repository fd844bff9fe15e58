/- (*parser).parseClassSelector, cascadia.ReadClass. -/
import Derived.Test.YtkdfdfhejibopaaGreatDoorT441
import Derived.Test.YtkdfdfhejibopaaGreatDoorT440
namespace Go.Proofs.YtkdfdfhejibopaaGreatDoor
open Go.RowKit
set_option linter.unusedVariables false

theorem PrX.off {s : ByteArray} {g i : Nat} {D P : Value} {B : Nat} {W w : World} (h : PrX s g i D P B W w) {p : Addr} (hg : p.block ≠ g) (hB : B ≤ p.block) (v : Value) : PrX s g i D P B W (w.setCell p v) :=
  ⟨by rw [Below.heap_setCell _ _ _ _ (fun q => hg q.symm)]; exact h.blk, h.os, h.tape, h.output, by simpa [World.setCell] using h.size,
    fun b h1 h2 => by rw [Below.heap_setCell _ _ _ _ (by omega)]; exact h.oth b h1 h2, by simpa [World.setCell] using h.base⟩
theorem PrX.comp {s : ByteArray} {g i k : Nat} {D P : Value} {B N : Nat} {W V w : World} (h : PrX s g i D P N V w) (h0 : PrX s g k D P B W V) (hBN : B ≤ N) : PrX s g i D P B W w :=
  ⟨h.blk, h.os.trans h0.os, h.tape.trans h0.tape, h.output.trans h0.output, Nat.le_trans h0.size h.size, fun b h1 h2 => (h.oth b (by omega) h2).trans (h0.oth b h1 h2), Nat.le_trans hBN h.base⟩
theorem BlkB.keep {H : Nat} {cs : Array Value} {T : TypeId} {w V : World} (h : BlkB H cs T 0 V V) (hk : w.heap[H]? = V.heap[H]?) : BlkB H cs T 0 w w := ⟨hk.trans h.blk, Below.refl _ _, Nat.zero_le _⟩

/-- What is read as a class. -/
def ClNo (s : ByteArray) : Prop := ¬ (0 < s.size ∧ bAt s 0 = 46) ∨ (0 < s.size ∧ bAt s 0 = 46 ∧ IdNo s 1)
def ClYes (s : ByteArray) (O : ByteArray) (i : Nat) : Prop := 0 < s.size ∧ bAt s 0 = 46 ∧ IdYes s 1 O i
def ClP (s : ByteArray) (g : Nat) (D P : Value) (B : Nat) (W : World) (e : Ending) (w' : World) : Prop :=
  (∃ (v : Value) (c : ByteArray) (i : Nat), ErrV v ∧ e = .returned (.tuple #[.agg #[.string c], v]) ∧ PrX s g i D P B W w' ∧ ClNo s) ∨
  (∃ (O : ByteArray) (i : Nat), e = .returned (.tuple #[.agg #[.string O], .nilIface]) ∧ PrX s g i D P B W w' ∧ i ≤ s.size ∧ ClYes s O i)

set_option maxRecDepth 100000 in
set_option maxHeartbeats 8000000 in
theorem pClass_any (s : ByteArray) (g k : Nat) (hk0 : k = 0) (D P : Value) (B : Nat) (W w : World) (hs : s.size ≤ 1000) (hk : k ≤ s.size) (h : PrX s g k D P B W w) :
    Calls Tryz.prog 16 #[.pointer (some ⟨g, 0, none⟩)] w (ClP s g D P B W) := by
  have HK := Lib.hid hk0
  clear hk0
  have hBH := h.base
  have hsz : g < w.heap.size := (Array.getElem?_eq_some_iff.1 h.blk).1
  have hst : BlkB w.heap.size #[.string ⟨#[]⟩] 54 0 (w.alloc (.cells #[.string ⟨#[]⟩] 54)) (w.alloc (.cells #[.string ⟨#[]⟩] 54)) := ⟨heap_alloc_new w _, Below.refl _ _, Nat.zero_le _⟩
  have hr0 := h.next ((Below.refl w.heap.size w).alloc (Nat.le_refl _) (.cells #[.string ⟨#[]⟩] 54))
  have hhs : (w.alloc (.cells #[.string ⟨#[]⟩] 54)).heap.size = w.heap.size + 1 := by simp
  clear h
  go_enter Tryz.func16, Tryz.ntmps16
  go_wp2_with fail
  obtain ⟨H, hH⟩ : ∃ H, H = w.heap.size := ⟨_, rfl⟩
  obtain ⟨W0, hW0⟩ : ∃ W0 : World, W0 = (w.alloc (.cells #[.string ⟨#[]⟩] 54)) := ⟨_, rfl⟩
  rw [← hW0, ← hH] at hst ⊢
  rw [← hW0] at hr0 hhs
  rw [← hH] at hhs hBH hsz
  have HST := Lib.hid hst
  have HR := Lib.hid hr0
  have HHs := Lib.hid hhs
  have c0 := hr0.c0
  have c1 := hr0.c1
  have f1 := hr0.fz 1
  have hHg : H ≠ g := by omega
  clear hst hr0 hW0 hH hhs
  by_cases hlt : k < s.size
  · have hb := bAt_in hlt
    have HBt : Hid (bAt s 0 = s[k].toNat) := by have q := HK.out; subst q; exact hb
    have hl0 : 0 < s.size := by omega
    by_cases h46 : s[k].toNat = 46
    · have m0 : ((s[k].toNat : Int) != 46) = false := by simp; omega
      have H46 : Hid (bAt s 0 = 46) := by rw [Hid, HBt.out]; exact h46
      clear hb h46
      go_quiet (fail)
      go_wp2_with fail
      go_quiet (fail)
      have HS : Hid (∀ q x, x = ((k + 1 : Nat) : Int) → PrX s g (k + 1) D P W0.heap.size W0 ((W0.drewN q).setCell ⟨g, 1, none⟩ (.int .i64 x))) := fun q x hx => ((PrX.of HR.out.blk).drew q).setI _ _ hx
      have HId : Hid (∀ U, PrX s g (k + 1) D P W0.heap.size W0 U → Calls Tryz.prog 24 #[.pointer (some ⟨g, 0, none⟩)] U (IdP s (k + 1) g D P W0.heap.size W0)) := fun U hU => pIdentifier_any s g (k + 1) D P W0.heap.size W0 U hs (by omega) hU
      go_wp2_with fail
      refine (HId.out _ (HS.out _ _ (by omega))).mono ?_
      rintro e1 w2 (⟨v, x, i, ⟨pp, rfl⟩, rfl, hr2, hid⟩ | ⟨O, i, rfl, hr2, hi, hid⟩)
      · have hk2 : w2.heap[H]? = W0.heap[H]? := hr2.oth H (by have := HHs.out; omega) hHg
        have hst1 := HST.out.keep hk2
        have HST1 := Lib.hid hst1
        have HR1 := Lib.hid (hr2.comp HR.out (by have := HHs.out; omega))
        have HX : Hid (ClNo s) := by have q := HK.out; subst q; exact .inr ⟨hl0, H46.out, hid⟩
        have k0 : w2.cell? ⟨H, 0, none⟩ = some (.string ⟨#[]⟩) := hst1.cell 0
        have f0 := hst1.fz 0
        clear hr2 hid hk2 hst1
        go_wp2_with fail
        have HF := HST1.out.set 0 (.string ⟨#[]⟩)
        refine bodyPost_ret (results_mix2 rfl _ _ H _ _ _ _ rfl HF.blk Tryz.underlying54 rfl (by kernel_rfl)) rfl ?_
        exact .inl ⟨_, _, _, ⟨_, rfl⟩, rfl, HR1.out.off (p := ⟨H, 0, none⟩) (by simpa using hHg) (by simpa using hBH) _, HX.out⟩
      · have hk2 : w2.heap[H]? = W0.heap[H]? := hr2.oth H (by have := HHs.out; omega) hHg
        have hst1 := HST.out.keep hk2
        have HST1 := Lib.hid hst1
        have HR1 := Lib.hid (hr2.comp HR.out (by have := HHs.out; omega))
        have HX : Hid (ClYes s O i) := by have q := HK.out; subst q; exact ⟨hl0, H46.out, hid⟩
        have k0 : w2.cell? ⟨H, 0, none⟩ = some (.string ⟨#[]⟩) := hst1.cell 0
        have f0 := hst1.fz 0
        clear hr2 hid hk2 hst1
        go_wp2_with fail
        have HF := HST1.out.set 0 (.string O)
        refine bodyPost_ret (results_mix2 rfl _ _ H _ _ _ _ rfl HF.blk Tryz.underlying54 rfl (by kernel_rfl)) rfl ?_
        exact .inr ⟨O, i, rfl, HR1.out.off (p := ⟨H, 0, none⟩) (by simpa using hHg) (by simpa using hBH) _, hi, HX.out⟩
    · have m0 : ((s[k].toNat : Int) != 46) = true := by simp; omega
      have HN : Hid (ClNo s) := .inl (fun q => h46 (by rw [← HBt.out]; exact q.2))
      clear hb h46
      go_quiet (fail)
      go_wp2_with fail
      go_quiet (fail)
      go_wp2_with fail
      refine (errNew_any _ _).mono ?_
      rintro e1 w1 ⟨v, ⟨pp, rfl⟩, rfl, hb⟩
      have HR1 := Lib.hid ((HR.out.drew _).next hb)
      have hst1 := (HST.out.drew _).next hb
      have HST1 := Lib.hid hst1
      have k0 : w1.cell? ⟨H, 0, none⟩ = some (.string ⟨#[]⟩) := hst1.cell 0
      have f0 := hst1.fz 0
      clear hb hst1
      go_wp2_with fail
      have HF := HST1.out.set 0 (.string ⟨#[]⟩)
      refine bodyPost_ret (results_mix2 rfl _ _ H _ _ _ _ rfl HF.blk Tryz.underlying54 rfl (by kernel_rfl)) rfl ?_
      exact .inl ⟨_, _, _, ⟨_, rfl⟩, rfl, HR1.out.off (p := ⟨H, 0, none⟩) (by simpa using hHg) (by simpa using hBH) _, HN.out⟩
  · have HN : Hid (ClNo s) := .inl (fun q => hlt (by have := HK.out; omega))
    go_quiet (fail)
    go_wp2_with fail
    refine (errNew_any _ _).mono ?_
    rintro e1 w1 ⟨v, ⟨pp, rfl⟩, rfl, hb⟩
    have HR1 := Lib.hid ((HR.out.drew _).next hb)
    have hst1 := (HST.out.drew _).next hb
    have HST1 := Lib.hid hst1
    have k0 : w1.cell? ⟨H, 0, none⟩ = some (.string ⟨#[]⟩) := hst1.cell 0
    have f0 := hst1.fz 0
    clear hb hst1
    go_wp2_with fail
    have HF := HST1.out.set 0 (.string ⟨#[]⟩)
    refine bodyPost_ret (results_mix2 rfl _ _ H _ _ _ _ rfl HF.blk Tryz.underlying54 rfl (by kernel_rfl)) rfl ?_
    exact .inl ⟨_, _, _, ⟨_, rfl⟩, rfl, HR1.out.off (p := ⟨H, 0, none⟩) (by simpa using hHg) (by simpa using hBH) _, HN.out⟩
end Go.Proofs.YtkdfdfhejibopaaGreatDoor
