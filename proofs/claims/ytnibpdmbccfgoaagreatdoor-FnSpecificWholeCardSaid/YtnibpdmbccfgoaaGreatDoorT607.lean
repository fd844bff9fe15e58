/- White space, parentheses, names of elements, ids, classes: where they are known to stand. -/
import Derived.Test.YtnibpdmbccfgoaaGreatDoorJ5
import Derived.Test.YtnibpdmbccfgoaaGreatDoorJ6
namespace Go.Proofs.YtnibpdmbccfgoaaGreatDoor
open Go.RowKit
set_option linter.unusedVariables false

theorem results_mix2 {P : Program} {fn : Func} {p a : Tmp} {ty : TypeId} (h : fn.results = #[.cell p ty, .tmp a]) (tmps : Array Value) (w : World) (g : Nat) (t : TypeId) (cs : Array Value) (fr : Nat × Nat) (d : TypeDesc)
    (hp : tmps.getD p undef = .pointer (some ⟨g, 0, none⟩)) (hg : w.heap[g]? = some (.cells cs t fr))
    (hu : P.underlying ty = some d) (hd : (match d with | .struct _ | .array _ _ => true | _ => false) = true) (hi : (P.info? ty).map (·.size) = some cs.size) :
    (results fn tmps).run P w = .ok (.tuple #[.agg cs, tmps.getD a undef]) w := by
  have hp' : tmps[p]?.getD undef = .pointer (some ⟨g, 0, none⟩) := by simpa using hp
  simp [results, h, hp', asAddr, run_loadVar_row w g t ty cs fr d hg hu hd hi]

theorem rep_size (n : Nat) : (rep n).size = n := by
  show (Lib.repeatL [45] n).toArray.size = n
  rw [List.size_toArray, Lib.repeatL_length]; simp
theorem PrX.off {s : ByteArray} {g i : Nat} {D P : Value} {B : Nat} {W w : World} (h : PrX s g i D P B W w) {p : Addr} (hg : p.block ≠ g) (hB : B ≤ p.block) (v : Value) : PrX s g i D P B W (w.setCell p v) :=
  ⟨by rw [Below.heap_setCell _ _ _ _ (fun q => hg q.symm)]; exact h.blk, h.os, h.tape, h.output, by simpa [World.setCell] using h.size,
    fun b h1 h2 => by rw [Below.heap_setCell _ _ _ _ (by omega)]; exact h.oth b h1 h2, by simpa [World.setCell] using h.base⟩
theorem PrX.comp {s : ByteArray} {g i k : Nat} {D P : Value} {B N : Nat} {W V w : World} (h : PrX s g i D P N V w) (h0 : PrX s g k D P B W V) (hBN : B ≤ N) : PrX s g i D P B W w :=
  ⟨h.blk, h.os.trans h0.os, h.tape.trans h0.tape, h.output.trans h0.output, Nat.le_trans h0.size h.size, fun b h1 h2 => (h.oth b (by omega) h2).trans (h0.oth b h1 h2), Nat.le_trans hBN h.base⟩
theorem BlkB.keep {H : Nat} {cs : Array Value} {T : TypeId} {w V : World} (h : BlkB H cs T 0 V V) (hk : w.heap[H]? = V.heap[H]?) : BlkB H cs T 0 w w := ⟨hk.trans h.blk, Below.refl _ _, Nat.zero_le _⟩


theorem BlkB.self' {g : Nat} {cs : Array Value} {T : TypeId} {B : Nat} {W w : World} (h : BlkB g cs T B W w) : BlkB g cs T 0 w w := ⟨h.blk, Below.refl _ _, Nat.zero_le _⟩
theorem PrX.of2 {s : ByteArray} {g i : Nat} {D P : Value} {B : Nat} {W w : World} (h : PrX s g i D P B W w) : PrX s g i D P w.heap.size w w := PrX.of h.blk
/-- A truth value, and where the parser stands. -/
def SkY (b : Bool) (s : ByteArray) (i g : Nat) (D P : Value) (B : Nat) (W : World) (e : Ending) (w' : World) : Prop := e = .returned (.bool b) ∧ PrX s g i D P B W w'
theorem pSkip_to (s : ByteArray) (g k i : Nat) (D P : Value) (B : Nat) (W w : World) (hs : s.size ≤ 100000) (hk : k ≤ s.size) (hi : Sk s k i) (h : PrX s g k D P B W w) :
    Calls Tryz.prog 31 #[.pointer (some ⟨g, 0, none⟩)] w (SkY (decide (k < i)) s i g D P B W) := by
  refine (pSkip_any s g k D P B W w hs hk h).mono ?_
  rintro e w' ⟨i', rfl, hi', hr⟩
  obtain rfl := hi.uniq hi'
  exact ⟨rfl, hr⟩

set_option maxRecDepth 100000 in
set_option maxHeartbeats 4000000 in
theorem pOpen_to (s : ByteArray) (g k i : Nat) (D P : Value) (B : Nat) (W w : World) (hs : s.size ≤ 100000) (hlt : k < s.size) (h40 : bAt s k = 40) (hi : Sk s (k + 1) i) (h : PrX s g k D P B W w) :
    Calls Tryz.prog 54 #[.pointer (some ⟨g, 0, none⟩)] w (SkY true s i g D P B W) := by
  have HR := Lib.hid h
  have c0 := h.c0
  have c1 := h.c1
  have f1 := h.fz 1
  have HSk : Hid (∀ U, PrX s g (k + 1) D P B W U → Calls Tryz.prog 31 #[.pointer (some ⟨g, 0, none⟩)] U (SkY (decide (k + 1 < i)) s i g D P B W)) := fun U hU => pSkip_to s g (k + 1) i D P B W U hs hlt hi hU
  have hg1 : decide ((k : Int) < (s.size : Int)) = true := decide_eq_true (by omega)
  have hg2 : decide (k < s.size) = true := decide_eq_true hlt
  rw [bAt_in hlt] at h40
  have m0 : ((s[k].toNat : Int) == 40) = true := beq_iff_eq.2 (by omega)
  have HS : Hid (∀ q x, x = ((k + 1 : Nat) : Int) → PrX s g (k + 1) D P B W ((w.drewN q).setCell ⟨g, 1, none⟩ (.int .i64 x))) := fun q x hx => (h.drew q).setI _ _ hx
  clear h h40
  go_enter Tryz.func54, Tryz.ntmps54
  go_wp2_with fail
  go_quiet (fail)
  go_wp2_with fail
  refine (HSk.out _ (HS.out _ _ (by omega))).mono ?_
  rintro e1 w1 ⟨rfl, hr⟩
  have HR2 := Lib.hid hr
  clear hr
  go_wp2_with fail
  go_ret
  exact ⟨rfl, HR2.out⟩

set_option maxRecDepth 100000 in
set_option maxHeartbeats 4000000 in
theorem pClose_to (s : ByteArray) (g k i : Nat) (D P : Value) (B : Nat) (W w : World) (hs : s.size ≤ 100000) (hk : k ≤ s.size) (hlt : i < s.size) (h40 : bAt s i = 41) (hi : Sk s k i) (h : PrX s g k D P B W w) :
    Calls Tryz.prog 56 #[.pointer (some ⟨g, 0, none⟩)] w (SkY true s (i + 1) g D P B W) := by
  have HR := Lib.hid h
  have c0 := h.c0
  have c1 := h.c1
  have HSk : Hid (Calls Tryz.prog 31 #[.pointer (some ⟨g, 0, none⟩)] w (SkY (decide (k < i)) s i g D P B W)) := pSkip_to s g k i D P B W w hs hk hi h
  have hg1 : decide ((i : Int) < (s.size : Int)) = true := decide_eq_true (by omega)
  have hg2 : decide (i < s.size) = true := decide_eq_true hlt
  rw [bAt_in hlt] at h40
  have m0 : ((s[i].toNat : Int) == 41) = true := beq_iff_eq.2 (by omega)
  clear h h40
  go_enter Tryz.func56, Tryz.ntmps56
  go_wp2_with fail
  refine HSk.out.mono ?_
  rintro e1 w1 ⟨rfl, hr⟩
  have HS : Hid (∀ q x, x = ((i + 1 : Nat) : Int) → PrX s g (i + 1) D P B W ((w1.drewN q).setCell ⟨g, 1, none⟩ (.int .i64 x))) := fun q x hx => (hr.drew q).setI _ _ hx
  clear c0 c1
  have c0 := hr.c0
  have c1 := hr.c1
  have f1 := hr.fz 1
  clear hr
  go_wp2_with fail
  go_quiet (fail)
  go_wp2_with fail
  go_ret
  exact ⟨rfl, HS.out _ _ (by omega)⟩

/-- One text in a struct, and no error. -/
def StY (s : ByteArray) (i g : Nat) (D P : Value) (B : Nat) (W : World) (e : Ending) (w' : World) : Prop := ∃ O : ByteArray, e = .returned (.tuple #[.agg #[.string O], .nilIface]) ∧ PrX s g i D P B W w'
theorem id_size {s : ByteArray} {k e : Nat} {O : ByteArray} (h : IdYes s k O e) : O.size ≤ 4 * s.size := by
  obtain ⟨n, acc, hy, hb, ha, hst, h0, rfl⟩ := h
  have h1 := ha.size
  have h2 := hst.1
  have h3 := hy.le
  have h4 := rep_size n
  rw [ByteArray.size_append]
  omega

set_option maxRecDepth 100000 in
set_option maxHeartbeats 4000000 in
theorem pId_to (s : ByteArray) (g k : Nat) (O : ByteArray) (e : Nat) (D P : Value) (B : Nat) (W w : World) (hs : s.size ≤ 100000) (hlt : k < s.size) (h46 : bAt s k = 35) (hn : NameTo s (k + 1) O e) (h : PrX s g k D P B W w) :
    Calls Tryz.prog 41 #[.pointer (some ⟨g, 0, none⟩)] w (StY s e g D P B W) := by
  have hBH := h.base
  have hsz : g < w.heap.size := (Array.getElem?_eq_some_iff.1 h.blk).1
  have hst : BlkB w.heap.size #[.string ⟨#[]⟩] 79 0 (w.alloc (.cells #[.string ⟨#[]⟩] 79)) (w.alloc (.cells #[.string ⟨#[]⟩] 79)) := ⟨heap_alloc_new w _, Below.refl _ _, Nat.zero_le _⟩
  have hr0 := h.next ((Below.refl w.heap.size w).alloc (Nat.le_refl _) (.cells #[.string ⟨#[]⟩] 79))
  have hhs : (w.alloc (.cells #[.string ⟨#[]⟩] 79)).heap.size = w.heap.size + 1 := by simp
  clear h
  go_enter Tryz.func41, Tryz.ntmps41
  go_wp2_with fail
  obtain ⟨H, hH⟩ : ∃ H, H = w.heap.size := ⟨_, rfl⟩
  obtain ⟨W0, hW0⟩ : ∃ W0 : World, W0 = (w.alloc (.cells #[.string ⟨#[]⟩] 79)) := ⟨_, rfl⟩
  rw [← hW0, ← hH] at hst ⊢
  rw [← hW0] at hr0 hhs
  rw [← hH] at hhs hsz hBH
  have HST := Lib.hid hst
  have HR := Lib.hid hr0
  have HHs := Lib.hid hhs
  have c0 := hr0.c0
  have c1 := hr0.c1
  have f1 := hr0.fz 1
  have hHg : H ≠ g := by omega
  clear hst hr0 hW0 hH hhs
  have hb := bAt_in hlt
  have m0 : ((s[k].toNat : Int) != 35) = false := by simp; omega
  clear hb h46
  go_quiet (fail)
  go_wp2_with fail
  go_quiet (fail)
  have HS : Hid (∀ q x, x = ((k + 1 : Nat) : Int) → PrX s g (k + 1) D P W0.heap.size W0 ((W0.drewN q).setCell ⟨g, 1, none⟩ (.int .i64 x))) := fun q x hx => ((PrX.of HR.out.blk).drew q).setI _ _ hx
  have HId : Hid (∀ U, PrX s g (k + 1) D P W0.heap.size W0 U → Calls Tryz.prog 52 #[.pointer (some ⟨g, 0, none⟩)] U (NmY s O e g D P W0.heap.size W0)) := fun U hU => pName_to s g (k + 1) O e D P W0.heap.size W0 U hs (by omega) hn hU
  clear hn
  go_wp2_with fail
  refine (HId.out _ (HS.out _ _ (by omega))).mono ?_
  rintro e1 w2 ⟨rfl, hr2⟩
  have hk2 : w2.heap[H]? = W0.heap[H]? := hr2.oth H (by have := HHs.out; omega) hHg
  have hst1 := HST.out.keep hk2
  have HST1 := Lib.hid hst1
  have HR1 := Lib.hid (hr2.comp HR.out (by have := HHs.out; omega))
  have k0 : w2.cell? ⟨H, 0, none⟩ = some (.string ⟨#[]⟩) := hst1.cell 0
  have f0 := hst1.fz 0
  clear hr2 hk2 hst1
  go_wp2_with fail
  have HF := HST1.out.set 0 (.string O)
  refine bodyPost_ret (results_mix2 rfl _ _ H _ _ _ _ rfl HF.blk Tryz.underlying79 rfl (by kernel_rfl)) rfl ?_
  exact ⟨O, rfl, HR1.out.off (p := ⟨H, 0, none⟩) (by simpa using hHg) (by simpa using hBH) _⟩

set_option maxRecDepth 100000 in
set_option maxHeartbeats 4000000 in
theorem pClass_to (s : ByteArray) (g k : Nat) (O : ByteArray) (e : Nat) (D P : Value) (B : Nat) (W w : World) (hs : s.size ≤ 100000) (hlt : k < s.size) (h46 : bAt s k = 46) (hn : IdYes s (k + 1) O e) (h : PrX s g k D P B W w) :
    Calls Tryz.prog 42 #[.pointer (some ⟨g, 0, none⟩)] w (StY s e g D P B W) := by
  have hBH := h.base
  have hsz : g < w.heap.size := (Array.getElem?_eq_some_iff.1 h.blk).1
  have hst : BlkB w.heap.size #[.string ⟨#[]⟩] 83 0 (w.alloc (.cells #[.string ⟨#[]⟩] 83)) (w.alloc (.cells #[.string ⟨#[]⟩] 83)) := ⟨heap_alloc_new w _, Below.refl _ _, Nat.zero_le _⟩
  have hr0 := h.next ((Below.refl w.heap.size w).alloc (Nat.le_refl _) (.cells #[.string ⟨#[]⟩] 83))
  have hhs : (w.alloc (.cells #[.string ⟨#[]⟩] 83)).heap.size = w.heap.size + 1 := by simp
  clear h
  go_enter Tryz.func42, Tryz.ntmps42
  go_wp2_with fail
  obtain ⟨H, hH⟩ : ∃ H, H = w.heap.size := ⟨_, rfl⟩
  obtain ⟨W0, hW0⟩ : ∃ W0 : World, W0 = (w.alloc (.cells #[.string ⟨#[]⟩] 83)) := ⟨_, rfl⟩
  rw [← hW0, ← hH] at hst ⊢
  rw [← hW0] at hr0 hhs
  rw [← hH] at hhs hsz hBH
  have HST := Lib.hid hst
  have HR := Lib.hid hr0
  have HHs := Lib.hid hhs
  have c0 := hr0.c0
  have c1 := hr0.c1
  have f1 := hr0.fz 1
  have hHg : H ≠ g := by omega
  clear hst hr0 hW0 hH hhs
  have hb := bAt_in hlt
  have m0 : ((s[k].toNat : Int) != 46) = false := by simp; omega
  clear hb h46
  go_quiet (fail)
  go_wp2_with fail
  go_quiet (fail)
  have HS : Hid (∀ q x, x = ((k + 1 : Nat) : Int) → PrX s g (k + 1) D P W0.heap.size W0 ((W0.drewN q).setCell ⟨g, 1, none⟩ (.int .i64 x))) := fun q x hx => ((PrX.of HR.out.blk).drew q).setI _ _ hx
  have HId : Hid (∀ U, PrX s g (k + 1) D P W0.heap.size W0 U → Calls Tryz.prog 50 #[.pointer (some ⟨g, 0, none⟩)] U (NmY s O e g D P W0.heap.size W0)) := fun U hU => pIdent_to s g (k + 1) O e D P W0.heap.size W0 U hs (by omega) hn hU
  clear hn
  go_wp2_with fail
  refine (HId.out _ (HS.out _ _ (by omega))).mono ?_
  rintro e1 w2 ⟨rfl, hr2⟩
  have hk2 : w2.heap[H]? = W0.heap[H]? := hr2.oth H (by have := HHs.out; omega) hHg
  have hst1 := HST.out.keep hk2
  have HST1 := Lib.hid hst1
  have HR1 := Lib.hid (hr2.comp HR.out (by have := HHs.out; omega))
  have k0 : w2.cell? ⟨H, 0, none⟩ = some (.string ⟨#[]⟩) := hst1.cell 0
  have f0 := hst1.fz 0
  clear hr2 hk2 hst1
  go_wp2_with fail
  have HF := HST1.out.set 0 (.string O)
  refine bodyPost_ret (results_mix2 rfl _ _ H _ _ _ _ rfl HF.blk Tryz.underlying83 rfl (by kernel_rfl)) rfl ?_
  exact ⟨O, rfl, HR1.out.off (p := ⟨H, 0, none⟩) (by simpa using hHg) (by simpa using hBH) _⟩

set_option maxRecDepth 100000 in
set_option maxHeartbeats 4000000 in
theorem pType_to (s : ByteArray) (g k : Nat) (O : ByteArray) (e : Nat) (D P : Value) (B : Nat) (W w : World) (hs : s.size ≤ 100000) (hlt : k < s.size) (hn : IdYes s k O e) (h : PrX s g k D P B W w) :
    Calls Tryz.prog 40 #[.pointer (some ⟨g, 0, none⟩)] w (StY s e g D P B W) := by
  have hBH := h.base
  have hsz : g < w.heap.size := (Array.getElem?_eq_some_iff.1 h.blk).1
  have hst : BlkB w.heap.size #[.string ⟨#[]⟩] 75 0 (w.alloc (.cells #[.string ⟨#[]⟩] 75)) (w.alloc (.cells #[.string ⟨#[]⟩] 75)) := ⟨heap_alloc_new w _, Below.refl _ _, Nat.zero_le _⟩
  have hr0 := h.next ((Below.refl w.heap.size w).alloc (Nat.le_refl _) (.cells #[.string ⟨#[]⟩] 75))
  have hhs : (w.alloc (.cells #[.string ⟨#[]⟩] 75)).heap.size = w.heap.size + 1 := by simp
  clear h
  go_enter Tryz.func40, Tryz.ntmps40
  go_wp2_with fail
  obtain ⟨H, hH⟩ : ∃ H, H = w.heap.size := ⟨_, rfl⟩
  obtain ⟨W0, hW0⟩ : ∃ W0 : World, W0 = (w.alloc (.cells #[.string ⟨#[]⟩] 75)) := ⟨_, rfl⟩
  rw [← hW0, ← hH] at hst ⊢
  rw [← hW0] at hr0 hhs
  rw [← hH] at hhs hsz hBH
  have HST := Lib.hid hst
  have HR := Lib.hid hr0
  have HHs := Lib.hid hhs
  have c0 := hr0.c0
  have c1 := hr0.c1
  have f1 := hr0.fz 1
  have hHg : H ≠ g := by omega
  clear hst hr0 hW0 hH hhs
  have HId : Hid (Calls Tryz.prog 50 #[.pointer (some ⟨g, 0, none⟩)] W0 (NmY s O e g D P W0.heap.size W0)) := pIdent_to s g k O e D P W0.heap.size W0 W0 hs (by omega) hn (PrX.of HR.out.blk)
  have hO : O.size ≤ 2147483647 := by have := id_size hn; omega
  clear hn
  go_wp2_with fail
  refine HId.out.mono ?_
  rintro e1 w2 ⟨rfl, hr2⟩
  have hk2 : w2.heap[H]? = W0.heap[H]? := hr2.oth H (by have := HHs.out; omega) hHg
  have hst1 := HST.out.keep hk2
  have HST1 := Lib.hid hst1
  have HR1 := Lib.hid (hr2.comp HR.out (by have := HHs.out; omega))
  have k0 : w2.cell? ⟨H, 0, none⟩ = some (.string ⟨#[]⟩) := hst1.cell 0
  have f0 := hst1.fz 0
  have HLw := Lib.hid (toLower_any O w2 hO)
  clear hr2 hk2 hst1 k0 f0
  go_wp2_with fail
  refine HLw.out.mono ?_
  rintro e2 w3 ⟨rfl, hb3⟩
  have hst2 := (HST1.out.next hb3).self'
  have HR2 := Lib.hid (HR1.out.next hb3)
  have HST2 := Lib.hid hst2
  have k0 : w3.cell? ⟨H, 0, none⟩ = some (.string ⟨#[]⟩) := hst2.cell 0
  have f0 := hst2.fz 0
  clear hst2 hb3
  go_wp2_with fail
  have HF := HST2.out.set 0 (.string (lowS O))
  refine bodyPost_ret (results_mix2 rfl _ _ H _ _ _ _ rfl HF.blk Tryz.underlying75 rfl (by kernel_rfl)) rfl ?_
  exact ⟨lowS O, rfl, HR2.out.off (p := ⟨H, 0, none⟩) (by simpa using hHg) (by simpa using hBH) _⟩
end Go.Proofs.YtnibpdmbccfgoaaGreatDoor
