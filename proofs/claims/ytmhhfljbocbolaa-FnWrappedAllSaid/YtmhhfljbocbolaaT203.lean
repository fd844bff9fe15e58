/- RemoveChild: the walk. -/
import Derived.Test.YtmhhfljbocbolaaT201
import Derived.Test.YtmhhfljbocbolaaT22
import Derived.Test.YtmhhfljbocbolaaT12
import Derived.Lib.Builder
import Derived.RegionTactic
import Derived.BigRegion
namespace Go.Proofs.Ytmhhfljbocbolaa
open Go.RowKit
set_option linter.unusedVariables false

theorem Only.drew {S : Nat → Prop} {bl : Nat → Nat} {w w' : World} (h : Only S bl w w') : Only S bl w w'.drew := ⟨h.os, h.tape, h.output, h.size, h.block⟩
theorem Dom.drew {w : World} {B : Nat} {S : Nat → Prop} {bl : Nat → Nat} {st : Nat → Dn} (h : Dom w B S bl st) : Dom w.drew B S bl st := h.kept (fun _ _ _ => rfl)
theorem ptr_nsame (i : Nat) (bl : Nat → Nat) (w : World) : (binOp .neq 69 (.pointer (some ⟨bl i, 0, none⟩)) (.pointer (some ⟨bl i, 0, none⟩))).run Try.prog w = .ok (.bool false) w := by
  obtain ⟨j, hj, _⟩ := Option.map_eq_some_iff.1 Try.infoN
  exact Lib.run_neq_ptr_same w ⟨bl i, 0, none⟩ Try.underlying69 hj

theorem Dom.ten {w : World} {B : Nat} {S : Nat → Prop} {bl : Nat → Nat} {st : Nat → Dn} (h : Dom w B S bl st) {i : Nat} (hi : S i) : ∃ cs, w.heap[bl i]? = some (.cells cs 89 (0, 0)) ∧ cs.size = 10 := by
  obtain ⟨_, aa, ac, hh, _⟩ := h.node i hi
  exact ⟨_, hh, rfl⟩
theorem Dom.other {w : World} {B : Nat} {S : Nat → Prop} {bl : Nat → Nat} {st : Nat → Dn} (h : Dom w B S bl st) {i k : Nat} (hi : S i) (hk : S k) (hne : k ≠ i) :
    (binOp .eql 69 (.pointer (some ⟨bl k, 0, none⟩)) (.pointer (some ⟨bl i, 0, none⟩))).run Try.prog w = .ok (.bool false) w :=
  ptr_other bl w (fun e => hne (h.inj k i hk hi e)) (h.ten hk) (h.ten hi)

set_option maxRecDepth 100000 in
set_option maxHeartbeats 2000000 in
theorem remove_nn (w : World) (B : Nat) (S : Nat → Prop) (bl : Nat → Nat) (st : Nat → Dn) (h : Dom w B S bl st) (p c : Nat) (hp : S p) (hc : S c) (hpc : p ≠ c)
    (h0 : (st c).par = some p) (h1 : (st c).prv = none) (h2 : (st c).nxt = none) (hf : (st p).fst = some c) (hl : (st p).lst = some c) :
    Calls Try.prog 52 #[.pointer (some ⟨bl p, 0, none⟩), .pointer (some ⟨bl c, 0, none⟩)] w (AppPost S B bl (rmSt st p c) w) := by
  have hne : bl p ≠ bl c := fun e => hpc (h.inj p c hp hc e)
  obtain ⟨pf, -, p1, p2, -⟩ := h.cells hp
  obtain ⟨cf, c0, -, -, c3, c4, -⟩ := h.cells hc
  rw [h0] at c0
  rw [h1] at c3
  rw [h2] at c4
  rw [hf] at p1
  rw [hl] at p2
  simp only [ptrTo, Option.map_none, Option.map_some] at c0 c3 c4 p1 p2
  have hD : Dom (((((w.setCell ⟨bl p, 1, none⟩ (.pointer none)).setCell ⟨bl p, 2, none⟩ (.pointer none)).setCell ⟨bl c, 0, none⟩ (.pointer none)).setCell ⟨bl c, 3, none⟩ (.pointer none)).setCell ⟨bl c, 4, none⟩ (.pointer none)) B S bl (rmSt st p c) := by
    have := (((((h.set hp 1 (by omega) none).set hp 2 (by omega) none).set hc 0 (by omega) none).set hc 3 (by omega) none).set hc 4 (by omega) none)
    unfold rmSt
    rw [h1, h2]
    exact this
  have hO := (((((Only.refl S bl w).setCell hp 1 (.pointer none)).setCell hp 2 (.pointer none)).setCell hc 0 (.pointer none)).setCell hc 3 (.pointer none)).setCell hc 4 (.pointer none)
  have HD := Lib.hid hD
  have HO := Lib.hid hO
  have e1 := fun w : World => ptr_same c bl w
  have e2 := fun w : World => ptr_nsame p bl w
  have pf1 := pf 1
  have pf2 := pf 2
  have cf0 := cf 0
  have cf3 := cf 3
  have cf4 := cf 4
  clear hD hO h0 h1 h2 hf hl h pf cf
  go_enter Try.func52, Try.ntmps52
  go_wp2_with fail
  go_end0
  exact ⟨rfl, HD.out, HO.out⟩

set_option maxRecDepth 100000 in
set_option maxHeartbeats 2000000 in
theorem remove_ns (w : World) (B : Nat) (S : Nat → Prop) (bl : Nat → Nat) (st : Nat → Dn) (h : Dom w B S bl st) (p c q g : Nat) (hp : S p) (hc : S c) (hq : S q) (hg : S g) (hpc : p ≠ c) (hqp : q ≠ p) (hqc : q ≠ c) (hgc : g ≠ c)
    (h0 : (st c).par = some p) (h1 : (st c).prv = none) (h2 : (st c).nxt = some q) (hf : (st p).fst = some c) (hl : (st p).lst = some g) :
    Calls Try.prog 52 #[.pointer (some ⟨bl p, 0, none⟩), .pointer (some ⟨bl c, 0, none⟩)] w (AppPost S B bl (rmSt st p c) w) := by
  have hne : bl p ≠ bl c := fun e => hpc (h.inj p c hp hc e)
  have hne2 : bl q ≠ bl p := fun e => hqp (h.inj q p hq hp e)
  have hne3 : bl q ≠ bl c := fun e => hqc (h.inj q c hq hc e)
  obtain ⟨pf, -, p1, p2, -⟩ := h.cells hp
  obtain ⟨cf, c0, -, -, c3, c4, -⟩ := h.cells hc
  obtain ⟨qf, -, -, -, q3, -⟩ := h.cells hq
  obtain ⟨vq, hvq⟩ : ∃ o, ptrTo bl (st q).prv = .pointer o := ⟨_, rfl⟩
  rw [hvq] at q3
  rw [h0] at c0
  rw [h1] at c3
  rw [h2] at c4
  rw [hf] at p1
  rw [hl] at p2
  simp only [ptrTo, Option.map_none, Option.map_some] at c0 c3 c4 p1 p2
  have hW : Dom ((w.setCell ⟨bl p, 1, none⟩ (.pointer (some ⟨bl q, 0, none⟩))).drew.setCell ⟨bl q, 3, none⟩ (.pointer none)) B S bl _ := ((h.set hp 1 (by omega) (some q)).drew.set hq 3 (by omega) none)
  have hD : Dom (((((w.setCell ⟨bl p, 1, none⟩ (.pointer (some ⟨bl q, 0, none⟩))).drew.setCell ⟨bl q, 3, none⟩ (.pointer none)).setCell ⟨bl c, 0, none⟩ (.pointer none)).setCell ⟨bl c, 3, none⟩ (.pointer none)).setCell ⟨bl c, 4, none⟩ (.pointer none)) B S bl (rmSt st p c) := by
    have := (((hW.set hc 0 (by omega) none).set hc 3 (by omega) none).set hc 4 (by omega) none)
    unfold rmSt
    rw [h1, h2]
    exact this
  have hO := (((((Only.refl S bl w).setCell hp 1 (.pointer (some ⟨bl q, 0, none⟩))).drew.setCell hq 3 (.pointer none)).setCell hc 0 (.pointer none)).setCell hc 3 (.pointer none)).setCell hc 4 (.pointer none)
  have HD := Lib.hid hD
  have HO := Lib.hid hO
  have HX : Hid ((binOp .eql 69 (.pointer (some ⟨bl g, 0, none⟩)) (.pointer (some ⟨bl c, 0, none⟩))).run Try.prog ((w.setCell ⟨bl p, 1, none⟩ (.pointer (some ⟨bl q, 0, none⟩))).setCell ⟨bl q, 3, none⟩ (.pointer none)).drew = .ok (.bool false) ((w.setCell ⟨bl p, 1, none⟩ (.pointer (some ⟨bl q, 0, none⟩))).setCell ⟨bl q, 3, none⟩ (.pointer none)).drew) := hW.other hc hg hgc
  have e1 := fun w : World => ptr_same c bl w
  have e2 := fun w : World => ptr_nsame p bl w
  have pf1 := pf 1
  have qf3 := qf 3
  have cf0 := cf 0
  have cf3 := cf 3
  have cf4 := cf 4
  clear hD hO hW h0 h1 h2 hf hl h pf cf qf hvq
  go_enter Try.func52, Try.ntmps52
  go_wp2_with fail
  go_region
  have hX := HX.out
  go_wp2_with fail
  go_end0
  exact ⟨rfl, HD.out, HO.out⟩

set_option maxRecDepth 100000 in
set_option maxHeartbeats 2000000 in
theorem remove_sn (w : World) (B : Nat) (S : Nat → Prop) (bl : Nat → Nat) (st : Nat → Dn) (h : Dom w B S bl st) (p c r f : Nat) (hp : S p) (hc : S c) (hr : S r) (hg : S f) (hpc : p ≠ c) (hrp : r ≠ p) (hrc : r ≠ c) (hgc : f ≠ c)
    (h0 : (st c).par = some p) (h1 : (st c).prv = some r) (h2 : (st c).nxt = none) (hf : (st p).fst = some f) (hl : (st p).lst = some c) :
    Calls Try.prog 52 #[.pointer (some ⟨bl p, 0, none⟩), .pointer (some ⟨bl c, 0, none⟩)] w (AppPost S B bl (rmSt st p c) w) := by
  have hne : bl p ≠ bl c := fun e => hpc (h.inj p c hp hc e)
  have hne2 : bl r ≠ bl p := fun e => hrp (h.inj r p hr hp e)
  have hne3 : bl r ≠ bl c := fun e => hrc (h.inj r c hr hc e)
  obtain ⟨pf, -, p1, p2, -⟩ := h.cells hp
  obtain ⟨cf, c0, -, -, c3, c4, -⟩ := h.cells hc
  obtain ⟨rf, -, -, -, -, r4, -⟩ := h.cells hr
  obtain ⟨vr, hvr⟩ : ∃ o, ptrTo bl (st r).nxt = .pointer o := ⟨_, rfl⟩
  rw [hvr] at r4
  rw [h0] at c0
  rw [h1] at c3
  rw [h2] at c4
  rw [hf] at p1
  rw [hl] at p2
  simp only [ptrTo, Option.map_none, Option.map_some] at c0 c3 c4 p1 p2
  have hD : Dom (((((w.setCell ⟨bl p, 2, none⟩ (.pointer (some ⟨bl r, 0, none⟩))).drew.setCell ⟨bl r, 4, none⟩ (.pointer none)).setCell ⟨bl c, 0, none⟩ (.pointer none)).setCell ⟨bl c, 3, none⟩ (.pointer none)).setCell ⟨bl c, 4, none⟩ (.pointer none)) B S bl (rmSt st p c) := by
    have := (((((h.set hp 2 (by omega) (some r)).drew.set hr 4 (by omega) none).set hc 0 (by omega) none).set hc 3 (by omega) none).set hc 4 (by omega) none)
    unfold rmSt
    rw [h1, h2]
    exact this
  have hO := (((((Only.refl S bl w).setCell hp 2 (.pointer (some ⟨bl r, 0, none⟩))).drew.setCell hr 4 (.pointer none)).setCell hc 0 (.pointer none)).setCell hc 3 (.pointer none)).setCell hc 4 (.pointer none)
  have HD := Lib.hid hD
  have HO := Lib.hid hO
  have e1 := fun w : World => ptr_same c bl w
  have e2 := fun w : World => ptr_nsame p bl w
  have e3 := h.other hc hg hgc
  have pf2 := pf 2
  have rf4 := rf 4
  have cf0 := cf 0
  have cf3 := cf 3
  have cf4 := cf 4
  clear hD hO h0 h1 h2 hf hl h pf cf rf hvr
  go_enter Try.func52, Try.ntmps52
  go_wp2_with fail
  go_region
  go_wp2_with fail
  go_end0
  exact ⟨rfl, HD.out, HO.out⟩

set_option maxRecDepth 100000 in
set_option maxHeartbeats 2000000 in
theorem remove_ss (w : World) (B : Nat) (S : Nat → Prop) (bl : Nat → Nat) (st : Nat → Dn) (h : Dom w B S bl st) (p c r f q g : Nat) (hp : S p) (hc : S c) (hr : S r) (hg : S f) (hq : S q) (hgg : S g) (hpc : p ≠ c) (hrp : r ≠ p) (hrc : r ≠ c) (hfc : f ≠ c) (hqp : q ≠ p) (hqc : q ≠ c) (hgc : g ≠ c) (hrq : r ≠ q)
    (h0 : (st c).par = some p) (h1 : (st c).prv = some r) (h2 : (st c).nxt = some q) (hf : (st p).fst = some f) (hl : (st p).lst = some g) :
    Calls Try.prog 52 #[.pointer (some ⟨bl p, 0, none⟩), .pointer (some ⟨bl c, 0, none⟩)] w (AppPost S B bl (rmSt st p c) w) := by
  have hne : bl p ≠ bl c := fun e => hpc (h.inj p c hp hc e)
  have hne2 : bl r ≠ bl p := fun e => hrp (h.inj r p hr hp e)
  have hne3 : bl r ≠ bl c := fun e => hrc (h.inj r c hr hc e)
  have hne4 : bl q ≠ bl p := fun e => hqp (h.inj q p hq hp e)
  have hne5 : bl q ≠ bl c := fun e => hqc (h.inj q c hq hc e)
  have hne6 : bl r ≠ bl q := fun e => hrq (h.inj r q hr hq e)
  obtain ⟨pf, -, p1, p2, -⟩ := h.cells hp
  obtain ⟨cf, c0, -, -, c3, c4, -⟩ := h.cells hc
  obtain ⟨rf, -, -, -, -, r4, -⟩ := h.cells hr
  obtain ⟨qf, -, -, -, q3, -⟩ := h.cells hq
  obtain ⟨vr, hvr⟩ : ∃ o, ptrTo bl (st r).nxt = .pointer o := ⟨_, rfl⟩
  obtain ⟨vq, hvq⟩ : ∃ o, ptrTo bl (st q).prv = .pointer o := ⟨_, rfl⟩
  rw [hvr] at r4
  rw [hvq] at q3
  rw [h0] at c0
  rw [h1] at c3
  rw [h2] at c4
  rw [hf] at p1
  rw [hl] at p2
  simp only [ptrTo, Option.map_some] at c0 c3 c4 p1 p2
  have hW : Dom (w.drew.setCell ⟨bl q, 3, none⟩ (.pointer (some ⟨bl r, 0, none⟩))) B S bl _ := (h.drew.set hq 3 (by omega) (some r))
  have hD : Dom (((((w.drew.setCell ⟨bl q, 3, none⟩ (.pointer (some ⟨bl r, 0, none⟩))).drew.setCell ⟨bl r, 4, none⟩ (.pointer (some ⟨bl q, 0, none⟩))).setCell ⟨bl c, 0, none⟩ (.pointer none)).setCell ⟨bl c, 3, none⟩ (.pointer none)).setCell ⟨bl c, 4, none⟩ (.pointer none)) B S bl (rmSt st p c) := by
    have := ((((hW.drew.set hr 4 (by omega) (some q)).set hc 0 (by omega) none).set hc 3 (by omega) none).set hc 4 (by omega) none)
    unfold rmSt
    rw [h1, h2]
    exact this
  have hO := (((((Only.refl S bl w).drew.setCell hq 3 (.pointer (some ⟨bl r, 0, none⟩))).drew.setCell hr 4 (.pointer (some ⟨bl q, 0, none⟩))).setCell hc 0 (.pointer none)).setCell hc 3 (.pointer none)).setCell hc 4 (.pointer none)
  have HD := Lib.hid hD
  have HO := Lib.hid hO
  have HX : Hid ((binOp .eql 69 (.pointer (some ⟨bl g, 0, none⟩)) (.pointer (some ⟨bl c, 0, none⟩))).run Try.prog (w.setCell ⟨bl q, 3, none⟩ (.pointer (some ⟨bl r, 0, none⟩))).drew = .ok (.bool false) (w.setCell ⟨bl q, 3, none⟩ (.pointer (some ⟨bl r, 0, none⟩))).drew) := hW.other hc hgg hgc
  have e2 := fun w : World => ptr_nsame p bl w
  have e3 := h.other hc hg hfc
  have qf3 := qf 3
  have rf4 := rf 4
  have cf0 := cf 0
  have cf3 := cf 3
  have cf4 := cf 4
  clear hD hO hW h0 h1 h2 hf hl h pf cf rf qf hvr hvq
  go_enter Try.func52, Try.ntmps52
  go_wp2_with fail
  go_region
  have hX := HX.out
  go_wp2_with fail
  go_region
  go_wp2_with fail
  go_end0
  exact ⟨rfl, HD.out, HO.out⟩

/-- RemoveChild, of a forest. -/
theorem remove_any {F : Fo} {S : Nat → Prop} {ht : Nat → Nat} (o : F.Ok S ht) (w : World) (B : Nat) (bl : Nat → Nat) (st : Nat → Dn) (h : Dom w B S bl st) (hf : ∀ i, S i → FitD F i (st i)) (p c : Nat) (hc : F.par c = some p) :
    Calls Try.prog 52 #[.pointer (some ⟨bl p, 0, none⟩), .pointer (some ⟨bl c, 0, none⟩)] w (AppPost S B bl (rmSt st p c) w) := by
  obtain ⟨⟨a1, a2, a3, a4, a5, a6⟩, -⟩ := fit_cut o hf hc
  obtain ⟨hSp, hSc⟩ := o.dom p c hc
  have hm := (o.mem p c).2 hc
  obtain ⟨f, hff⟩ : ∃ f, (st p).fst = some f := by
    rw [(hf p hSp).fst]
    cases e : F.kids p with
    | nil => rw [e] at hm; cases hm
    | cons x l => exact ⟨x, rfl⟩
  obtain ⟨g, hgg⟩ : ∃ g, (st p).lst = some g := by
    rw [(hf p hSp).lst]
    cases e : (F.kids p).getLast? with
    | none => rw [List.getLast?_eq_none_iff] at e; rw [e] at hm; cases hm
    | some x => exact ⟨x, rfl⟩
  have hSf : S f := by
    rw [(hf p hSp).fst] at hff
    exact (o.dom p f ((o.mem p f).1 (List.mem_of_head? hff))).2
  have hSg : S g := by
    rw [(hf p hSp).lst] at hgg
    exact (o.dom p g ((o.mem p g).1 (List.mem_of_getLast? hgg))).2
  cases h1 : (st c).prv with
  | none =>
    have hfc := a3.2 h1
    cases h2 : (st c).nxt with
    | none => exact remove_nn w B S bl st h p c hSp hSc a6 a5 h1 h2 hfc (a4.2 h2)
    | some q =>
      have hgc : g ≠ c := fun e => by
        have := a4.1 (by rw [hgg, e])
        rw [h2] at this; cases this
      exact remove_ns w B S bl st h p c q g hSp hSc (a2 q h2).1 hSg a6 (a2 q h2).2.1 (a2 q h2).2.2 hgc a5 h1 h2 hfc hgg
  | some r =>
    have hfc : f ≠ c := fun e => by
      have := a3.1 (by rw [hff, e])
      rw [h1] at this; cases this
    cases h2 : (st c).nxt with
    | none => exact remove_sn w B S bl st h p c r f hSp hSc (a1 r h1).1 hSf a6 (a1 r h1).2.1 (a1 r h1).2.2.1 hfc a5 h1 h2 hff (a4.2 h2)
    | some q =>
      have hgc : g ≠ c := fun e => by
        have := a4.1 (by rw [hgg, e])
        rw [h2] at this; cases this
      exact remove_ss w B S bl st h p c r f q g hSp hSc (a1 r h1).1 hSf (a2 q h2).1 hSg a6 (a1 r h1).2.1 (a1 r h1).2.2.1 hfc (a2 q h2).2.1 (a2 q h2).2.2 hgc (fun e => (a1 r h1).2.2.2 (by rw [h2, e])) a5 h1 h2 hff hgg
end Go.Proofs.Ytmhhfljbocbolaa
