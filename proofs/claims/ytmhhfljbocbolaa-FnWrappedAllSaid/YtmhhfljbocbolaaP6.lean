/- RemoveChild's kin; the knots (joined by join.py) -/
import Derived.Test.YtmhhfljbocbolaaT203
import Derived.Test.YtmhhfljbocbolaaT202
import Derived.Test.YtmhhfljbocbolaaT39
import Derived.RegionTactic
import Derived.Test.YtmhhfljbocbolaaT41
import Derived.Test.YtmhhfljbocbolaaT166
import Derived.BigRegion
import Derived.Maps.AppendAt
namespace Go.Proofs.Ytmhhfljbocbolaa
open Go.RowKit
set_option linter.unusedVariables false

set_option maxRecDepth 100000 in
set_option maxHeartbeats 2000000 in
theorem insert_nn (w : World) (B : Nat) (S : Nat → Prop) (bl : Nat → Nat) (st : Nat → Dn) (h : Dom w B S bl st) (p c : Nat) (hp : S p) (hc : S c) (hpc : p ≠ c)
    (h1 : (st c).par = none) (h2 : (st c).prv = none) (h3 : (st c).nxt = none) (hs : (st p).lst = none) :
    Calls Try.prog 62 #[.pointer (some ⟨bl p, 0, none⟩), .pointer (some ⟨bl c, 0, none⟩), .pointer none] w (AppPost S B bl (insSt st p c none none) w) := by
  have hne : bl p ≠ bl c := fun e => hpc (h.inj p c hp hc e)
  obtain ⟨pf, -, p1, p2, -⟩ := h.cells hp
  obtain ⟨cf, c0, -, -, c3, c4, -⟩ := h.cells hc
  rw [h1] at c0
  rw [h2] at c3
  rw [h3] at c4
  rw [hs] at p2
  obtain ⟨vp1, hvp1⟩ : ∃ o, ptrTo bl (st p).fst = .pointer o := ⟨_, rfl⟩
  rw [hvp1] at p1
  simp only [ptrTo, Option.map_none] at c0 c3 c4 p2
  have hD : Dom (((((w.setCell ⟨bl p, 1, none⟩ (.pointer (some ⟨bl c, 0, none⟩))).setCell ⟨bl p, 2, none⟩ (.pointer (some ⟨bl c, 0, none⟩))).setCell ⟨bl c, 0, none⟩ (.pointer (some ⟨bl p, 0, none⟩))).setCell ⟨bl c, 3, none⟩ (.pointer none)).setCell ⟨bl c, 4, none⟩ (.pointer none)) B S bl (insSt st p c none none) := (((((h.set hp 1 (by omega) (some c)).set hp 2 (by omega) (some c)).set hc 0 (by omega) (some p)).set hc 3 (by omega) none).set hc 4 (by omega) none)
  have HD := Lib.hid hD
  have HO := Lib.hid ((((((Only.refl S bl w).setCell hp 1 (.pointer (some ⟨bl c, 0, none⟩))).setCell hp 2 (.pointer (some ⟨bl c, 0, none⟩))).setCell hc 0 (.pointer (some ⟨bl p, 0, none⟩))).setCell hc 3 (.pointer none)).setCell hc 4 (.pointer none))
  have pf1 := pf 1
  have pf2 := pf 2
  have cf0 := cf 0
  have cf3 := cf 3
  have cf4 := cf 4
  clear hD h1 h2 h3 hs h pf cf hvp1
  go_enter Try.func62, Try.ntmps62
  go_wp2_with fail
  go_end0
  exact ⟨rfl, HD.out, HO.out⟩

set_option maxRecDepth 100000 in
set_option maxHeartbeats 2000000 in
theorem insert_sn (w : World) (B : Nat) (S : Nat → Prop) (bl : Nat → Nat) (st : Nat → Dn) (h : Dom w B S bl st) (p c r : Nat) (hp : S p) (hc : S c) (hr : S r) (hpc : p ≠ c) (hrp : r ≠ p) (hrc : r ≠ c)
    (h1 : (st c).par = none) (h2 : (st c).prv = none) (h3 : (st c).nxt = none) (hs : (st p).lst = (some r)) :
    Calls Try.prog 62 #[.pointer (some ⟨bl p, 0, none⟩), .pointer (some ⟨bl c, 0, none⟩), .pointer none] w (AppPost S B bl (insSt st p c (some r) none) w) := by
  have hne : bl p ≠ bl c := fun e => hpc (h.inj p c hp hc e)
  have hne2 : bl r ≠ bl p := fun e => hrp (h.inj r p hr hp e)
  have hne3 : bl r ≠ bl c := fun e => hrc (h.inj r c hr hc e)
  obtain ⟨pf, -, p1, p2, -⟩ := h.cells hp
  obtain ⟨cf, c0, -, -, c3, c4, -⟩ := h.cells hc
  obtain ⟨rf, -, -, -, -, r4, -⟩ := h.cells hr
  rw [h1] at c0
  rw [h2] at c3
  rw [h3] at c4
  rw [hs] at p2
  obtain ⟨vp1, hvp1⟩ : ∃ o, ptrTo bl (st p).fst = .pointer o := ⟨_, rfl⟩
  rw [hvp1] at p1
  obtain ⟨vr, hvr⟩ : ∃ o, ptrTo bl (st r).nxt = .pointer o := ⟨_, rfl⟩
  rw [hvr] at r4
  simp only [ptrTo, Option.map_none, Option.map_some] at c0 c3 c4 p2
  have hD : Dom (((((w.setCell ⟨bl r, 4, none⟩ (.pointer (some ⟨bl c, 0, none⟩))).setCell ⟨bl p, 2, none⟩ (.pointer (some ⟨bl c, 0, none⟩))).setCell ⟨bl c, 0, none⟩ (.pointer (some ⟨bl p, 0, none⟩))).setCell ⟨bl c, 3, none⟩ (.pointer (some ⟨bl r, 0, none⟩))).setCell ⟨bl c, 4, none⟩ (.pointer none)) B S bl (insSt st p c (some r) none) := (((((h.set hr 4 (by omega) (some c)).set hp 2 (by omega) (some c)).set hc 0 (by omega) (some p)).set hc 3 (by omega) (some r)).set hc 4 (by omega) none)
  have HD := Lib.hid hD
  have HO := Lib.hid ((((((Only.refl S bl w).setCell hr 4 (.pointer (some ⟨bl c, 0, none⟩))).setCell hp 2 (.pointer (some ⟨bl c, 0, none⟩))).setCell hc 0 (.pointer (some ⟨bl p, 0, none⟩))).setCell hc 3 (.pointer (some ⟨bl r, 0, none⟩))).setCell hc 4 (.pointer none))
  have rf4 := rf 4
  have pf2 := pf 2
  have cf0 := cf 0
  have cf3 := cf 3
  have cf4 := cf 4
  clear hD h1 h2 h3 hs h pf cf hvp1 rf hvr
  go_enter Try.func62, Try.ntmps62
  go_wp2_with fail
  go_end0
  exact ⟨rfl, HD.out, HO.out⟩

set_option maxRecDepth 100000 in
set_option maxHeartbeats 2000000 in
theorem insert_ns (w : World) (B : Nat) (S : Nat → Prop) (bl : Nat → Nat) (st : Nat → Dn) (h : Dom w B S bl st) (p c q : Nat) (hp : S p) (hc : S c) (hq : S q) (hpc : p ≠ c) (hqp : q ≠ p) (hqc : q ≠ c)
    (h1 : (st c).par = none) (h2 : (st c).prv = none) (h3 : (st c).nxt = none) (hs : (st q).prv = none) :
    Calls Try.prog 62 #[.pointer (some ⟨bl p, 0, none⟩), .pointer (some ⟨bl c, 0, none⟩), .pointer (some ⟨bl q, 0, none⟩)] w (AppPost S B bl (insSt st p c none (some q)) w) := by
  have hne : bl p ≠ bl c := fun e => hpc (h.inj p c hp hc e)
  have hne4 : bl q ≠ bl p := fun e => hqp (h.inj q p hq hp e)
  have hne5 : bl q ≠ bl c := fun e => hqc (h.inj q c hq hc e)
  obtain ⟨pf, -, p1, p2, -⟩ := h.cells hp
  obtain ⟨cf, c0, -, -, c3, c4, -⟩ := h.cells hc
  obtain ⟨qf, -, -, -, q3, -⟩ := h.cells hq
  rw [h1] at c0
  rw [h2] at c3
  rw [h3] at c4
  rw [hs] at q3
  obtain ⟨vp1, hvp1⟩ : ∃ o, ptrTo bl (st p).fst = .pointer o := ⟨_, rfl⟩
  rw [hvp1] at p1
  obtain ⟨vp2, hvp2⟩ : ∃ o, ptrTo bl (st p).lst = .pointer o := ⟨_, rfl⟩
  rw [hvp2] at p2
  simp only [ptrTo, Option.map_none] at c0 c3 c4 q3
  have hD : Dom (((((w.setCell ⟨bl p, 1, none⟩ (.pointer (some ⟨bl c, 0, none⟩))).setCell ⟨bl q, 3, none⟩ (.pointer (some ⟨bl c, 0, none⟩))).setCell ⟨bl c, 0, none⟩ (.pointer (some ⟨bl p, 0, none⟩))).setCell ⟨bl c, 3, none⟩ (.pointer none)).setCell ⟨bl c, 4, none⟩ (.pointer (some ⟨bl q, 0, none⟩))) B S bl (insSt st p c none (some q)) := (((((h.set hp 1 (by omega) (some c)).set hq 3 (by omega) (some c)).set hc 0 (by omega) (some p)).set hc 3 (by omega) none).set hc 4 (by omega) (some q))
  have HD := Lib.hid hD
  have HO := Lib.hid ((((((Only.refl S bl w).setCell hp 1 (.pointer (some ⟨bl c, 0, none⟩))).setCell hq 3 (.pointer (some ⟨bl c, 0, none⟩))).setCell hc 0 (.pointer (some ⟨bl p, 0, none⟩))).setCell hc 3 (.pointer none)).setCell hc 4 (.pointer (some ⟨bl q, 0, none⟩)))
  have pf1 := pf 1
  have qf3 := qf 3
  have cf0 := cf 0
  have cf3 := cf 3
  have cf4 := cf 4
  clear hD h1 h2 h3 hs h pf cf hvp1 hvp2 qf
  go_enter Try.func62, Try.ntmps62
  go_wp2_with fail
  go_end0
  exact ⟨rfl, HD.out, HO.out⟩

set_option maxRecDepth 100000 in
set_option maxHeartbeats 2000000 in
theorem insert_ss (w : World) (B : Nat) (S : Nat → Prop) (bl : Nat → Nat) (st : Nat → Dn) (h : Dom w B S bl st) (p c r q : Nat) (hp : S p) (hc : S c) (hr : S r) (hq : S q) (hpc : p ≠ c) (hrp : r ≠ p) (hrc : r ≠ c) (hqp : q ≠ p) (hqc : q ≠ c) (hrq : r ≠ q)
    (h1 : (st c).par = none) (h2 : (st c).prv = none) (h3 : (st c).nxt = none) (hs : (st q).prv = (some r)) :
    Calls Try.prog 62 #[.pointer (some ⟨bl p, 0, none⟩), .pointer (some ⟨bl c, 0, none⟩), .pointer (some ⟨bl q, 0, none⟩)] w (AppPost S B bl (insSt st p c (some r) (some q)) w) := by
  have hne : bl p ≠ bl c := fun e => hpc (h.inj p c hp hc e)
  have hne2 : bl r ≠ bl p := fun e => hrp (h.inj r p hr hp e)
  have hne3 : bl r ≠ bl c := fun e => hrc (h.inj r c hr hc e)
  have hne4 : bl q ≠ bl p := fun e => hqp (h.inj q p hq hp e)
  have hne5 : bl q ≠ bl c := fun e => hqc (h.inj q c hq hc e)
  have hne6 : bl r ≠ bl q := fun e => hrq (h.inj r q hr hq e)
  obtain ⟨pf, -, p1, p2, -⟩ := h.cells hp
  obtain ⟨cf, c0, -, -, c3, c4, -⟩ := h.cells hc
  obtain ⟨rf, -, -, -, -, r4, -⟩ := h.cells hr
  obtain ⟨qf, -, -, -, q3, -⟩ := h.cells hq
  rw [h1] at c0
  rw [h2] at c3
  rw [h3] at c4
  rw [hs] at q3
  obtain ⟨vp1, hvp1⟩ : ∃ o, ptrTo bl (st p).fst = .pointer o := ⟨_, rfl⟩
  rw [hvp1] at p1
  obtain ⟨vp2, hvp2⟩ : ∃ o, ptrTo bl (st p).lst = .pointer o := ⟨_, rfl⟩
  rw [hvp2] at p2
  obtain ⟨vr, hvr⟩ : ∃ o, ptrTo bl (st r).nxt = .pointer o := ⟨_, rfl⟩
  rw [hvr] at r4
  simp only [ptrTo, Option.map_none, Option.map_some] at c0 c3 c4 q3
  have hD : Dom (((((w.setCell ⟨bl r, 4, none⟩ (.pointer (some ⟨bl c, 0, none⟩))).setCell ⟨bl q, 3, none⟩ (.pointer (some ⟨bl c, 0, none⟩))).setCell ⟨bl c, 0, none⟩ (.pointer (some ⟨bl p, 0, none⟩))).setCell ⟨bl c, 3, none⟩ (.pointer (some ⟨bl r, 0, none⟩))).setCell ⟨bl c, 4, none⟩ (.pointer (some ⟨bl q, 0, none⟩))) B S bl (insSt st p c (some r) (some q)) := (((((h.set hr 4 (by omega) (some c)).set hq 3 (by omega) (some c)).set hc 0 (by omega) (some p)).set hc 3 (by omega) (some r)).set hc 4 (by omega) (some q))
  have HD := Lib.hid hD
  have HO := Lib.hid ((((((Only.refl S bl w).setCell hr 4 (.pointer (some ⟨bl c, 0, none⟩))).setCell hq 3 (.pointer (some ⟨bl c, 0, none⟩))).setCell hc 0 (.pointer (some ⟨bl p, 0, none⟩))).setCell hc 3 (.pointer (some ⟨bl r, 0, none⟩))).setCell hc 4 (.pointer (some ⟨bl q, 0, none⟩)))
  have rf4 := rf 4
  have qf3 := qf 3
  have cf0 := cf 0
  have cf3 := cf 3
  have cf4 := cf 4
  clear hD h1 h2 h3 hs h pf cf hvp1 hvp2 qf rf hvr
  go_enter Try.func62, Try.ntmps62
  go_wp2_with fail
  go_end0
  exact ⟨rfl, HD.out, HO.out⟩

/-- InsertBefore, of a forest: ahead of the first one of l2, or at the end. -/
theorem insert_any {F : Fo} {S : Nat → Prop} {ht : Nat → Nat} (o : F.Ok S ht) (w : World) (B : Nat) (bl : Nat → Nat) (st : Nat → Dn) (h : Dom w B S bl st) (hf : ∀ i, S i → FitD F i (st i)) (p c : Nat) (hp : S p) (hc : S c) (hcn : F.par c = none) (hpc : p ≠ c) (l1 l2 : List Nat) (hk : F.kids p = l1 ++ l2) :
    Calls Try.prog 62 #[.pointer (some ⟨bl p, 0, none⟩), .pointer (some ⟨bl c, 0, none⟩), ptrTo bl l2.head?] w (AppPost S B bl (insSt st p c l1.getLast? l2.head?) w) := by
  obtain ⟨⟨a1, a2, a3, a4, a5⟩, -⟩ := fit_put o hf hp hc hcn hpc hk
  cases l2 with
  | nil =>
    have hlst : (st p).lst = l1.getLast? := by rw [(hf p hp).lst, hk, List.append_nil]
    cases e : l1.getLast? with
    | none => exact insert_nn w B S bl st h p c hp hc hpc a3 a4 a5 (by rw [hlst, e])
    | some r => exact insert_sn w B S bl st h p c r hp hc (a1 r e).1 hpc (a1 r e).2.1 (a1 r e).2.2.1 a3 a4 a5 (by rw [hlst, e])
  | cons q l2 =>
    have hq := a2 q rfl
    have hnd := o.nodup p
    rw [hk] at hnd
    have hpq : F.par q = some p := by rw [← o.mem, hk]; simp
    have hprv : (st q).prv = l1.getLast? := by rw [((hf q hq.1).sib p hpq).1, hk, prevIn_split _ _ _ (nodup_split hnd).2.1]
    cases e : l1.getLast? with
    | none => exact insert_ns w B S bl st h p c q hp hc hq.1 hpc hq.2.1 hq.2.2 a3 a4 a5 (by rw [hprv, e])
    | some r => exact insert_ss w B S bl st h p c r q hp hc (a1 r e).1 hq.1 hpc (a1 r e).2.1 (a1 r e).2.2.1 hq.2.1 hq.2.2 (fun e2 => (a1 r e).2.2.2 (by rw [e2]; rfl)) a3 a4 a5 (by rw [hprv, e])
end Go.Proofs.Ytmhhfljbocbolaa

namespace Go.Proofs.Ytmhhfljbocbolaa
open Go.RowKit
set_option linter.unusedVariables false

/-- The nodes of a forest lie in memory. -/
structure Prog (F : Fo) (S : Nat → Prop) (nd : Nat → Nd) (B : Nat) (bl : Nat → Nat) (st : Nat → Dn) (w : World) : Prop where
  dom : Dom w B S bl st
  fit : ∀ i, S i → FitD F i (st i)
  self : ∀ i, S i → SelfOk (nd i) (st i)

theorem Prog.kept {F : Fo} {S : Nat → Prop} {nd : Nat → Nd} {B : Nat} {bl : Nat → Nat} {st : Nat → Dn} {w w' : World} (h : Prog F S nd B bl st w) (hb : Below w.heap.size w w') : Prog F S nd B bl st w' :=
  ⟨h.dom.kept (fun b _ hb2 => hb.block b hb2), h.fit, h.self⟩

theorem upd_self {S : Nat → Prop} {nd : Nat → Nd} {st : Nat → Dn} (h : ∀ i, S i → SelfOk (nd i) (st i)) (j : Nat) (k : Nat) (o : Option Nat) : ∀ i, S i → SelfOk (nd i) (upd st j ((st j).set k o) i) := by
  intro i hi
  have hs := h i hi
  by_cases e : i = j
  · subst e
    rw [upd_same]
    match k with
    | 0 => exact ⟨hs.typ, hs.dat, hs.ats⟩
    | 1 => exact ⟨hs.typ, hs.dat, hs.ats⟩
    | 2 => exact ⟨hs.typ, hs.dat, hs.ats⟩
    | 3 => exact ⟨hs.typ, hs.dat, hs.ats⟩
    | n + 4 => exact ⟨hs.typ, hs.dat, hs.ats⟩
  · rw [upd_other _ _ _ _ e]; exact hs

theorem rm_self {S : Nat → Prop} {nd : Nat → Nd} {st : Nat → Dn} (h : ∀ i, S i → SelfOk (nd i) (st i)) (p c : Nat) : ∀ i, S i → SelfOk (nd i) (rmSt st p c i) := by
  unfold rmSt
  cases (st c).prv <;> cases (st c).nxt <;> dsimp only <;> repeat (first | exact h | refine upd_self ?_ _ _ _)

theorem ins_self {S : Nat → Prop} {nd : Nat → Nd} {st : Nat → Dn} (h : ∀ i, S i → SelfOk (nd i) (st i)) (p c : Nat) (pv nx : Option Nat) : ∀ i, S i → SelfOk (nd i) (insSt st p c pv nx i) := by
  unfold insSt
  cases pv <;> cases nx <;> dsimp only <;> repeat (first | exact h | refine upd_self ?_ _ _ _)

theorem app_ins (st : Nat → Dn) (p c : Nat) (hpc : p ≠ c) (hl : ∀ q, (st p).lst = some q → q ≠ c) (h3 : (st c).nxt = none) : appSt st p c = insSt st p c (st p).lst none := by
  have key : ∀ s4 : Nat → Dn, (s4 c).nxt = none → s4 = upd s4 c ((s4 c).set 4 none) := by
    intro s4 h
    funext i
    by_cases e : i = c
    · subst e; rw [upd_same]
      cases hx : s4 i
      rw [hx] at h
      dsimp only at h
      subst h
      rfl
    · rw [upd_other _ _ _ _ e]
  unfold appSt insSt
  cases e : (st p).lst with
  | none =>
    dsimp only
    refine key _ ?_
    simp [upd, Dn.set, Ne.symm hpc, h3]
  | some q =>
    have hq : c ≠ q := fun e2 => hl q e e2.symm
    dsimp only
    refine key _ ?_
    simp [upd, Dn.set, Ne.symm hpc, hq, h3]

def TurnPost (F : Fo) (S : Nat → Prop) (nd : Nat → Nd) (B : Nat) (bl : Nat → Nat) (w : World) (e : Ending) (w' : World) : Prop :=
  e = .returned (.tuple #[]) ∧ (∃ st, Prog F S nd B bl st w') ∧ Only S bl w w'

theorem removeP_any {F : Fo} {S : Nat → Prop} {ht : Nat → Nat} (o : F.Ok S ht) {nd : Nat → Nd} (w : World) (B : Nat) (bl : Nat → Nat) (st : Nat → Dn) (h : Prog F S nd B bl st w) (p c : Nat) (hc : F.par c = some p) :
    Calls Try.prog 52 #[.pointer (some ⟨bl p, 0, none⟩), .pointer (some ⟨bl c, 0, none⟩)] w (TurnPost (F.cut c) S nd B bl w) := by
  refine (remove_any o w B bl st h.dom h.fit p c hc).mono ?_
  rintro e w' ⟨rfl, hD, hO⟩
  exact ⟨rfl, ⟨_, hD, (fit_cut o h.fit hc).2, rm_self h.self p c⟩, hO⟩

theorem insertP_any {F : Fo} {S : Nat → Prop} {ht : Nat → Nat} (o : F.Ok S ht) {nd : Nat → Nd} (w : World) (B : Nat) (bl : Nat → Nat) (st : Nat → Dn) (h : Prog F S nd B bl st w) (p c : Nat) (hp : S p) (hc : S c) (hcn : F.par c = none) (hpc : p ≠ c) (l1 l2 : List Nat) (hk : F.kids p = l1 ++ l2) :
    Calls Try.prog 62 #[.pointer (some ⟨bl p, 0, none⟩), .pointer (some ⟨bl c, 0, none⟩), ptrTo bl l2.head?] w (TurnPost (F.put p l1.length c) S nd B bl w) := by
  refine (insert_any o w B bl st h.dom h.fit p c hp hc hcn hpc l1 l2 hk).mono ?_
  rintro e w' ⟨rfl, hD, hO⟩
  exact ⟨rfl, ⟨_, hD, (fit_put o h.fit hp hc hcn hpc hk).2, ins_self h.self p c _ _⟩, hO⟩

theorem appendP_any {F : Fo} {S : Nat → Prop} {ht : Nat → Nat} (o : F.Ok S ht) {nd : Nat → Nd} (w : World) (B : Nat) (bl : Nat → Nat) (st : Nat → Dn) (h : Prog F S nd B bl st w) (p c : Nat) (hp : S p) (hc : S c) (hcn : F.par c = none) (hpc : p ≠ c) :
    Calls Try.prog 60 #[.pointer (some ⟨bl p, 0, none⟩), .pointer (some ⟨bl c, 0, none⟩)] w (TurnPost (F.put p (F.kids p).length c) S nd B bl w) := by
  obtain ⟨⟨a1, a2, a3, a4, a5⟩, hfit⟩ := fit_put o h.fit hp hc hcn hpc (l1 := F.kids p) (l2 := []) (by simp)
  have hlst : (st p).lst = (F.kids p).getLast? := (h.fit p hp).lst
  have hl : ∀ q, (st p).lst = some q → S q ∧ q ≠ c ∧ q ≠ p := fun q hq => by
    rw [hlst] at hq
    obtain ⟨b1, b2, b3, _⟩ := a1 q hq
    exact ⟨b1, b3, b2⟩
  refine (append_any w B S bl st h.dom p c hp hc hpc a3 a4 a5 hl).mono ?_
  rintro e w' ⟨rfl, hD, hO⟩
  have e1 := app_ins st p c hpc (fun q hq => (hl q hq).2.1) a5
  rw [hlst] at e1
  rw [e1] at hD
  exact ⟨rfl, ⟨_, hD, hfit, ins_self h.self p c _ _⟩, hO⟩

/-- Below block B nothing has turned but the nodes. -/
structure Turn (S : Nat → Prop) (bl : Nat → Nat) (B : Nat) (w w' : World) : Prop where
  os : w'.os = w.os
  tape : w'.tape = w.tape
  output : w'.output = w.output
  size : w.heap.size ≤ w'.heap.size
  block : ∀ b, b < B → (∀ i, S i → b ≠ bl i) → w'.heap[b]? = w.heap[b]?
theorem Turn.refl (S : Nat → Prop) (bl : Nat → Nat) (B : Nat) (w : World) : Turn S bl B w w := ⟨rfl, rfl, rfl, Nat.le_refl _, fun _ _ _ => rfl⟩
theorem Turn.trans {S : Nat → Prop} {bl : Nat → Nat} {B : Nat} {a b c : World} (h : Turn S bl B a b) (k : Turn S bl B b c) : Turn S bl B a c :=
  ⟨k.os.trans h.os, k.tape.trans h.tape, k.output.trans h.output, Nat.le_trans h.size k.size, fun q h1 h2 => (k.block q h1 h2).trans (h.block q h1 h2)⟩
theorem Turn.of_below {S : Nat → Prop} {bl : Nat → Nat} {B : Nat} {a b : World} (h : Below B a b) : Turn S bl B a b := ⟨h.os, h.tape, h.output, h.size, fun q h1 _ => h.block q h1⟩
theorem Turn.of_only {S : Nat → Prop} {bl : Nat → Nat} {B : Nat} {a b : World} (h : Only S bl a b) : Turn S bl B a b := ⟨h.os, h.tape, h.output, Nat.le_of_eq h.size.symm, fun q _ h2 => h.block q h2⟩
theorem Turn.low {S : Nat → Prop} {bl : Nat → Nat} {B C : Nat} {a b : World} (h : Turn S bl B a b) (hC : C ≤ B) : Turn S bl C a b := ⟨h.os, h.tape, h.output, h.size, fun q h1 h2 => h.block q (by omega) h2⟩
theorem Turn.below {S : Nat → Prop} {bl : Nat → Nat} {B C : Nat} {a b : World} (h : Turn S bl B a b) (hC : C ≤ B) (hbl : ∀ i, S i → C ≤ bl i) : Below C a b :=
  ⟨h.os, h.tape, h.output, h.size, fun q hq => h.block q (by omega) (fun i hi e => by have := hbl i hi; omega)⟩
end Go.Proofs.Ytmhhfljbocbolaa

namespace Go.Proofs.Ytmhhfljbocbolaa
open Go.RowKit
set_option linter.unusedVariables false

def flat2 (l : List At2) : List Value := l.flatMap fun x => [.string x.key, .string x.val]

def knCells (kb : Nat → Nat) (up : Option Nat) (x : Nd) (pl : Int) (aa : Option Addr) (ac : Nat) (n : Nat) (ka : Option Addr) (kc : Nat) : Array Value :=
  #[.int .i64 pl, .int .i64 x.kind, .string x.tag, .string x.text, .slice aa x.attrs.length ac, .int .i64 x.size, ptrTo kb up, .slice ka n kc]

/-- The knots of a forest lie in memory from block B on, each in a block of its own. -/
structure Kno (F : Fo) (S : Nat → Prop) (nd : Nat → Nd) (pl : Nat → Int) (B : Nat) (kb : Nat → Nat) (w : World) : Prop where
  node : ∀ i, S i → B ≤ kb i ∧ ∃ aa ac ka kc, w.heap[kb i]? = some (.cells (knCells kb (F.par i) (nd i) (pl i) aa ac (F.kids i).length ka kc) 107 (0, 0)) ∧
    w.ownsRow B 96 2 (.slice aa (nd i).attrs.length ac) (nd i).attrs.length (flat2 (nd i).attrs) ∧
    w.ownsRow B 77 1 (.slice ka (F.kids i).length kc) (F.kids i).length (ptrs kb (F.kids i))
  inj : ∀ i j, S i → S j → kb i = kb j → i = j

theorem Kno.kept {F : Fo} {S : Nat → Prop} {nd : Nat → Nd} {pl : Nat → Int} {B : Nat} {kb : Nat → Nat} {w w' : World} (h : Kno F S nd pl B kb w) (hs : ∀ b, B ≤ b → b < w.heap.size → w'.heap[b]? = w.heap[b]?) : Kno F S nd pl B kb w' := by
  refine ⟨fun i hi => ?_, h.inj⟩
  obtain ⟨hB, aa, ac, ka, kc, hh, h1, h2⟩ := h.node i hi
  exact ⟨hB, aa, ac, ka, kc, by rw [hs _ hB (Array.getElem?_eq_some_iff.1 hh).1]; exact hh, own_kept h1 hs, own_kept h2 hs⟩
theorem Kno.up {F : Fo} {S : Nat → Prop} {nd : Nat → Nd} {pl : Nat → Int} {B : Nat} {kb : Nat → Nat} {w w' : World} (h : Kno F S nd pl B kb w) (hb : Below w.heap.size w w') : Kno F S nd pl B kb w' := h.kept (fun b _ h2 => hb.block b h2)

theorem Kno.lt {F : Fo} {S : Nat → Prop} {nd : Nat → Nd} {pl : Nat → Int} {B : Nat} {kb : Nat → Nat} {w : World} (h : Kno F S nd pl B kb w) {i : Nat} (hi : S i) : kb i < w.heap.size := by
  obtain ⟨hB, aa, ac, ka, kc, hh, _⟩ := h.node i hi
  exact (Array.getElem?_eq_some_iff.1 hh).1

theorem Kno.cells {F : Fo} {S : Nat → Prop} {nd : Nat → Nd} {pl : Nat → Int} {B : Nat} {kb : Nat → Nat} {w : World} (h : Kno F S nd pl B kb w) {i : Nat} (hi : S i) :
    (∀ j, w.frozen? ⟨kb i, j, none⟩ = false) ∧ w.cell? ⟨kb i, 6, none⟩ = some (ptrTo kb (F.par i)) ∧ w.cell? ⟨kb i, 1, none⟩ = some (.int .i64 (nd i).kind) ∧
      ∃ ka kc, w.cell? ⟨kb i, 7, none⟩ = some (.slice ka (F.kids i).length kc) ∧ (F.kids i).length ≤ kc ∧ w.ownsRow B 77 1 (.slice ka (F.kids i).length kc) (F.kids i).length (ptrs kb (F.kids i)) := by
  obtain ⟨hB, aa, ac, ka, kc, hh, h1, h2⟩ := h.node i hi
  refine ⟨fun j => frozen_of_row w _ j _ _ hh, ?_, ?_, ka, kc, ?_, ?_, h2⟩
  · rw [cell_of_row w _ _ _ _ _ hh]; rfl
  · rw [cell_of_row w _ _ _ _ _ hh]; rfl
  · rw [cell_of_row w _ _ _ _ _ hh]; rfl
  · rcases h2.2 with ⟨e, e2⟩ | ⟨g, cap, cur, e, _, _, hn, _⟩
    · omega
    · cases e; exact hn

theorem Try.infoK : (Try.prog.info? 107).map (fun i => i.size) = some 8 := by kernel_rfl
theorem kptr_same (i : Nat) (kb : Nat → Nat) (w : World) : (binOp .eql 77 (.pointer (some ⟨kb i, 0, none⟩)) (.pointer (some ⟨kb i, 0, none⟩))).run Try.prog w = .ok (.bool true) w := by
  obtain ⟨j, hj, _⟩ := Option.map_eq_some_iff.1 Try.infoK
  exact run_eql_ptr_same w ⟨kb i, 0, none⟩ Try.underlying77 hj
theorem Kno.other {F : Fo} {S : Nat → Prop} {nd : Nat → Nd} {pl : Nat → Int} {B : Nat} {kb : Nat → Nat} {w : World} (h : Kno F S nd pl B kb w) {i k : Nat} (hi : S i) (hk : S k) (hne : k ≠ i) :
    (binOp .eql 77 (.pointer (some ⟨kb k, 0, none⟩)) (.pointer (some ⟨kb i, 0, none⟩))).run Try.prog w = .ok (.bool false) w := by
  obtain ⟨j, hj, hjs⟩ := Option.map_eq_some_iff.1 Try.infoK
  obtain ⟨_, _, _, _, _, e1, _⟩ := h.node k hk
  obtain ⟨_, _, _, _, _, e2, _⟩ := h.node i hi
  exact run_eql_ptr_other w Try.underlying77 hj (by omega) (fun e => hne (h.inj k i hk hi (congrArg Addr.block e))) e1 e2

set_option maxRecDepth 100000 in
set_option maxHeartbeats 1000000 in
theorem place_none {F : Fo} {S : Nat → Prop} {nd : Nat → Nd} {pl : Nat → Int} {B : Nat} {kb : Nat → Nat} {w : World} (h : Kno F S nd pl B kb w) (i : Nat) (hi : S i) (hp : F.par i = none) :
    Calls Try.prog 96 #[.pointer (some ⟨kb i, 0, none⟩)] w fun e w' => e = .returned (.int .i64 (-1)) ∧ w = w' := by
  obtain ⟨-, c6, -⟩ := h.cells hi
  rw [hp] at c6
  simp only [ptrTo, Option.map_none] at c6
  clear h hp
  go_enter Try.func96, Try.ntmps96
  go_wp2_with fail
  go_ret
  exact ⟨rfl, rfl⟩

set_option maxRecDepth 100000 in
set_option maxHeartbeats 1000000 in
theorem place_some {F : Fo} {S : Nat → Prop} {ht : Nat → Nat} (o : F.Ok S ht) {nd : Nat → Nd} {pl : Nat → Int} {B : Nat} {kb : Nat → Nat} {w : World} (h : Kno F S nd pl B kb w) (i p : Nat) (hp : F.par i = some p) (l1 l2 : List Nat) (hk : F.kids p = l1 ++ i :: l2) (hlen : (F.kids p).length ≤ 100000) :
    Calls Try.prog 96 #[.pointer (some ⟨kb i, 0, none⟩)] w fun e w' => e = .returned (.int .i64 l1.length) ∧ w = w' := by
  obtain ⟨hSp, hSi⟩ := o.dom p i hp
  obtain ⟨-, c6, -⟩ := h.cells hSi
  obtain ⟨-, -, -, ka, kc, c7, hkc, hown⟩ := h.cells hSp
  rw [hp] at c6
  simp only [ptrTo, Option.map_some] at c6
  obtain ⟨_, _, hv, _, hrs⟩ := RSl.own hown
  cases hv
  have hnd := o.nodup p
  rw [hk] at hnd
  have n1 := (nodup_split hnd).1
  obtain ⟨b, off, rfl, hbB, hc⟩ := hrs.at_ (by rw [ptrs_length, hk]; simp; omega)
  have HC := Lib.hid hc
  have HKd := Lib.hid hk
  have HN := Lib.hid n1
  have HE := Lib.hid (fun k hk hne => h.other (i := i) (k := k) hSi hk hne)
  have HS := Lib.hid (fun q (hq : q ∈ F.kids p) => (o.dom p q ((o.mem p q).1 hq)).2)
  have e1 := kptr_same i kb w
  have hl1 : l1.length < (F.kids p).length := by rw [hk]; simp
  clear h hp hown hrs hnd n1 hc hk
  go_enter Try.func96, Try.ntmps96
  go_wp2_with fail
  go_loopw [3] (fun x wr => ∃ k : Nat, k ≤ l1.length ∧ x = .int .i64 k ∧ w = wr) (fun x _ => l1.length - (intOf x).toNat)
  case atStart => exact ⟨0, by omega, rfl, rfl⟩
  case round =>
    obtain ⟨k, hk, rfl, rfl⟩ := hrel
    have g1 := HC.out k (by rw [ptrs_length]; omega)
    rw [ptrs_at (by omega)] at g1
    have hkl : k < (F.kids p).length := by omega
    by_cases hlt : k < l1.length
    · have hx : (F.kids p)[k] = l1[k] := by
        have := HKd.out
        simp only [this]
        rw [List.getElem_append_left hlt]
      have e2 := HE.out (F.kids p)[k] (HS.out _ (List.getElem_mem hkl)) (by rw [hx]; exact fun e => HN.out (e ▸ List.getElem_mem hlt))
      clear hx
      go_wp2_with fail
      go_roundw
      case rel => exact ⟨k + 1, by omega, by go_num, by trivial⟩
      case measure => simp [intOf]; omega
    · have hx : (F.kids p)[k] = i := by
        have := HKd.out
        simp only [this]
        rw [List.getElem_append_right (by omega)]
        have : k - l1.length = 0 := by omega
        simp [this]
      rw [hx] at g1
      clear hx
      go_wp2_with fail
      go_ret
      have : k = l1.length := by omega
      subst this
      exact ⟨rfl, rfl⟩
end Go.Proofs.Ytmhhfljbocbolaa

namespace Go.Proofs.Ytmhhfljbocbolaa
open Go.RowKit
set_option linter.unusedVariables false

theorem Try.infoPK : (Try.prog.info? 77).map (fun i => (i.zero, i.size, i.bytes)) = some (some (.pointer none), 1, 8) := by kernel_rfl

theorem ptrs_append (bl : Nat → Nat) (l m : List Nat) : ptrs bl (l ++ m) = ptrs bl l ++ ptrs bl m := by simp [ptrs]
theorem one_ptrs' (bl : Nat → Nat) (l : List Nat) : ∀ u ∈ ptrs bl l, u.oneCell' = true := by
  intro u hu
  obtain ⟨x, _, rfl⟩ := List.mem_map.1 hu
  rfl

section
variable (w : World)

theorem wp_append_kn {o : Oper} {a : Act} {K : Act → World → Prop} {Q : Exit → Act → World → Prop} (s x : Operand)
    (ho : o.op = .call { callee := .builtin .append, args := #[s, x], argTypes := #[74, 74] }) (kb : Nat → Nat)
    (base : Nat) (v : Value) (xs : List Nat) (hs : a.eval s = v) (hown : w.ownsRow base 77 1 v xs.length (ptrs kb xs))
    (A : Option Addr) (m c : Nat) (ys : List Nat) (hm : m = ys.length) (hx : a.eval x = .slice A m c) (hr : RSl w w.heap.size A (ptrs kb ys)) (hlen : xs.length + ys.length ≤ 1000000) (hbase : base ≤ w.heap.size)
    (h : ∀ a' c' w', w'.ownsRow base 77 1 (.slice a' (xs ++ ys).length c') (xs ++ ys).length (ptrs kb (xs ++ ys)) → w.grownBy w' v.ownBlock → ((Value.slice a' (xs ++ ys).length c').ownBlock = v.ownBlock ∨ (Value.slice a' (xs ++ ys).length c').ownBlock = some w.heap.size) → K (a.put o.dst (.slice a' (xs ++ ys).length c')) w') :
    Oper.wp Try.prog o a w K Q := by
  subst hm
  obtain ⟨i0, hinf, hz0, hz1, hz2⟩ := info_parts Try.infoPK
  have hR := hr.reads
  rw [ptrs_length] at hR
  refine wp_append_any w s x 74 ho base 77 i0 (.pointer none) 1 8 Try.underlying74 hinf hz0 hz1 hz2 rfl (by decide) v xs.length (ptrs kb xs) hs hown w.heap.size A ys.length c (ptrs kb ys) hx hR (one_ptrs' kb ys) (by unfold maxLen; omega) (by omega) hbase ?_
  intro v' w' h2 h3 h4
  obtain ⟨a', c', rfl⟩ := own_slice h2
  have e : (xs ++ ys).length = xs.length + ys.length := List.length_append
  rw [← ptrs_append] at h2
  rw [← e] at h2 h4 ⊢
  exact h a' c' w' h2 h3 h4

theorem step_append_kn {ops : Array Oper} {o : Oper} {a : Act} {K : Act → World → Prop} {Q : Exit → Act → World → Prop} {E : Prop} (hgd : o.guard = none) (s x : Operand)
    (ho : o.op = .call { callee := .builtin .append, args := #[s, x], argTypes := #[74, 74] }) (kb : Nat → Nat)
    (base : Nat) (v : Value) (xs : List Nat) (hs : a.eval s = v) (hown : w.ownsRow base 77 1 v xs.length (ptrs kb xs))
    (A : Option Addr) (m c : Nat) (ys : List Nat) (hm : m = ys.length) (hx : a.eval x = .slice A m c) (hr : RSl w w.heap.size A (ptrs kb ys)) (hlen : xs.length + ys.length ≤ 1000000) (hbase : base ≤ w.heap.size)
    (h : ∀ a' c' w', w'.ownsRow base 77 1 (.slice a' (xs ++ ys).length c') (xs ++ ys).length (ptrs kb (xs ++ ys)) → w.grownBy w' v.ownBlock → ((Value.slice a' (xs ++ ys).length c').ownBlock = v.ownBlock ∨ (Value.slice a' (xs ++ ys).length c').ownBlock = some w.heap.size) → K (a.put o.dst (.slice a' (xs ++ ys).length c')) w') :
    if Region.wanted o (yielded ops a.tmps) = true then Oper.wp Try.prog o a w K Q else E := by
  have hw : Region.wanted o (yielded ops a.tmps) = true := by simp [Region.wanted, hgd]
  rw [if_pos hw]
  exact wp_append_kn w s x ho kb base v xs hs hown A m c ys hm hx hr hlen hbase h

theorem wpList_append_kn {ops : Array Oper} {rest : List Oper} {o : Oper} {a : Act} {Q : Exit → Act → World → Prop} (hgd : o.guard = none) (s x : Operand)
    (ho : o.op = .call { callee := .builtin .append, args := #[s, x], argTypes := #[74, 74] }) (kb : Nat → Nat)
    (base : Nat) (v : Value) (xs : List Nat) (hs : a.eval s = v) (hown : w.ownsRow base 77 1 v xs.length (ptrs kb xs))
    (A : Option Addr) (m c : Nat) (ys : List Nat) (hm : m = ys.length) (hx : a.eval x = .slice A m c) (hr : RSl w w.heap.size A (ptrs kb ys)) (hlen : xs.length + ys.length ≤ 1000000) (hbase : base ≤ w.heap.size)
    (h : ∀ a' c' w', w'.ownsRow base 77 1 (.slice a' (xs ++ ys).length c') (xs ++ ys).length (ptrs kb (xs ++ ys)) → w.grownBy w' v.ownBlock → ((Value.slice a' (xs ++ ys).length c').ownBlock = v.ownBlock ∨ (Value.slice a' (xs ++ ys).length c').ownBlock = some w.heap.size) → wpList Try.prog ops Q rest (a.put o.dst (.slice a' (xs ++ ys).length c')) w') :
    wpList Try.prog ops Q (o :: rest) a w :=
  wpList_plain hgd fun _ hK => wp_append_kn w s x ho kb base v xs hs hown A m c ys hm hx hr hlen hbase fun a' c' w' h2 h3 h4 => hK _ _ (h a' c' w' h2 h3 h4)
end

def Fo.setKids (F : Fo) (p : Nat) (L : List Nat) : Fo := ⟨F.par, fun q => if q = p then L else F.kids q⟩
def Fo.setPar (F : Fo) (i : Nat) (o : Option Nat) : Fo := ⟨fun q => if q = i then o else F.par q, F.kids⟩

theorem Kno.setKids {F : Fo} {S : Nat → Prop} {nd : Nat → Nd} {pl : Nat → Int} {B : Nat} {kb : Nat → Nat} {w : World} (h : Kno F S nd pl B kb w) {p : Nat} (hp : S p) {L : List Nat} {a : Option Addr} {c : Nat} (hL : w.ownsRow B 77 1 (.slice a L.length c) L.length (ptrs kb L)) :
    Kno (F.setKids p L) S nd pl B kb (w.setCell ⟨kb p, 7, none⟩ (.slice a L.length c)) := by
  refine ⟨fun i hi => ?_, h.inj⟩
  obtain ⟨_, _, _, _, _, hhp, _, _⟩ := h.node p hp
  obtain ⟨hB, aa, ac, ka, kc, hh, h1, h2⟩ := h.node i hi
  have o1 := own_setCell h1 (p := ⟨kb p, 7, none⟩) (own_ne h1 hhp (by decide)) (.slice a L.length c)
  have o2 := own_setCell h2 (p := ⟨kb p, 7, none⟩) (own_ne h2 hhp (by decide)) (.slice a L.length c)
  have o3 := own_setCell hL (p := ⟨kb p, 7, none⟩) (own_ne hL hhp (by decide)) (.slice a L.length c)
  by_cases e : i = p
  · subst e
    have ek : (F.setKids i L).kids i = L := by show (if i = i then L else _) = L; rw [if_pos rfl]
    rw [ek]
    refine ⟨hB, aa, ac, a, c, ?_, o1, o3⟩
    exact heap_setCell_same w (kb i) 7 _ _ _ hh
  · have ek : (F.setKids p L).kids i = F.kids i := by show (if i = p then L else _) = _; rw [if_neg e]
    rw [ek]
    refine ⟨hB, aa, ac, ka, kc, ?_, o1, o2⟩
    rw [Below.heap_setCell _ _ _ _ (fun e2 => e (h.inj i p hi hp e2))]
    exact hh

theorem Kno.setPar {F : Fo} {S : Nat → Prop} {nd : Nat → Nd} {pl : Nat → Int} {B : Nat} {kb : Nat → Nat} {w : World} (h : Kno F S nd pl B kb w) {p : Nat} (hp : S p) (o : Option Nat) :
    Kno (F.setPar p o) S nd pl B kb (w.setCell ⟨kb p, 6, none⟩ (ptrTo kb o)) := by
  refine ⟨fun i hi => ?_, h.inj⟩
  obtain ⟨_, _, _, _, _, hhp, _, _⟩ := h.node p hp
  obtain ⟨hB, aa, ac, ka, kc, hh, h1, h2⟩ := h.node i hi
  have o1 := own_setCell h1 (p := ⟨kb p, 6, none⟩) (own_ne h1 hhp (by decide)) (ptrTo kb o)
  have o2 := own_setCell h2 (p := ⟨kb p, 6, none⟩) (own_ne h2 hhp (by decide)) (ptrTo kb o)
  refine ⟨hB, aa, ac, ka, kc, ?_, o1, o2⟩
  by_cases e : i = p
  · subst e
    have ek : (F.setPar i o).par i = o := by show (if i = i then o else _) = o; rw [if_pos rfl]
    rw [ek]
    exact heap_setCell_same w (kb i) 6 _ _ _ hh
  · have ek : (F.setPar p o).par i = F.par i := by show (if i = p then o else _) = _; rw [if_neg e]
    rw [ek, Below.heap_setCell _ _ _ _ (fun e2 => e (h.inj i p hi hp e2))]
    exact hh

/-- Nothing that lies there has turned but the knots of S. -/
structure KTurn (S : Nat → Prop) (kb : Nat → Nat) (w w' : World) : Prop where
  os : w'.os = w.os
  tape : w'.tape = w.tape
  output : w'.output = w.output
  size : w.heap.size ≤ w'.heap.size
  block : ∀ b, b < w.heap.size → (∀ i, S i → b ≠ kb i) → w'.heap[b]? = w.heap[b]?
theorem KTurn.refl (S : Nat → Prop) (kb : Nat → Nat) (w : World) : KTurn S kb w w := ⟨rfl, rfl, rfl, Nat.le_refl _, fun _ _ _ => rfl⟩
theorem KTurn.trans {S : Nat → Prop} {kb : Nat → Nat} {a b c : World} (h : KTurn S kb a b) (k : KTurn S kb b c) : KTurn S kb a c :=
  ⟨k.os.trans h.os, k.tape.trans h.tape, k.output.trans h.output, Nat.le_trans h.size k.size, fun q h1 h2 => (k.block q (Nat.lt_of_lt_of_le h1 h.size) h2).trans (h.block q h1 h2)⟩
theorem KTurn.of_below {S : Nat → Prop} {kb : Nat → Nat} {a b : World} (h : Below a.heap.size a b) : KTurn S kb a b := ⟨h.os, h.tape, h.output, h.size, fun q h1 _ => h.block q h1⟩
theorem KTurn.set {S : Nat → Prop} {kb : Nat → Nat} {w w' : World} (h : KTurn S kb w w') {i : Nat} (hi : S i) (j : Nat) (u : Value) : KTurn S kb w (w'.setCell ⟨kb i, j, none⟩ u) :=
  ⟨h.os, h.tape, h.output, by simpa [World.setCell] using h.size, fun b hb hn => (Below.heap_setCell _ _ _ _ (by exact hn i hi)).trans (h.block b hb hn)⟩
theorem KTurn.below {S : Nat → Prop} {kb : Nat → Nat} {B : Nat} {a b : World} (h : KTurn S kb a b) (hB : B ≤ a.heap.size) (hk : ∀ i, S i → B ≤ kb i) : Below B a b :=
  ⟨h.os, h.tape, h.output, h.size, fun q hq => h.block q (by omega) (fun i hi e => by have := hk i hi; omega)⟩
theorem KTurn.drew {S : Nat → Prop} {kb : Nat → Nat} {w w' : World} (h : KTurn S kb w w') : KTurn S kb w w'.drew := ⟨h.os, h.tape, h.output, h.size, h.block⟩
/-- A row that is no knot is kept. -/
theorem KTurn.own {S : Nat → Prop} {kb : Nat → Nat} {w w' : World} (h : KTurn S kb w w') {base e size n : Nat} {v : Value} {xs : List Value} (ho : w.ownsRow base e size v n xs) (hn : ∀ i, S i → v.ownBlock ≠ some (kb i)) : w'.ownsRow base e size v n xs := by
  refine ⟨ho.1, ?_⟩
  rcases ho.2 with h2 | ⟨g, cap, cur, hv, hg, hh, r⟩
  · exact .inl h2
  · refine .inr ⟨g, cap, cur, hv, hg, ?_, r⟩
    rw [h.block g (Array.getElem?_eq_some_iff.1 hh).1 (fun i hi e => hn i hi (by rw [hv, Value.ownBlock, e]))]; exact hh
end Go.Proofs.Ytmhhfljbocbolaa

namespace Go.Proofs.Ytmhhfljbocbolaa
open Go.RowKit
set_option linter.unusedVariables false

def CutPost (F : Fo) (S : Nat → Prop) (nd : Nat → Nd) (pl : Nat → Int) (B : Nat) (kb : Nat → Nat) (i : Nat) (w : World) (e : Ending) (w' : World) : Prop :=
  e = .returned (.tuple #[]) ∧ Kno (F.cut i) S nd pl B kb w' ∧ KTurn S kb w w'

set_option maxRecDepth 100000 in
set_option maxHeartbeats 4000000 in
theorem cut_b {F : Fo} {S : Nat → Prop} {ht : Nat → Nat} (o : F.Ok S ht) {nd : Nat → Nd} {pl : Nat → Int} {B : Nat} {kb : Nat → Nat} {w : World} (h : Kno F S nd pl B kb w) (hBw : B ≤ w.heap.size) (i p : Nat) (hp : F.par i = some p) (l1 l2 : List Nat) (hk : F.kids p = l1 ++ i :: l2) (hlen : (F.kids p).length ≤ 100000)
    (ka : Option Addr) (kc : Nat) (c7 : w.cell? ⟨kb p, 7, none⟩ = some (.slice ka (F.kids p).length kc)) (hkc : (F.kids p).length ≤ kc) (hown : w.ownsRow B 77 1 (.slice ka (F.kids p).length kc) (F.kids p).length (ptrs kb (F.kids p))) (hcap : ¬ kc = l1.length + 1) :
    Calls Try.prog 73 #[.pointer (some ⟨kb i, 0, none⟩)] w (CutPost F S nd pl B kb i w) := by
  have HP := Lib.hid (place_some o h i p hp l1 l2 hk hlen)
  obtain ⟨hSp, hSi⟩ := o.dom p i hp
  have hpi : p ≠ i := fun e => by have := o.ht p i hp; rw [e] at this; omega
  have hne : kb p ≠ kb i := fun e => hpi (h.inj p i hSp hSi e)
  obtain ⟨if_, c6, -⟩ := h.cells hSi
  obtain ⟨pf, -⟩ := h.cells hSp
  rw [hp] at c6
  simp only [ptrTo, Option.map_some] at c6
  obtain ⟨_, _, hv, _, hrs⟩ := RSl.own hown
  cases hv
  have hkl : (F.kids p).length = l1.length + l2.length + 1 := by rw [hk]; simp; omega
  obtain ⟨b, off, rfl, hbB, hc⟩ := hrs.at_ (by rw [ptrs_length]; omega)
  have hlp := h.lt hSp
  have hli := h.lt hSi
  have hnd := o.nodup p
  have HL2 : Hid ((F.kids p).length - (l1.length + 1) = l2.length) := by unfold Hid; omega
  have HL3 : Hid (l1.length + l2.length ≤ 100000) := by unfold Hid; omega
  have hb0 : Below w.heap.size w (w.alloc (.cells #[] 77)).drew := ((Below.refl _ _).alloc (Nat.le_refl _) _).drew
  have HB0 := Lib.hid hb0
  have HE : Hid ((w.alloc (.cells #[] 77)).drew.ownsRow w.heap.size 77 1 (.slice (some ⟨w.heap.size, 0, none⟩) 0 0) 0 []) := own_empty w 77
  have HR1 : Hid (∀ W, Below w.heap.size w W → RSl W W.heap.size (some ⟨b, off, none⟩) (ptrs kb l1)) := by
    intro W hb
    rcases Nat.eq_zero_or_pos l1.length with h0 | h0
    · rw [List.eq_nil_of_length_eq_zero h0]; exact .inl rfl
    · refine .inr ⟨b, off, rfl, by have := hb.size; omega, fun q hq => ?_⟩
      rw [ptrs_length] at hq
      rw [hb.cell (p := ⟨b, _, none⟩) hbB, hc q (by rw [ptrs_length]; omega), ptrs_at hq, ptrs_at (by omega)]
      simp only [hk]
      rw [List.getElem_append_left hq]
  have HR2 : Hid (∀ W, Below w.heap.size w W → RSl W W.heap.size (some ⟨b, off + (l1.length + 1), none⟩) (ptrs kb l2)) := by
    intro W hb
    refine .inr ⟨b, off + (l1.length + 1), rfl, by have := hb.size; omega, fun q hq => ?_⟩
    rw [ptrs_length] at hq
    have e : off + (l1.length + 1) + q = off + (l1.length + 1 + q) := by omega
    rw [e, hb.cell (p := ⟨b, _, none⟩) hbB, hc (l1.length + 1 + q) (by rw [ptrs_length]; omega), ptrs_at hq, ptrs_at (by omega)]
    simp only [hk]
    rw [List.getElem_append_right (by omega)]
    have e2 : l1.length + 1 + q - l1.length = q + 1 := by omega
    simp only [e2, List.getElem_cons_succ]
  have hcell : ∀ W, Below w.heap.size w W → W.cell? ⟨kb i, 6, none⟩ = some (.pointer (some ⟨kb p, 0, none⟩)) ∧ W.cell? ⟨kb p, 7, none⟩ = some (.slice (some ⟨b, off, none⟩) (F.kids p).length kc) := fun W hb => ⟨(hb.cell (p := ⟨kb i, _, none⟩) hli).trans c6, (hb.cell (p := ⟨kb p, _, none⟩) hlp).trans c7⟩
  have hfz : ∀ W, Below w.heap.size w W → (∀ j, W.frozen? ⟨kb p, j, none⟩ = false) ∧ (∀ j, W.frozen? ⟨kb i, j, none⟩ = false) := fun W hb => ⟨fun j => (World.frozen?_of_block (hb.block _ hlp)).trans (pf j), fun j => (World.frozen?_of_block (hb.block _ hli)).trans (if_ j)⟩
  have HC1 := Lib.hid (hcell _ hb0)
  have HB1 : Hid (∀ w1, (w.alloc (.cells #[] 77)).drew.grownBy w1 (Value.slice (some ⟨w.heap.size, 0, none⟩) 0 0).ownBlock → Below w.heap.size w w1 ∧ (w1.cell? ⟨kb i, 6, none⟩ = some (.pointer (some ⟨kb p, 0, none⟩)) ∧ w1.cell? ⟨kb p, 7, none⟩ = some (.slice (some ⟨b, off, none⟩) (F.kids p).length kc))) := by
    intro w1 hg
    have hb : Below w.heap.size w w1 := hb0.grown hg hb0.size (fun k e => by cases e; exact Nat.le_refl _)
    exact ⟨hb, hcell _ hb⟩
  have HB2 : Hid (∀ w1 w2, Below w.heap.size w w1 → ∀ {a1 : Option Addr} {c1 : Nat}, w1.ownsRow w.heap.size 77 1 (.slice a1 l1.length c1) l1.length (ptrs kb l1) → w1.grownBy w2 (Value.slice a1 l1.length c1).ownBlock → Below w.heap.size w w2 ∧ (w2.cell? ⟨kb i, 6, none⟩ = some (.pointer (some ⟨kb p, 0, none⟩)) ∧ w2.cell? ⟨kb p, 7, none⟩ = some (.slice (some ⟨b, off, none⟩) (F.kids p).length kc)) ∧ w2.frozen? ⟨kb p, 7, none⟩ = false ∧ w2.frozen? ⟨kb i, 6, none⟩ = false ∧ True) := by
    intro w1 w2 hb a1 c1 ho hg
    have hb2 : Below w.heap.size w w2 := hb.grown hg hb.size (fun k e => (ho.lt k e).1)
    exact ⟨hb2, hcell _ hb2, (hfz _ hb2).1 7, (hfz _ hb2).2 6, trivial⟩
  have HZ : Hid (∀ (w2 : World) (v : Value), w2.cell? ⟨kb i, 6, none⟩ = some (.pointer (some ⟨kb p, 0, none⟩)) → w2.frozen? ⟨kb i, 6, none⟩ = false → (w2.setCell ⟨kb p, 7, none⟩ v).cell? ⟨kb i, 6, none⟩ = some (.pointer (some ⟨kb p, 0, none⟩)) ∧ (w2.setCell ⟨kb p, 7, none⟩ v).frozen? ⟨kb i, 6, none⟩ = false) := by
    intro w2 v h1 h2
    exact ⟨by rw [World.cell?_setCell_far _ _ _ _ (by exact hne)]; exact h1, by rw [World.frozen?_setCell]; exact h2⟩
  have HF : Hid (∀ (w2 : World) (a2 : Option Addr) (c2 : Nat), Below w.heap.size w w2 → w2.ownsRow w.heap.size 77 1 (.slice a2 (l1 ++ l2).length c2) (l1 ++ l2).length (ptrs kb (l1 ++ l2)) →
      Kno (F.cut i) S nd pl B kb ((w2.setCell ⟨kb p, 7, none⟩ (.slice a2 (l1 ++ l2).length c2)).setCell ⟨kb i, 6, none⟩ (.pointer none)) ∧ KTurn S kb w ((w2.setCell ⟨kb p, 7, none⟩ (.slice a2 (l1 ++ l2).length c2)).setCell ⟨kb i, 6, none⟩ (.pointer none))) := by
    intro w2 a2 c2 hb ho
    have hk1 := ((h.up hb).setKids hSp (own_base ho hBw)).setPar hSi none
    have e : (F.setKids p (l1 ++ l2)).setPar i none = F.cut i := by
      refine Fo.ext2 (fun q => rfl) (fun q => ?_)
      show (if q = p then l1 ++ l2 else F.kids q) = (F.kids q).filter _
      by_cases e : q = p
      · rw [if_pos e, e, hk, filter_split (by rw [← hk]; exact hnd)]
      · rw [if_neg e, filter_ne_self]
        intro hm
        rw [o.mem, hp] at hm
        cases hm; exact e rfl
    rw [e] at hk1
    exact ⟨hk1, ((KTurn.of_below hb).set hSp 7 _).set hSi 6 _⟩
  have hl1 : l1.length < (F.kids p).length := by omega
  have hA : l1.length ≤ kc := by omega
  have hA1 : l1.length + 1 ≤ kc := by omega
  have hA2 : l1.length + 1 ≤ (F.kids p).length := by omega
  have hA3 : (0 : Int) ≤ (l1.length : Int) + 1 := by omega
  have hA4 : ((l1.length : Int) + 1).toNat = l1.length + 1 := by omega
  have hA5 : (l1.length : Int) + 1 ≤ ((F.kids p).length : Int) := by omega
  have hA6 : IntKind.i64.wrap ((l1.length : Int) + 1) = (l1.length : Int) + 1 := IntWalk.i64_in _ (by omega)
  clear h hp hown hrs hk pf if_ hc hcell hfz hb0 hkl hnd
  go_enter Try.func73, Try.ntmps73
  go_wp2_with fail
  refine HP.out.mono ?_
  rintro e w1 ⟨rfl, rfl⟩
  go_wp2_with fail
  refine wp_region_G (G3 28 28 28 (fun w' => w'.cell? ⟨kb i, 6, none⟩ = some (.pointer (some ⟨kb p, 0, none⟩)) ∧ w'.cell? ⟨kb p, 7, none⟩ = some (.slice (some ⟨b, off, none⟩) (F.kids p).length kc)) (fun _ => True) (fun _ => True)) (by kernel_rfl) ?_
  have hG0 : G3 28 28 28 (fun w' => w'.cell? ⟨kb i, 6, none⟩ = some (.pointer (some ⟨kb p, 0, none⟩)) ∧ w'.cell? ⟨kb p, 7, none⟩ = some (.slice (some ⟨b, off, none⟩) (F.kids p).length kc)) (fun _ => True) (fun _ => True) (Array.replicate 29 false) w.drew := ⟨fun _ => ⟨c6, c7⟩, fun _ => trivial, fun _ => trivial⟩
  refine wpAnyG_take0 (i := 0) (v := ?v0) rfl (by decide +kernel) (by decide +kernel) (by decide +kernel) (fun _ _ _ h => h) (fun l w => G3.set (by decide) (by decide) (by decide) l w) (Or.inl ⟨by rfl, ?hy0⟩) hG0 (fun hG1 => ?rest0)
  case hy0 => intro W' _; go_simp <;> with_reducible rfl
  clear hG0
  simp only [Act.put, List.setIfInBounds_toArray]
  refine wpAnyG_take0 (i := 1) (v := ?v1) rfl (by decide +kernel) (by decide +kernel) (by decide +kernel) (fun _ _ _ h => h) (fun l w => G3.set (by decide) (by decide) (by decide) l w) (Or.inl ⟨by rfl, ?hy1⟩) hG1 (fun hG2 => ?rest1)
  case hy1 => intro W' _; go_simp <;> with_reducible rfl
  clear hG1
  simp only [Act.put]
  refine wpAnyG_take0 (i := 2) (v := ?v2) rfl (by decide +kernel) (by decide +kernel) (by decide +kernel) (fun _ _ _ h => h) (fun l w => G3.set (by decide) (by decide) (by decide) l w) (Or.inl ⟨by rfl, ?hy2⟩) hG2 (fun hG3 => ?rest2)
  case hy2 => intro W' _; go_simp <;> with_reducible rfl
  clear hG2
  simp only [Act.put]
  refine wpAnyG_take (i := 3) (f := 28) (v := ?v3) rfl (by decide +kernel) (by decide +kernel) (by decide +kernel) (by decide +kernel) rfl rfl (fun _ _ _ h => h) (fun _ _ h g => g.1 h) (fun l w => G3.set (by decide) (by decide) (by decide) l w) (Or.inl ⟨by rfl, ?hy3⟩) hG3 (fun hG4 => ?rest3)
  case hy3 => intro W' hS; (try dsimp only at hS); go_simp <;> with_reducible rfl
  clear hG3
  simp only [Act.put]
  refine wpAnyG_take0 (i := 5) (v := ?v5) rfl (by decide +kernel) (by decide +kernel) (by decide +kernel) (fun _ _ _ h => h) (fun l w => G3.set (by decide) (by decide) (by decide) l w) (Or.inl ⟨by rfl, ?hy5⟩) hG4 (fun hG5 => ?rest5)
  case hy5 => intro W' _; go_simp <;> with_reducible rfl
  clear hG4
  simp only [Act.put]
  refine wpAnyG_take0 (i := 6) (v := ?v6) rfl (by decide +kernel) (by decide +kernel) (by decide +kernel) (fun _ _ _ h => h) (fun l w => G3.set (by decide) (by decide) (by decide) l w) (Or.inl ⟨by rfl, ?hy6⟩) hG5 (fun hG6 => ?rest6)
  case hy6 => intro W' _; go_simp <;> with_reducible rfl
  clear hG5
  simp only [Act.put]
  refine wpAnyG_take0 (i := 7) (v := ?v7) rfl (by decide +kernel) (by decide +kernel) (by decide +kernel) (fun _ _ _ h => h) (fun l w => G3.set (by decide) (by decide) (by decide) l w) (Or.inl ⟨by rfl, ?hy7⟩) hG6 (fun hG7 => ?rest7)
  case hy7 => intro W' _; go_simp <;> with_reducible rfl
  clear hG6
  simp only [Act.put]
  refine wpAnyG_take (i := 8) (f := 28) (v := ?v8) rfl (by decide +kernel) (by decide +kernel) (by decide +kernel) (by decide +kernel) rfl rfl (fun _ _ _ h => h) (fun _ _ h g => g.1 h) (fun l w => G3.set (by decide) (by decide) (by decide) l w) (Or.inl ⟨by rfl, ?hy8⟩) hG7 (fun hG8 => ?rest8)
  case hy8 => intro W' hS; (try dsimp only at hS); go_simp <;> with_reducible rfl
  clear hG7
  simp only [Act.put]
  refine wpAnyG_take0 (i := 9) (v := ?v9) rfl (by decide +kernel) (by decide +kernel) (by decide +kernel) (fun _ _ _ h => h) (fun l w => G3.set (by decide) (by decide) (by decide) l w) (Or.inl ⟨by rfl, ?hy9⟩) hG8 (fun hG9 => ?rest9)
  case hy9 => intro W' _; go_simp <;> with_reducible rfl
  clear hG8
  simp only [Act.put]
  refine wpAnyG_take0 (i := 10) (v := ?v10) rfl (by decide +kernel) (by decide +kernel) (by decide +kernel) (fun _ _ _ h => h) (fun l w => G3.set (by decide) (by decide) (by decide) l w) (Or.inl ⟨by rfl, ?hy10⟩) hG9 (fun hG10 => ?rest10)
  case hy10 => intro W' _; go_simp <;> with_reducible rfl
  clear hG9
  simp only [Act.put]
  refine wpAnyG_take (i := 11) (f := 28) (v := ?v11) rfl (by decide +kernel) (by decide +kernel) (by decide +kernel) (by decide +kernel) rfl rfl (fun _ _ _ h => h) (fun _ _ h g => g.1 h) (fun l w => G3.set (by decide) (by decide) (by decide) l w) (Or.inl ⟨by rfl, ?hy11⟩) hG10 (fun hG11 => ?rest11)
  case hy11 => intro W' hS; (try dsimp only at hS); go_simp <;> with_reducible rfl
  clear hG10
  simp only [Act.put]
  refine wpAnyG_take0 (i := 12) (v := ?v12) rfl (by decide +kernel) (by decide +kernel) (by decide +kernel) (fun _ _ _ h => h) (fun l w => G3.set (by decide) (by decide) (by decide) l w) (Or.inl ⟨by rfl, ?hy12⟩) hG11 (fun hG12 => ?rest12)
  case hy12 => intro W' _; go_simp <;> with_reducible rfl
  clear hG11
  simp only [Act.put]
  refine wpAnyG_take0 (i := 13) (v := ?v13) rfl (by decide +kernel) (by decide +kernel) (by decide +kernel) (fun _ _ _ h => h) (fun l w => G3.set (by decide) (by decide) (by decide) l w) (Or.inl ⟨by rfl, ?hy13⟩) hG12 (fun hG13 => ?rest13)
  case hy13 => intro W' _; go_simp <;> with_reducible rfl
  clear hG12
  simp only [Act.put]
  refine wpAnyG_take0 (i := 15) (v := ?v15) rfl (by decide +kernel) (by decide +kernel) (by decide +kernel) (fun _ _ _ h => h) (fun l w => G3.set (by decide) (by decide) (by decide) l w) (Or.inl ⟨by rfl, ?hy15⟩) hG13 (fun hG14 => ?rest15)
  case hy15 => intro W' _; go_simp <;> with_reducible rfl
  clear hG13
  simp only [Act.put]
  refine wpAnyG_take0 (i := 16) (v := ?v16) rfl (by decide +kernel) (by decide +kernel) (by decide +kernel) (fun _ _ _ h => h) (fun l w => G3.set (by decide) (by decide) (by decide) l w) (Or.inl ⟨by rfl, ?hy16⟩) hG14 (fun hG15 => ?rest16)
  case hy16 => intro W' _; go_simp <;> with_reducible rfl
  clear hG14
  simp only [Act.put]
  refine wpAnyG_take0 (i := 17) (v := ?v17) rfl (by decide +kernel) (by decide +kernel) (by decide +kernel) (fun _ _ _ h => h) (fun l w => G3.set (by decide) (by decide) (by decide) l w) (Or.inl ⟨by rfl, ?hy17⟩) hG15 (fun hG16 => ?rest17)
  case hy17 => intro W' _; go_simp <;> with_reducible rfl
  clear hG15
  simp only [Act.put]
  refine wpAnyG_take (i := 18) (f := 28) (v := ?v18) rfl (by decide +kernel) (by decide +kernel) (by decide +kernel) (by decide +kernel) rfl rfl (fun _ _ _ h => h) (fun _ _ h g => g.1 h) (fun l w => G3.set (by decide) (by decide) (by decide) l w) (Or.inl ⟨by rfl, ?hy18⟩) hG16 (fun hG17 => ?rest18)
  case hy18 => intro W' hS; (try dsimp only at hS); go_simp <;> with_reducible rfl
  clear hG16
  simp only [Act.put]
  refine wpAnyG_take0 (i := 19) (v := ?v19) rfl (by decide +kernel) (by decide +kernel) (by decide +kernel) (fun _ _ _ h => h) (fun l w => G3.set (by decide) (by decide) (by decide) l w) (Or.inl ⟨by rfl, ?hy19⟩) hG17 (fun hG18 => ?rest19)
  case hy19 => intro W' _; go_simp <;> with_reducible rfl
  clear hG17
  simp only [Act.put]
  refine wpAnyG_take0 (i := 20) (v := ?v20) rfl (by decide +kernel) (by decide +kernel) (by decide +kernel) (fun _ _ _ h => h) (fun l w => G3.set (by decide) (by decide) (by decide) l w) (Or.inl ⟨by rfl, ?hy20⟩) hG18 (fun hG19 => ?rest20)
  case hy20 => intro W' _; go_simp <;> with_reducible rfl
  clear hG18
  simp only [Act.put]
  refine wpAnyG_take (i := 21) (f := 28) (v := ?v21) rfl (by decide +kernel) (by decide +kernel) (by decide +kernel) (by decide +kernel) rfl rfl (fun _ _ _ h => h) (fun _ _ h g => g.1 h) (fun l w => G3.set (by decide) (by decide) (by decide) l w) (Or.inl ⟨by rfl, ?hy21⟩) hG19 (fun hG20 => ?rest21)
  case hy21 => intro W' hS; (try dsimp only at hS); go_simp <;> with_reducible rfl
  clear hG19
  simp only [Act.put]
  refine wpAnyG_take0 (i := 22) (v := ?v22) rfl (by decide +kernel) (by decide +kernel) (by decide +kernel) (fun _ _ _ h => h) (fun l w => G3.set (by decide) (by decide) (by decide) l w) (Or.inl ⟨by rfl, ?hy22⟩) hG20 (fun hG21 => ?rest22)
  case hy22 => intro W' _; go_simp <;> with_reducible rfl
  clear hG20
  simp only [Act.put]
  refine wpAnyG_take0 (i := 23) (v := ?v23) rfl (by decide +kernel) (by decide +kernel) (by decide +kernel) (fun _ _ _ h => h) (fun l w => G3.set (by decide) (by decide) (by decide) l w) (Or.inl ⟨by rfl, ?hy23⟩) hG21 (fun hG22 => ?rest23)
  case hy23 => intro W' _; go_simp <;> with_reducible rfl
  clear hG21
  simp only [Act.put]
  refine wpAnyG_take0 (i := 24) (v := ?v24) rfl (by decide +kernel) (by decide +kernel) (by decide +kernel) (fun _ _ _ h => h) (fun l w => G3.set (by decide) (by decide) (by decide) l w) (Or.inl ⟨by rfl, ?hy24⟩) hG22 (fun hG23 => ?rest24)
  case hy24 => intro W' _; go_simp <;> with_reducible rfl
  clear hG22
  simp only [Act.put]
  refine wpAnyG_one (i := 4) (by decide +kernel) rfl (fun K' hK => ?_)
  go_simp
  refine hK.out _ _ ⟨fun _ => HC1.out, fun _ => trivial, fun _ => trivial⟩ (fun hG9 => ?_); clear hK K' hG9 hG23
  refine wpAnyG_one (i := 14) (by decide +kernel) rfl (fun K' hK => ?_)
  refine step_append_kn _ rfl (.tmp 11) (.tmp 20) rfl kb w.heap.size (.slice (some ⟨w.heap.size, 0, none⟩) 0 0) [] rfl HE.out (some ⟨b, off, none⟩) l1.length kc l1 rfl rfl (HR1.out _ HB0.out) (by simp; omega) (by simp) ?_
  intro a1 c1 w1 hown1 hg1 hat1
  obtain ⟨hb1, hc1⟩ := HB1.out w1 hg1
  simp only [List.nil_append] at hown1 hat1 ⊢
  have HO1 := Lib.hid hown1
  have Hb1 := Lib.hid hb1
  refine hK.out _ _ ⟨fun _ => hc1, fun _ => trivial, fun _ => trivial⟩ (fun hG9 => ?_); clear hK K' hG9 hg1 hat1 hown1 hb1
  refine wpAnyG_one (i := 25) (by decide +kernel) rfl (fun K' hK => ?_)
  refine step_append_kn _ rfl (.tmp 21) (.tmp 31) rfl kb w.heap.size (.slice a1 l1.length c1) l1 rfl HO1.out (some ⟨b, off + (l1.length + 1), none⟩) ((F.kids p).length - (l1.length + 1)) (kc - (l1.length + 1)) l2 HL2.out rfl (HR2.out _ Hb1.out) (by have := HL3.out; omega) Hb1.out.size ?_
  intro a2 c2 w2 hown2 hg2 hat2
  obtain ⟨hb2, hc2, hf2, hf6, hc6⟩ := HB2.out w1 w2 Hb1.out HO1.out hg2
  have HO2 := Lib.hid hown2
  have Hb2 := Lib.hid hb2
  refine hK.out _ _ ⟨fun _ => hc2, fun _ => trivial, fun _ => trivial⟩ (fun hG9 => ?_); clear hK K' hG9 hg2 hat2 hown2 hb2
  refine wpAnyG_one (i := 26) (by decide +kernel) rfl (fun K' hK => ?_)
  go_simp
  refine hK.out _ _ ⟨fun _ => hc2, fun _ => trivial, fun _ => trivial⟩ (fun hG9 => ?_); clear hK K' hG9
  refine wpAnyG_one (i := 27) (by decide +kernel) rfl (fun K' hK => ?_)
  go_simp
  refine hK.out _ _ ⟨fun _ => hc2, fun _ => trivial, fun _ => trivial⟩ (fun hG9 => ?_); clear hK K' hG9
  refine wpAnyG_one (i := 28) (by decide +kernel) rfl (fun K' hK => ?_)
  obtain ⟨hc26, hc27⟩ := hc2
  go_simp
  refine hK.out _ _ ⟨fun h => absurd h (by decide), fun h => absurd h (by decide), fun h => absurd h (by decide)⟩ (fun hG9 => ?_); clear hK K' hG9
  refine wpAnyG_done (by decide +kernel) ?_ _
  obtain ⟨c6z, f6z⟩ := HZ.out w2 (.slice a2 (l1 ++ l2).length c2) hc26 hf6
  have eL : (l1 ++ l2).length = l1.length + l2.length := List.length_append
  rw [eL] at c6z f6z
  clear eL
  go_wp2_with fail
  go_end0
  have := HF.out w2 a2 c2 Hb2.out HO2.out
  rw [List.length_append] at this
  exact ⟨rfl, this.1, this.2⟩

set_option maxRecDepth 100000 in
set_option maxHeartbeats 4000000 in
theorem cut_a {F : Fo} {S : Nat → Prop} {ht : Nat → Nat} (o : F.Ok S ht) {nd : Nat → Nd} {pl : Nat → Int} {B : Nat} {kb : Nat → Nat} {w : World} (h : Kno F S nd pl B kb w) (hBw : B ≤ w.heap.size) (i p : Nat) (hp : F.par i = some p) (l1 l2 : List Nat) (hk : F.kids p = l1 ++ i :: l2) (hlen : (F.kids p).length ≤ 100000)
    (ka : Option Addr) (kc : Nat) (c7 : w.cell? ⟨kb p, 7, none⟩ = some (.slice ka (F.kids p).length kc)) (hkc : (F.kids p).length ≤ kc) (hown : w.ownsRow B 77 1 (.slice ka (F.kids p).length kc) (F.kids p).length (ptrs kb (F.kids p))) (hcap : kc = l1.length + 1) :
    Calls Try.prog 73 #[.pointer (some ⟨kb i, 0, none⟩)] w (CutPost F S nd pl B kb i w) := by
  have HP := Lib.hid (place_some o h i p hp l1 l2 hk hlen)
  obtain ⟨hSp, hSi⟩ := o.dom p i hp
  have hpi : p ≠ i := fun e => by have := o.ht p i hp; rw [e] at this; omega
  have hne : kb p ≠ kb i := fun e => hpi (h.inj p i hSp hSi e)
  obtain ⟨if_, c6, -⟩ := h.cells hSi
  obtain ⟨pf, -⟩ := h.cells hSp
  rw [hp] at c6
  simp only [ptrTo, Option.map_some] at c6
  obtain ⟨_, _, hv, _, hrs⟩ := RSl.own hown
  cases hv
  have hkl : (F.kids p).length = l1.length + l2.length + 1 := by rw [hk]; simp; omega
  obtain ⟨b, off, rfl, hbB, hc⟩ := hrs.at_ (by rw [ptrs_length]; omega)
  have hlp := h.lt hSp
  have hli := h.lt hSi
  have hnd := o.nodup p
  have HL2 : Hid ((F.kids p).length - (l1.length + 1) = l2.length) := by unfold Hid; omega
  have HL3 : Hid (l1.length + l2.length ≤ 100000) := by unfold Hid; omega
  have hb0 : Below w.heap.size w (w.alloc (.cells #[] 77)).drew := ((Below.refl _ _).alloc (Nat.le_refl _) _).drew
  have HB0 := Lib.hid hb0
  have HE : Hid ((w.alloc (.cells #[] 77)).drew.ownsRow w.heap.size 77 1 (.slice (some ⟨w.heap.size, 0, none⟩) 0 0) 0 []) := own_empty w 77
  have HR1 : Hid (∀ W, Below w.heap.size w W → RSl W W.heap.size (some ⟨b, off, none⟩) (ptrs kb l1)) := by
    intro W hb
    rcases Nat.eq_zero_or_pos l1.length with h0 | h0
    · rw [List.eq_nil_of_length_eq_zero h0]; exact .inl rfl
    · refine .inr ⟨b, off, rfl, by have := hb.size; omega, fun q hq => ?_⟩
      rw [ptrs_length] at hq
      rw [hb.cell (p := ⟨b, _, none⟩) hbB, hc q (by rw [ptrs_length]; omega), ptrs_at hq, ptrs_at (by omega)]
      simp only [hk]
      rw [List.getElem_append_left hq]
  have hl20 : l2 = [] := List.eq_nil_of_length_eq_zero (by omega)
  have HL4 : Hid (0 = l2.length) := by rw [hl20]; rfl
  have HR2 : Hid (∀ W, RSl W W.heap.size (some ⟨b, off, none⟩) (ptrs kb l2)) := by
    intro W
    rw [hl20]; exact .inl rfl
  have hcell : ∀ W, Below w.heap.size w W → W.cell? ⟨kb i, 6, none⟩ = some (.pointer (some ⟨kb p, 0, none⟩)) ∧ W.cell? ⟨kb p, 7, none⟩ = some (.slice (some ⟨b, off, none⟩) (F.kids p).length kc) := fun W hb => ⟨(hb.cell (p := ⟨kb i, _, none⟩) hli).trans c6, (hb.cell (p := ⟨kb p, _, none⟩) hlp).trans c7⟩
  have hfz : ∀ W, Below w.heap.size w W → (∀ j, W.frozen? ⟨kb p, j, none⟩ = false) ∧ (∀ j, W.frozen? ⟨kb i, j, none⟩ = false) := fun W hb => ⟨fun j => (World.frozen?_of_block (hb.block _ hlp)).trans (pf j), fun j => (World.frozen?_of_block (hb.block _ hli)).trans (if_ j)⟩
  have HC1 := Lib.hid (hcell _ hb0)
  have HB1 : Hid (∀ w1, (w.alloc (.cells #[] 77)).drew.grownBy w1 (Value.slice (some ⟨w.heap.size, 0, none⟩) 0 0).ownBlock → Below w.heap.size w w1 ∧ (w1.cell? ⟨kb i, 6, none⟩ = some (.pointer (some ⟨kb p, 0, none⟩)) ∧ w1.cell? ⟨kb p, 7, none⟩ = some (.slice (some ⟨b, off, none⟩) (F.kids p).length kc))) := by
    intro w1 hg
    have hb : Below w.heap.size w w1 := hb0.grown hg hb0.size (fun k e => by cases e; exact Nat.le_refl _)
    exact ⟨hb, hcell _ hb⟩
  have HB2 : Hid (∀ w1 w2, Below w.heap.size w w1 → ∀ {a1 : Option Addr} {c1 : Nat}, w1.ownsRow w.heap.size 77 1 (.slice a1 l1.length c1) l1.length (ptrs kb l1) → w1.grownBy w2 (Value.slice a1 l1.length c1).ownBlock → Below w.heap.size w w2 ∧ (w2.cell? ⟨kb i, 6, none⟩ = some (.pointer (some ⟨kb p, 0, none⟩)) ∧ w2.cell? ⟨kb p, 7, none⟩ = some (.slice (some ⟨b, off, none⟩) (F.kids p).length kc)) ∧ w2.frozen? ⟨kb p, 7, none⟩ = false ∧ w2.frozen? ⟨kb i, 6, none⟩ = false ∧ True) := by
    intro w1 w2 hb a1 c1 ho hg
    have hb2 : Below w.heap.size w w2 := hb.grown hg hb.size (fun k e => (ho.lt k e).1)
    exact ⟨hb2, hcell _ hb2, (hfz _ hb2).1 7, (hfz _ hb2).2 6, trivial⟩
  have HZ : Hid (∀ (w2 : World) (v : Value), w2.cell? ⟨kb i, 6, none⟩ = some (.pointer (some ⟨kb p, 0, none⟩)) → w2.frozen? ⟨kb i, 6, none⟩ = false → (w2.setCell ⟨kb p, 7, none⟩ v).cell? ⟨kb i, 6, none⟩ = some (.pointer (some ⟨kb p, 0, none⟩)) ∧ (w2.setCell ⟨kb p, 7, none⟩ v).frozen? ⟨kb i, 6, none⟩ = false) := by
    intro w2 v h1 h2
    exact ⟨by rw [World.cell?_setCell_far _ _ _ _ (by exact hne)]; exact h1, by rw [World.frozen?_setCell]; exact h2⟩
  have HF : Hid (∀ (w2 : World) (a2 : Option Addr) (c2 : Nat), Below w.heap.size w w2 → w2.ownsRow w.heap.size 77 1 (.slice a2 (l1 ++ l2).length c2) (l1 ++ l2).length (ptrs kb (l1 ++ l2)) →
      Kno (F.cut i) S nd pl B kb ((w2.setCell ⟨kb p, 7, none⟩ (.slice a2 (l1 ++ l2).length c2)).setCell ⟨kb i, 6, none⟩ (.pointer none)) ∧ KTurn S kb w ((w2.setCell ⟨kb p, 7, none⟩ (.slice a2 (l1 ++ l2).length c2)).setCell ⟨kb i, 6, none⟩ (.pointer none))) := by
    intro w2 a2 c2 hb ho
    have hk1 := ((h.up hb).setKids hSp (own_base ho hBw)).setPar hSi none
    have e : (F.setKids p (l1 ++ l2)).setPar i none = F.cut i := by
      refine Fo.ext2 (fun q => rfl) (fun q => ?_)
      show (if q = p then l1 ++ l2 else F.kids q) = (F.kids q).filter _
      by_cases e : q = p
      · rw [if_pos e, e, hk, filter_split (by rw [← hk]; exact hnd)]
      · rw [if_neg e, filter_ne_self]
        intro hm
        rw [o.mem, hp] at hm
        cases hm; exact e rfl
    rw [e] at hk1
    exact ⟨hk1, ((KTurn.of_below hb).set hSp 7 _).set hSi 6 _⟩
  have hl1 : l1.length < (F.kids p).length := by omega
  have hA : l1.length ≤ kc := by omega
  have hA1 : l1.length + 1 ≤ kc := by omega
  have hA2 : l1.length + 1 ≤ (F.kids p).length := by omega
  have hA3 : (0 : Int) ≤ (l1.length : Int) + 1 := by omega
  have hA4 : ((l1.length : Int) + 1).toNat = l1.length + 1 := by omega
  have hA5 : (l1.length : Int) + 1 ≤ ((F.kids p).length : Int) := by omega
  have hA6 : IntKind.i64.wrap ((l1.length : Int) + 1) = (l1.length : Int) + 1 := IntWalk.i64_in _ (by omega)
  clear h hp hown hrs hk pf if_ hc hcell hfz hb0 hkl hnd hl20
  subst hcap
  have hX : (l1.length : Int) ≤ (l1.length : Int) + 1 := by omega
  go_enter Try.func73, Try.ntmps73
  go_wp2_with fail
  refine HP.out.mono ?_
  rintro e w1 ⟨rfl, rfl⟩
  go_wp2_with fail
  refine wp_region_G (G3 28 28 28 (fun w' => w'.cell? ⟨kb i, 6, none⟩ = some (.pointer (some ⟨kb p, 0, none⟩)) ∧ w'.cell? ⟨kb p, 7, none⟩ = some (.slice (some ⟨b, off, none⟩) (F.kids p).length (l1.length + 1))) (fun _ => True) (fun _ => True)) (by kernel_rfl) ?_
  have hG0 : G3 28 28 28 (fun w' => w'.cell? ⟨kb i, 6, none⟩ = some (.pointer (some ⟨kb p, 0, none⟩)) ∧ w'.cell? ⟨kb p, 7, none⟩ = some (.slice (some ⟨b, off, none⟩) (F.kids p).length (l1.length + 1))) (fun _ => True) (fun _ => True) (Array.replicate 29 false) w.drew := ⟨fun _ => ⟨c6, c7⟩, fun _ => trivial, fun _ => trivial⟩
  refine wpAnyG_take0 (i := 0) (v := ?v0) rfl (by decide +kernel) (by decide +kernel) (by decide +kernel) (fun _ _ _ h => h) (fun l w => G3.set (by decide) (by decide) (by decide) l w) (Or.inl ⟨by rfl, ?hy0⟩) hG0 (fun hG1 => ?rest0)
  case hy0 => intro W' _; go_simp <;> with_reducible rfl
  clear hG0
  simp only [Act.put, List.setIfInBounds_toArray]
  refine wpAnyG_take0 (i := 1) (v := ?v1) rfl (by decide +kernel) (by decide +kernel) (by decide +kernel) (fun _ _ _ h => h) (fun l w => G3.set (by decide) (by decide) (by decide) l w) (Or.inl ⟨by rfl, ?hy1⟩) hG1 (fun hG2 => ?rest1)
  case hy1 => intro W' _; go_simp <;> with_reducible rfl
  clear hG1
  simp only [Act.put]
  refine wpAnyG_take0 (i := 2) (v := ?v2) rfl (by decide +kernel) (by decide +kernel) (by decide +kernel) (fun _ _ _ h => h) (fun l w => G3.set (by decide) (by decide) (by decide) l w) (Or.inl ⟨by rfl, ?hy2⟩) hG2 (fun hG3 => ?rest2)
  case hy2 => intro W' _; go_simp <;> with_reducible rfl
  clear hG2
  simp only [Act.put]
  refine wpAnyG_take (i := 3) (f := 28) (v := ?v3) rfl (by decide +kernel) (by decide +kernel) (by decide +kernel) (by decide +kernel) rfl rfl (fun _ _ _ h => h) (fun _ _ h g => g.1 h) (fun l w => G3.set (by decide) (by decide) (by decide) l w) (Or.inl ⟨by rfl, ?hy3⟩) hG3 (fun hG4 => ?rest3)
  case hy3 => intro W' hS; (try dsimp only at hS); go_simp <;> with_reducible rfl
  clear hG3
  simp only [Act.put]
  refine wpAnyG_take0 (i := 5) (v := ?v5) rfl (by decide +kernel) (by decide +kernel) (by decide +kernel) (fun _ _ _ h => h) (fun l w => G3.set (by decide) (by decide) (by decide) l w) (Or.inl ⟨by rfl, ?hy5⟩) hG4 (fun hG5 => ?rest5)
  case hy5 => intro W' _; go_simp <;> with_reducible rfl
  clear hG4
  simp only [Act.put]
  refine wpAnyG_take0 (i := 6) (v := ?v6) rfl (by decide +kernel) (by decide +kernel) (by decide +kernel) (fun _ _ _ h => h) (fun l w => G3.set (by decide) (by decide) (by decide) l w) (Or.inl ⟨by rfl, ?hy6⟩) hG5 (fun hG6 => ?rest6)
  case hy6 => intro W' _; go_simp <;> with_reducible rfl
  clear hG5
  simp only [Act.put]
  refine wpAnyG_take0 (i := 7) (v := ?v7) rfl (by decide +kernel) (by decide +kernel) (by decide +kernel) (fun _ _ _ h => h) (fun l w => G3.set (by decide) (by decide) (by decide) l w) (Or.inl ⟨by rfl, ?hy7⟩) hG6 (fun hG7 => ?rest7)
  case hy7 => intro W' _; go_simp <;> with_reducible rfl
  clear hG6
  simp only [Act.put]
  refine wpAnyG_take (i := 8) (f := 28) (v := ?v8) rfl (by decide +kernel) (by decide +kernel) (by decide +kernel) (by decide +kernel) rfl rfl (fun _ _ _ h => h) (fun _ _ h g => g.1 h) (fun l w => G3.set (by decide) (by decide) (by decide) l w) (Or.inl ⟨by rfl, ?hy8⟩) hG7 (fun hG8 => ?rest8)
  case hy8 => intro W' hS; (try dsimp only at hS); go_simp <;> with_reducible rfl
  clear hG7
  simp only [Act.put]
  refine wpAnyG_take0 (i := 9) (v := ?v9) rfl (by decide +kernel) (by decide +kernel) (by decide +kernel) (fun _ _ _ h => h) (fun l w => G3.set (by decide) (by decide) (by decide) l w) (Or.inl ⟨by rfl, ?hy9⟩) hG8 (fun hG9 => ?rest9)
  case hy9 => intro W' _; go_simp <;> with_reducible rfl
  clear hG8
  simp only [Act.put]
  refine wpAnyG_take0 (i := 10) (v := ?v10) rfl (by decide +kernel) (by decide +kernel) (by decide +kernel) (fun _ _ _ h => h) (fun l w => G3.set (by decide) (by decide) (by decide) l w) (Or.inl ⟨by rfl, ?hy10⟩) hG9 (fun hG10 => ?rest10)
  case hy10 => intro W' _; go_simp <;> with_reducible rfl
  clear hG9
  simp only [Act.put]
  refine wpAnyG_take (i := 11) (f := 28) (v := ?v11) rfl (by decide +kernel) (by decide +kernel) (by decide +kernel) (by decide +kernel) rfl rfl (fun _ _ _ h => h) (fun _ _ h g => g.1 h) (fun l w => G3.set (by decide) (by decide) (by decide) l w) (Or.inl ⟨by rfl, ?hy11⟩) hG10 (fun hG11 => ?rest11)
  case hy11 => intro W' hS; (try dsimp only at hS); go_simp <;> with_reducible rfl
  clear hG10
  simp only [Act.put]
  refine wpAnyG_take0 (i := 12) (v := ?v12) rfl (by decide +kernel) (by decide +kernel) (by decide +kernel) (fun _ _ _ h => h) (fun l w => G3.set (by decide) (by decide) (by decide) l w) (Or.inl ⟨by rfl, ?hy12⟩) hG11 (fun hG12 => ?rest12)
  case hy12 => intro W' _; go_simp <;> with_reducible rfl
  clear hG11
  simp only [Act.put]
  refine wpAnyG_take0 (i := 13) (v := ?v13) rfl (by decide +kernel) (by decide +kernel) (by decide +kernel) (fun _ _ _ h => h) (fun l w => G3.set (by decide) (by decide) (by decide) l w) (Or.inl ⟨by rfl, ?hy13⟩) hG12 (fun hG13 => ?rest13)
  case hy13 => intro W' _; go_simp <;> with_reducible rfl
  clear hG12
  simp only [Act.put]
  refine wpAnyG_take0 (i := 15) (v := ?v15) rfl (by decide +kernel) (by decide +kernel) (by decide +kernel) (fun _ _ _ h => h) (fun l w => G3.set (by decide) (by decide) (by decide) l w) (Or.inl ⟨by rfl, ?hy15⟩) hG13 (fun hG14 => ?rest15)
  case hy15 => intro W' _; go_simp <;> with_reducible rfl
  clear hG13
  simp only [Act.put]
  refine wpAnyG_take0 (i := 16) (v := ?v16) rfl (by decide +kernel) (by decide +kernel) (by decide +kernel) (fun _ _ _ h => h) (fun l w => G3.set (by decide) (by decide) (by decide) l w) (Or.inl ⟨by rfl, ?hy16⟩) hG14 (fun hG15 => ?rest16)
  case hy16 => intro W' _; go_simp <;> with_reducible rfl
  clear hG14
  simp only [Act.put]
  refine wpAnyG_take0 (i := 17) (v := ?v17) rfl (by decide +kernel) (by decide +kernel) (by decide +kernel) (fun _ _ _ h => h) (fun l w => G3.set (by decide) (by decide) (by decide) l w) (Or.inl ⟨by rfl, ?hy17⟩) hG15 (fun hG16 => ?rest17)
  case hy17 => intro W' _; go_simp <;> with_reducible rfl
  clear hG15
  simp only [Act.put]
  refine wpAnyG_take (i := 18) (f := 28) (v := ?v18) rfl (by decide +kernel) (by decide +kernel) (by decide +kernel) (by decide +kernel) rfl rfl (fun _ _ _ h => h) (fun _ _ h g => g.1 h) (fun l w => G3.set (by decide) (by decide) (by decide) l w) (Or.inl ⟨by rfl, ?hy18⟩) hG16 (fun hG17 => ?rest18)
  case hy18 => intro W' hS; (try dsimp only at hS); go_simp <;> with_reducible rfl
  clear hG16
  simp only [Act.put]
  refine wpAnyG_take0 (i := 19) (v := ?v19) rfl (by decide +kernel) (by decide +kernel) (by decide +kernel) (fun _ _ _ h => h) (fun l w => G3.set (by decide) (by decide) (by decide) l w) (Or.inl ⟨by rfl, ?hy19⟩) hG17 (fun hG18 => ?rest19)
  case hy19 => intro W' _; go_simp <;> with_reducible rfl
  clear hG17
  simp only [Act.put]
  refine wpAnyG_take0 (i := 20) (v := ?v20) rfl (by decide +kernel) (by decide +kernel) (by decide +kernel) (fun _ _ _ h => h) (fun l w => G3.set (by decide) (by decide) (by decide) l w) (Or.inl ⟨by rfl, ?hy20⟩) hG18 (fun hG19 => ?rest20)
  case hy20 => intro W' _; go_simp <;> with_reducible rfl
  clear hG18
  simp only [Act.put]
  refine wpAnyG_take (i := 21) (f := 28) (v := ?v21) rfl (by decide +kernel) (by decide +kernel) (by decide +kernel) (by decide +kernel) rfl rfl (fun _ _ _ h => h) (fun _ _ h g => g.1 h) (fun l w => G3.set (by decide) (by decide) (by decide) l w) (Or.inl ⟨by rfl, ?hy21⟩) hG19 (fun hG20 => ?rest21)
  case hy21 => intro W' hS; (try dsimp only at hS); go_simp <;> with_reducible rfl
  clear hG19
  simp only [Act.put]
  refine wpAnyG_take0 (i := 22) (v := ?v22) rfl (by decide +kernel) (by decide +kernel) (by decide +kernel) (fun _ _ _ h => h) (fun l w => G3.set (by decide) (by decide) (by decide) l w) (Or.inl ⟨by rfl, ?hy22⟩) hG20 (fun hG21 => ?rest22)
  case hy22 => intro W' _; go_simp <;> with_reducible rfl
  clear hG20
  simp only [Act.put]
  refine wpAnyG_take0 (i := 23) (v := ?v23) rfl (by decide +kernel) (by decide +kernel) (by decide +kernel) (fun _ _ _ h => h) (fun l w => G3.set (by decide) (by decide) (by decide) l w) (Or.inl ⟨by rfl, ?hy23⟩) hG21 (fun hG22 => ?rest23)
  case hy23 => intro W' _; go_simp <;> with_reducible rfl
  clear hG21
  simp only [Act.put]
  refine wpAnyG_take0 (i := 24) (v := ?v24) rfl (by decide +kernel) (by decide +kernel) (by decide +kernel) (fun _ _ _ h => h) (fun l w => G3.set (by decide) (by decide) (by decide) l w) (Or.inl ⟨by rfl, ?hy24⟩) hG22 (fun hG23 => ?rest24)
  case hy24 => intro W' _; go_simp <;> with_reducible rfl
  clear hG22
  simp only [Act.put]
  refine wpAnyG_one (i := 4) (by decide +kernel) rfl (fun K' hK => ?_)
  go_simp
  refine hK.out _ _ ⟨fun _ => HC1.out, fun _ => trivial, fun _ => trivial⟩ (fun hG9 => ?_); clear hK K' hG9 hG23
  refine wpAnyG_one (i := 14) (by decide +kernel) rfl (fun K' hK => ?_)
  refine step_append_kn _ rfl (.tmp 11) (.tmp 20) rfl kb w.heap.size (.slice (some ⟨w.heap.size, 0, none⟩) 0 0) [] rfl HE.out (some ⟨b, off, none⟩) l1.length (l1.length + 1) l1 rfl rfl (HR1.out _ HB0.out) (by simp; omega) (by simp) ?_
  intro a1 c1 w1 hown1 hg1 hat1
  obtain ⟨hb1, hc1⟩ := HB1.out w1 hg1
  simp only [List.nil_append] at hown1 hat1 ⊢
  have HO1 := Lib.hid hown1
  have Hb1 := Lib.hid hb1
  refine hK.out _ _ ⟨fun _ => hc1, fun _ => trivial, fun _ => trivial⟩ (fun hG9 => ?_); clear hK K' hG9 hg1 hat1 hown1 hb1
  refine wpAnyG_one (i := 25) (by decide +kernel) rfl (fun K' hK => ?_)
  refine step_append_kn _ rfl (.tmp 21) (.tmp 31) rfl kb w.heap.size (.slice a1 l1.length c1) l1 rfl HO1.out (some ⟨b, off, none⟩) 0 0 l2 HL4.out rfl (HR2.out _) (by have := HL3.out; omega) Hb1.out.size ?_
  intro a2 c2 w2 hown2 hg2 hat2
  obtain ⟨hb2, hc2, hf2, hf6, hc6⟩ := HB2.out w1 w2 Hb1.out HO1.out hg2
  have HO2 := Lib.hid hown2
  have Hb2 := Lib.hid hb2
  refine hK.out _ _ ⟨fun _ => hc2, fun _ => trivial, fun _ => trivial⟩ (fun hG9 => ?_); clear hK K' hG9 hg2 hat2 hown2 hb2
  refine wpAnyG_one (i := 26) (by decide +kernel) rfl (fun K' hK => ?_)
  go_simp
  refine hK.out _ _ ⟨fun _ => hc2, fun _ => trivial, fun _ => trivial⟩ (fun hG9 => ?_); clear hK K' hG9
  refine wpAnyG_one (i := 27) (by decide +kernel) rfl (fun K' hK => ?_)
  go_simp
  refine hK.out _ _ ⟨fun _ => hc2, fun _ => trivial, fun _ => trivial⟩ (fun hG9 => ?_); clear hK K' hG9
  refine wpAnyG_one (i := 28) (by decide +kernel) rfl (fun K' hK => ?_)
  obtain ⟨hc26, hc27⟩ := hc2
  go_simp
  refine hK.out _ _ ⟨fun h => absurd h (by decide), fun h => absurd h (by decide), fun h => absurd h (by decide)⟩ (fun hG9 => ?_); clear hK K' hG9
  refine wpAnyG_done (by decide +kernel) ?_ _
  obtain ⟨c6z, f6z⟩ := HZ.out w2 (.slice a2 (l1 ++ l2).length c2) hc26 hf6
  have eL : (l1 ++ l2).length = l1.length + l2.length := List.length_append
  rw [eL] at c6z f6z
  clear eL
  go_wp2_with fail
  go_end0
  have := HF.out w2 a2 c2 Hb2.out HO2.out
  rw [List.length_append] at this
  exact ⟨rfl, this.1, this.2⟩

set_option maxRecDepth 100000 in
set_option maxHeartbeats 1000000 in
theorem cut_any {F : Fo} {S : Nat → Prop} {ht : Nat → Nat} (o : F.Ok S ht) {nd : Nat → Nd} {pl : Nat → Int} {B : Nat} {kb : Nat → Nat} {w : World} (h : Kno F S nd pl B kb w) (hBw : B ≤ w.heap.size) (i : Nat) (hi : S i) (hlen : ∀ p, (F.kids p).length ≤ 100000) :
    Calls Try.prog 73 #[.pointer (some ⟨kb i, 0, none⟩)] w (CutPost F S nd pl B kb i w) := by
  cases hp : F.par i with
  | none =>
    have HP := Lib.hid (place_none h i hi hp)
    have HE := Lib.hid (Fo.cut_none o hp)
    have HK := Lib.hid h
    clear h hp hBw
    go_enter Try.func73, Try.ntmps73
    go_wp2_with fail
    refine HP.out.mono ?_
    rintro e w1 ⟨rfl, rfl⟩
    go_wp2_with fail
    go_end0
    exact ⟨rfl, by rw [HE.out]; exact HK.out, KTurn.refl _ _ _⟩
  | some p =>
    obtain ⟨l1, l2, hk⟩ := split_at ((o.mem p i).2 hp)
    obtain ⟨-, -, -, ka, kc, c7, hkc, hown⟩ := h.cells (o.dom p i hp).1
    by_cases hcap : kc = l1.length + 1
    · exact cut_a o h hBw i p hp l1 l2 hk (hlen p) ka kc c7 hkc hown hcap
    · exact cut_b o h hBw i p hp l1 l2 hk (hlen p) ka kc c7 hkc hown hcap
end Go.Proofs.Ytmhhfljbocbolaa

namespace Go.Proofs.Ytmhhfljbocbolaa
open Go.RowKit
set_option linter.unusedVariables false

theorem Try.infoAt : (Try.prog.info? 96).map (fun i => (i.zero, i.size, i.bytes)) = some (some (.agg #[.string ⟨#[]⟩, .string ⟨#[]⟩]), 2, 32) := by kernel_rfl

theorem flat2_at {l : List At2} : ∀ {i : Nat} (hi : i < l.length), (flat2 l)[i * 2]? = some (.string l[i].key) ∧ (flat2 l)[i * 2 + 1]? = some (.string l[i].val) := by
  induction l with
  | nil => intro i hi; simp at hi
  | cons x l ih =>
    intro i hi
    cases i with
    | zero => exact ⟨rfl, rfl⟩
    | succ i =>
      have := ih (i := i) (by simpa using hi)
      have e : flat2 (x :: l) = .string x.key :: .string x.val :: flat2 l := rfl
      have e1 : (i + 1) * 2 = i * 2 + 2 := by omega
      rw [e, e1]
      simpa using this
theorem flat2_len (l : List At2) : (flat2 l).length = l.length * 2 := by
  induction l with
  | nil => rfl
  | cons x l ih => have e : flat2 (x :: l) = .string x.key :: .string x.val :: flat2 l := rfl; rw [e]; simp [ih]; omega
theorem one_flat2 (l : List At2) : ∀ u ∈ flat2 l, u.oneCell' = true := by
  intro u hu
  obtain ⟨x, _, hx⟩ := List.mem_flatMap.1 hu
  simp at hx
  rcases hx with rfl | rfl <;> rfl

theorem ASl.reads {w : World} {B : Nat} {a : Option Addr} {l : List At2} (h : ASl w B a l) : Reads w B 2 a l.length (flat2 l) := by
  refine ⟨flat2_len l, fun h0 => ?_⟩
  rcases h.2.2 with e | ⟨b, o, rfl, hb, hc⟩
  · rw [e] at h0; simp at h0
  · refine ⟨_, rfl, hb, fun j u hu => ?_⟩
    obtain ⟨hj, _⟩ := List.getElem?_eq_some_iff.1 hu
    rw [flat2_len] at hj
    have hi : j / 2 < l.length := by omega
    obtain ⟨c1, c2⟩ := hc (j / 2) hi
    rw [List.getD_eq_getElem?_getD, List.getElem?_eq_getElem hi, Option.getD_some] at c1 c2
    obtain ⟨f1, f2⟩ := flat2_at hi
    rw [Addr.add_lit]
    rcases Nat.mod_two_eq_zero_or_one j with e | e
    · have ej : j / 2 * 2 = j := by omega
      rw [ej] at c1 f1
      rw [f1] at hu; cases hu; exact c1
    · have ej : j / 2 * 2 + 1 = j := by omega
      rw [Nat.add_assoc, ej] at c2
      rw [ej] at f2
      rw [f2] at hu; cases hu; exact c2

def KApt (v1 v2 : Value) : Prop := ∀ b, v1.ownBlock = some b → v2.ownBlock ≠ some b
theorem KApt.symm {v1 v2 : Value} (h : KApt v1 v2) : KApt v2 v1 := fun b h2 h1 => h b h1 h2
theorem KApt.nil (n m : Nat) (v : Value) : KApt (.slice none n m) v := fun b h => by simp [Value.ownBlock] at h
theorem KApt.step {v1 v2 v1' : Value} {n : Nat} (h : KApt v1 v2) (hat : v1'.ownBlock = v1.ownBlock ∨ v1'.ownBlock = some n) (hlt : ∀ k, v2.ownBlock = some k → k < n) : KApt v1' v2 := by
  intro b h1 h2
  rcases hat with e | e
  · exact h b (e ▸ h1) h2
  · rw [e] at h1
    cases h1
    exact absurd (hlt _ h2) (Nat.lt_irrefl _)
theorem KApt.ne {v1 v2 : Value} (h : KApt v1 v2) : v2.ownBlock = none ∨ v2.ownBlock ≠ v1.ownBlock := by
  cases h2 : v2.ownBlock with
  | none => exact .inl rfl
  | some b => exact .inr fun e => h b e.symm h2

/-- The knots, their rows of kids by name, each apart from all others. -/
structure KnoV (F : Fo) (S : Nat → Prop) (nd : Nat → Nd) (pl : Nat → Int) (B : Nat) (kb : Nat → Nat) (kv : Nat → Value) (w : World) : Prop where
  node : ∀ i, S i → B ≤ kb i ∧ ∃ aa ac ka kc, kv i = .slice ka (F.kids i).length kc ∧ w.heap[kb i]? = some (.cells (knCells kb (F.par i) (nd i) (pl i) aa ac (F.kids i).length ka kc) 107 (0, 0)) ∧
    w.ownsRow B 96 2 (.slice aa (nd i).attrs.length ac) (nd i).attrs.length (flat2 (nd i).attrs) ∧
    w.ownsRow B 77 1 (kv i) (F.kids i).length (ptrs kb (F.kids i))
  inj : ∀ i j, S i → S j → kb i = kb j → i = j
  apt : ∀ i j, S i → S j → i ≠ j → KApt (kv i) (kv j)

theorem KnoV.kno {F : Fo} {S : Nat → Prop} {nd : Nat → Nd} {pl : Nat → Int} {B : Nat} {kb : Nat → Nat} {kv : Nat → Value} {w : World} (h : KnoV F S nd pl B kb kv w) : Kno F S nd pl B kb w := by
  refine ⟨fun i hi => ?_, h.inj⟩
  obtain ⟨hB, aa, ac, ka, kc, e, h1, h2, h3⟩ := h.node i hi
  exact ⟨hB, aa, ac, ka, kc, h1, h2, e ▸ h3⟩

theorem KnoV.kept {F : Fo} {S : Nat → Prop} {nd : Nat → Nd} {pl : Nat → Int} {B : Nat} {kb : Nat → Nat} {kv : Nat → Value} {w w' : World} (h : KnoV F S nd pl B kb kv w) (hs : ∀ b, B ≤ b → b < w.heap.size → w'.heap[b]? = w.heap[b]?) : KnoV F S nd pl B kb kv w' := by
  refine ⟨fun i hi => ?_, h.inj, h.apt⟩
  obtain ⟨hB, aa, ac, ka, kc, e, hh, h1, h2⟩ := h.node i hi
  exact ⟨hB, aa, ac, ka, kc, e, by rw [hs _ hB (Array.getElem?_eq_some_iff.1 hh).1]; exact hh, own_kept h1 hs, own_kept h2 hs⟩

/-- A row of knots that is none of the knots' own grows. -/
theorem KnoV.grown {F : Fo} {S : Nat → Prop} {nd : Nat → Nd} {pl : Nat → Int} {B : Nat} {kb : Nat → Nat} {kv : Nat → Value} {w w' : World} (h : KnoV F S nd pl B kb kv w) {base n : Nat} {v : Value} {xs : List Value} (ho : w.ownsRow base 77 1 v n xs) (ha : ∀ i, S i → KApt v (kv i)) (hg : w.grownBy w' v.ownBlock) : KnoV F S nd pl B kb kv w' := by
  refine ⟨fun i hi => ?_, h.inj, h.apt⟩
  obtain ⟨hB, aa, ac, ka, kc, e, hh, h1, h2⟩ := h.node i hi
  have hne : v.ownBlock ≠ some (kb i) := own_ne ho hh (by decide)
  refine ⟨hB, aa, ac, ka, kc, e, ?_, h1.kept hg ?_, h2.kept hg (ha i hi).ne⟩
  · rw [hg.block _ (Array.getElem?_eq_some_iff.1 hh).1 (fun e2 => hne e2.symm)]; exact hh
  · cases hb : (Value.slice aa (nd i).attrs.length ac).ownBlock with
    | none => exact .inl rfl
    | some b =>
      refine .inr fun e2 => ?_
      obtain ⟨g, cap, cur, hv, _, hh2, _⟩ : ∃ g cap cur, (Value.slice aa (nd i).attrs.length ac) = .slice (some ⟨g, 0, none⟩) (nd i).attrs.length cap ∧ B ≤ g ∧ w.heap[g]? = some (.cells cur 96 (0, 0)) ∧ True := by
        rcases h1.2 with ⟨e3, _⟩ | ⟨g, cap, cur, e3, e4, e5, _⟩
        · rw [e3] at hb; simp [Value.ownBlock] at hb
        · exact ⟨g, cap, cur, e3, e4, e5, trivial⟩
      rw [hv] at hb
      simp [Value.ownBlock] at hb
      subst hb
      exact own_ne ho hh2 (by decide) e2.symm

theorem own_emptyS (w : World) (t : TypeId) (size : Nat) : (w.alloc (.cells #[] t)).ownsRow w.heap.size t size (.slice (some ⟨w.heap.size, 0, none⟩) 0 0) 0 [] := by
  refine ⟨by simp, .inr ⟨w.heap.size, 0, #[], rfl, Nat.le_refl _, ?_, by omega, by simp [maxLen], by simp, by simp⟩⟩
  exact heap_alloc_new w _

theorem flat2_append (l m : List At2) : flat2 (l ++ m) = flat2 l ++ flat2 m := by simp [flat2]

theorem wpList_append_at {w : World} {ops : Array Oper} {rest : List Oper} {o : Oper} {a : Act} {Q : Exit → Act → World → Prop} (hgd : o.guard = none) (s x : Operand)
    (ho : o.op = .call { callee := .builtin .append, args := #[s, x], argTypes := #[45, 45] })
    (base : Nat) (v : Value) (xs : List At2) (hs : a.eval s = v) (hown : w.ownsRow base 96 2 v xs.length (flat2 xs))
    (A : Option Addr) (m c : Nat) (ys : List At2) (hm : m = ys.length) (hx : a.eval x = .slice A m c) (hr : ASl w w.heap.size A ys) (hlen : xs.length + ys.length ≤ 1000000) (hbase : base ≤ w.heap.size)
    (h : ∀ a' c' w', w'.ownsRow base 96 2 (.slice a' (xs ++ ys).length c') (xs ++ ys).length (flat2 (xs ++ ys)) → w.grownBy w' v.ownBlock → ((Value.slice a' (xs ++ ys).length c').ownBlock = v.ownBlock ∨ (Value.slice a' (xs ++ ys).length c').ownBlock = some w.heap.size) → wpList Try.prog ops Q rest (a.put o.dst (.slice a' (xs ++ ys).length c')) w') :
    wpList Try.prog ops Q (o :: rest) a w := by
  subst hm
  obtain ⟨i0, hinf, hz0, hz1, hz2⟩ := info_parts Try.infoAt
  refine wpList_append_any w hgd s x 45 ho base 96 i0 (.agg #[.string ⟨#[]⟩, .string ⟨#[]⟩]) 2 32 Try.underlying45 hinf hz0 hz1 hz2 rfl (by decide) v xs.length (flat2 xs) hs hown w.heap.size A ys.length c (flat2 ys) hx hr.reads (one_flat2 ys) (by unfold maxLen; omega) (by omega) hbase ?_
  intro v' w' h2 h3 h4
  obtain ⟨a', c', rfl⟩ := own_slice h2
  have e : (xs ++ ys).length = xs.length + ys.length := List.length_append
  rw [← flat2_append] at h2
  rw [← e] at h2 h4 ⊢
  exact h a' c' w' h2 h3 h4
end Go.Proofs.Ytmhhfljbocbolaa
