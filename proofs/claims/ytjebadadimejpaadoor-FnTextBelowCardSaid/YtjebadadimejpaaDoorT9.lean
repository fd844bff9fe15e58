/- Nodes in memory: what they hold, and what AppendChild does to them. -/
import Derived.Test.YtjebadadimejpaaDoorT8
namespace Go.Proofs.YtjebadadimejpaaDoor
open Go.RowKit
set_option linter.unusedVariables false

/-- A node, as data: its kin by their numbers. -/
structure Dn where
  par : Option Nat
  fst : Option Nat
  lst : Option Nat
  prv : Option Nat
  nxt : Option Nat
  typ : Int
  dat : ByteArray
  ats : List At2

/-- The pointer to a node. -/
def ptrTo (bl : Nat → Nat) (o : Option Nat) : Value := .pointer (o.map fun j => ⟨bl j, 0, none⟩)

def dnCells (bl : Nat → Nat) (d : Dn) (aa : Option Addr) (ac : Nat) : Array Value :=
  #[ptrTo bl d.par, ptrTo bl d.fst, ptrTo bl d.lst, ptrTo bl d.prv, ptrTo bl d.nxt, .int .u32 d.typ, .int .u32 0, .string d.dat, .string ⟨#[]⟩, .slice aa d.ats.length ac]

/-- The nodes of S lie in memory from block B on, each in a block of its own, as st says. -/
structure Dom (w : World) (B : Nat) (S : Nat → Prop) (bl : Nat → Nat) (st : Nat → Dn) : Prop where
  node : ∀ i, S i → B ≤ bl i ∧ ∃ aa ac, w.heap[bl i]? = some (.cells (dnCells bl (st i) aa ac) 65 (0, 0)) ∧
    w.ownsRow B 72 3 (.slice aa (st i).ats.length ac) (st i).ats.length (flatA (st i).ats)
  inj : ∀ i j, S i → S j → bl i = bl j → i = j

def upd (st : Nat → Dn) (i : Nat) (d : Dn) : Nat → Dn := fun k => if k = i then d else st k
theorem upd_same (st : Nat → Dn) (i : Nat) (d : Dn) : upd st i d i = d := by simp [upd]
theorem upd_other (st : Nat → Dn) (i k : Nat) (d : Dn) (h : k ≠ i) : upd st i d k = st k := by simp [upd, h]

/-- One of the five pointers of a node, by its place in the struct. -/
def Dn.set (d : Dn) (j : Nat) (o : Option Nat) : Dn :=
  match j with
  | 0 => { d with par := o }
  | 1 => { d with fst := o }
  | 2 => { d with lst := o }
  | 3 => { d with prv := o }
  | _ => { d with nxt := o }

theorem dnCells_set (bl : Nat → Nat) (d : Dn) (aa : Option Addr) (ac : Nat) (j : Nat) (hj : j < 5) (o : Option Nat) :
    (dnCells bl d aa ac).setIfInBounds j (ptrTo bl o) = dnCells bl (d.set j o) aa ac ∧ (d.set j o).ats = d.ats := by
  match j, hj with
  | 0, _ => exact ⟨rfl, rfl⟩
  | 1, _ => exact ⟨rfl, rfl⟩
  | 2, _ => exact ⟨rfl, rfl⟩
  | 3, _ => exact ⟨rfl, rfl⟩
  | 4, _ => exact ⟨rfl, rfl⟩

theorem own_ne {w : World} {base e size n : Nat} {v : Value} {xs : List Value} (h : w.ownsRow base e size v n xs) {g : Nat} {cs : Array Value} {t : TypeId} (hg : w.heap[g]? = some (.cells cs t (0, 0))) (hne : e ≠ t) : v.ownBlock ≠ some g := by
  rcases h.2 with ⟨rfl, _⟩ | ⟨g', cap, cur, rfl, _, hh, _⟩
  · simp [Value.ownBlock]
  · intro he
    have e1 : g' = g := by simpa [Value.ownBlock] using he
    subst e1
    rw [hh] at hg
    simp at hg
    exact hne hg.2

theorem own_setCell {w : World} {base e size n : Nat} {v : Value} {xs : List Value} (h : w.ownsRow base e size v n xs) {p : Addr} (hne : v.ownBlock ≠ some p.block) (u : Value) : (w.setCell p u).ownsRow base e size v n xs := by
  refine ⟨h.1, ?_⟩
  rcases h.2 with h2 | ⟨g, cap, cur, rfl, hg, hh, r⟩
  · exact .inl h2
  · refine .inr ⟨g, cap, cur, rfl, hg, ?_, r⟩
    rw [Below.heap_setCell _ _ _ _ (fun e => hne (by simp [Value.ownBlock, e]))]
    exact hh

/-- A store into one of the five pointers of a node. -/
theorem Dom.set {w : World} {B : Nat} {S : Nat → Prop} {bl : Nat → Nat} {st : Nat → Dn} (h : Dom w B S bl st) {i : Nat} (hi : S i) (j : Nat) (hj : j < 5) (o : Option Nat) :
    Dom (w.setCell ⟨bl i, j, none⟩ (ptrTo bl o)) B S bl (upd st i ((st i).set j o)) := by
  refine ⟨fun k hk => ?_, h.inj⟩
  obtain ⟨hB, aa, ac, hh, hown⟩ := h.node k hk
  refine ⟨hB, aa, ac, ?_⟩
  have hown2 : (w.setCell ⟨bl i, j, none⟩ (ptrTo bl o)).ownsRow B 72 3 (.slice aa (st k).ats.length ac) (st k).ats.length (flatA (st k).ats) := by
    obtain ⟨_, _, _, hhi, _⟩ := h.node i hi
    exact own_setCell hown (own_ne hown hhi (by decide)) _
  by_cases e : k = i
  · subst e
    obtain ⟨e1, e2⟩ := dnCells_set bl (st k) aa ac j hj o
    rw [upd_same, e2]
    refine ⟨?_, hown2⟩
    have := heap_setCell_same w (bl k) j _ _ (ptrTo bl o) hh
    rw [this, e1]
  · rw [upd_other _ _ _ _ e]
    refine ⟨?_, hown2⟩
    rw [Below.heap_setCell _ _ _ _ (fun e2 => e (h.inj k i hk hi e2))]
    exact hh

/-- What the walk asks of a node: its five pointers, each of which may be written. -/
theorem Dom.cells {w : World} {B : Nat} {S : Nat → Prop} {bl : Nat → Nat} {st : Nat → Dn} (h : Dom w B S bl st) {i : Nat} (hi : S i) :
    (∀ j, w.frozen? ⟨bl i, j, none⟩ = false) ∧ w.cell? ⟨bl i, 0, none⟩ = some (ptrTo bl (st i).par) ∧ w.cell? ⟨bl i, 1, none⟩ = some (ptrTo bl (st i).fst) ∧ w.cell? ⟨bl i, 2, none⟩ = some (ptrTo bl (st i).lst) ∧
      w.cell? ⟨bl i, 3, none⟩ = some (ptrTo bl (st i).prv) ∧ w.cell? ⟨bl i, 4, none⟩ = some (ptrTo bl (st i).nxt) ∧ w.cell? ⟨bl i, 5, none⟩ = some (.int .u32 (st i).typ) ∧ w.cell? ⟨bl i, 7, none⟩ = some (.string (st i).dat) ∧
      ∃ aa ac, w.cell? ⟨bl i, 9, none⟩ = some (.slice aa (st i).ats.length ac) ∧ w.ownsRow B 72 3 (.slice aa (st i).ats.length ac) (st i).ats.length (flatA (st i).ats) := by
  obtain ⟨hB, aa, ac, hh, hown⟩ := h.node i hi
  refine ⟨fun j => frozen_of_row w _ j _ _ hh, ?_, ?_, ?_, ?_, ?_, ?_, ?_, aa, ac, ?_, hown⟩
  all_goals (rw [cell_of_row w _ _ _ _ _ hh]; rfl)

/-- AppendChild, on the nodes as data. -/
def appSt (st : Nat → Dn) (p c : Nat) : Nat → Dn :=
  let l := (st p).lst
  let s1 := match l with
    | some q => upd st q ((st q).set 4 (some c))
    | none => upd st p ((st p).set 1 (some c))
  let s2 := upd s1 p ((s1 p).set 2 (some c))
  let s3 := upd s2 c ((s2 c).set 0 (some p))
  upd s3 c ((s3 c).set 3 l)

/-- Nothing but the nodes of S has turned. -/
structure Only (S : Nat → Prop) (bl : Nat → Nat) (w w' : World) : Prop where
  os : w'.os = w.os
  tape : w'.tape = w.tape
  output : w'.output = w.output
  size : w'.heap.size = w.heap.size
  block : ∀ b, (∀ i, S i → b ≠ bl i) → w'.heap[b]? = w.heap[b]?

theorem Only.refl (S : Nat → Prop) (bl : Nat → Nat) (w : World) : Only S bl w w := ⟨rfl, rfl, rfl, rfl, fun _ _ => rfl⟩
theorem Only.setCell {S : Nat → Prop} {bl : Nat → Nat} {w w' : World} (h : Only S bl w w') {i : Nat} (hi : S i) (j : Nat) (u : Value) : Only S bl w (w'.setCell ⟨bl i, j, none⟩ u) :=
  ⟨h.os, h.tape, h.output, by rw [← h.size]; simp [World.setCell], fun b hb => (Below.heap_setCell _ _ _ _ (by exact hb i hi)).trans (h.block b hb)⟩

def AppPost (S : Nat → Prop) (B : Nat) (bl : Nat → Nat) (st' : Nat → Dn) (w : World) (e : Ending) (w' : World) : Prop :=
  e = .returned (.tuple #[]) ∧ Dom w' B S bl st' ∧ Only S bl w w'

set_option maxRecDepth 100000 in
set_option maxHeartbeats 2000000 in
theorem append_none (w : World) (B : Nat) (S : Nat → Prop) (bl : Nat → Nat) (st : Nat → Dn) (h : Dom w B S bl st) (p c : Nat) (hp : S p) (hc : S c) (hpc : p ≠ c)
    (h1 : (st c).par = none) (h2 : (st c).prv = none) (h3 : (st c).nxt = none) (hl : (st p).lst = none) :
    Calls Tryd.prog 32 #[.pointer (some ⟨bl p, 0, none⟩), .pointer (some ⟨bl c, 0, none⟩)] w (AppPost S B bl (appSt st p c) w) := by
  have hne : bl p ≠ bl c := fun e => hpc (h.inj p c hp hc e)
  obtain ⟨pf, -, -, p2, -⟩ := h.cells hp
  obtain ⟨cf, c0, -, -, c3, c4, -⟩ := h.cells hc
  have p1 := (h.cells hp).2.2.1
  rw [h1] at c0
  rw [h2] at c3
  rw [h3] at c4
  rw [hl] at p2
  simp only [ptrTo, Option.map_none] at c0 c3 c4 p2
  obtain ⟨fp, hfp⟩ : ∃ o, ptrTo bl (st p).fst = .pointer o := ⟨_, rfl⟩
  rw [hfp] at p1
  have hD : Dom ((((w.setCell ⟨bl p, 1, none⟩ (.pointer (some ⟨bl c, 0, none⟩))).setCell ⟨bl p, 2, none⟩ (.pointer (some ⟨bl c, 0, none⟩))).setCell ⟨bl c, 0, none⟩ (.pointer (some ⟨bl p, 0, none⟩))).setCell ⟨bl c, 3, none⟩ (.pointer none)) B S bl (appSt st p c) := by
    have := ((((h.set hp 1 (by omega) (some c)).set hp 2 (by omega) (some c)).set hc 0 (by omega) (some p)).set hc 3 (by omega) none)
    unfold appSt
    rw [hl]
    exact this
  have hO := ((((Only.refl S bl w).setCell hp 1 (.pointer (some ⟨bl c, 0, none⟩))).setCell hp 2 (.pointer (some ⟨bl c, 0, none⟩))).setCell hc 0 (.pointer (some ⟨bl p, 0, none⟩))).setCell hc 3 (.pointer none)
  have HD := Lib.hid hD
  have HO := Lib.hid hO
  have pf1 := pf 1
  have pf2 := pf 2
  have cf0 := cf 0
  have cf3 := cf 3
  clear hD hO hfp h1 h2 h3 hl h pf cf
  go_enter Tryd.func32, Tryd.ntmps32
  go_wp2_with fail
  go_end0
  exact ⟨rfl, HD.out, HO.out⟩

set_option maxRecDepth 100000 in
set_option maxHeartbeats 2000000 in
theorem append_some (w : World) (B : Nat) (S : Nat → Prop) (bl : Nat → Nat) (st : Nat → Dn) (h : Dom w B S bl st) (p c q : Nat) (hp : S p) (hc : S c) (hq : S q) (hpc : p ≠ c) (hqc : q ≠ c) (hqp : q ≠ p)
    (h1 : (st c).par = none) (h2 : (st c).prv = none) (h3 : (st c).nxt = none) (hl : (st p).lst = some q) :
    Calls Tryd.prog 32 #[.pointer (some ⟨bl p, 0, none⟩), .pointer (some ⟨bl c, 0, none⟩)] w (AppPost S B bl (appSt st p c) w) := by
  have hne : bl p ≠ bl c := fun e => hpc (h.inj p c hp hc e)
  have hne2 : bl q ≠ bl c := fun e => hqc (h.inj q c hq hc e)
  have hne3 : bl q ≠ bl p := fun e => hqp (h.inj q p hq hp e)
  obtain ⟨pf, -, -, p2, -⟩ := h.cells hp
  obtain ⟨cf, c0, -, -, c3, c4, -⟩ := h.cells hc
  obtain ⟨qf, -, -, -, -, q4, -⟩ := h.cells hq
  rw [h1] at c0
  rw [h2] at c3
  rw [h3] at c4
  rw [hl] at p2
  simp only [ptrTo, Option.map_none, Option.map_some] at c0 c3 c4 p2
  obtain ⟨fq, hfq⟩ : ∃ o, ptrTo bl (st q).nxt = .pointer o := ⟨_, rfl⟩
  rw [hfq] at q4
  have hD : Dom ((((w.setCell ⟨bl q, 4, none⟩ (.pointer (some ⟨bl c, 0, none⟩))).setCell ⟨bl p, 2, none⟩ (.pointer (some ⟨bl c, 0, none⟩))).setCell ⟨bl c, 0, none⟩ (.pointer (some ⟨bl p, 0, none⟩))).setCell ⟨bl c, 3, none⟩ (.pointer (some ⟨bl q, 0, none⟩))) B S bl (appSt st p c) := by
    have := ((((h.set hq 4 (by omega) (some c)).set hp 2 (by omega) (some c)).set hc 0 (by omega) (some p)).set hc 3 (by omega) (some q))
    unfold appSt
    rw [hl]
    exact this
  have hO := ((((Only.refl S bl w).setCell hq 4 (.pointer (some ⟨bl c, 0, none⟩))).setCell hp 2 (.pointer (some ⟨bl c, 0, none⟩))).setCell hc 0 (.pointer (some ⟨bl p, 0, none⟩))).setCell hc 3 (.pointer (some ⟨bl q, 0, none⟩))
  have HD := Lib.hid hD
  have HO := Lib.hid hO
  have pf2 := pf 2
  have qf4 := qf 4
  have cf0 := cf 0
  have cf3 := cf 3
  clear hD hO hfq h1 h2 h3 hl h pf cf qf
  go_enter Tryd.func32, Tryd.ntmps32
  go_wp2_with fail
  go_end0
  exact ⟨rfl, HD.out, HO.out⟩
end Go.Proofs.YtjebadadimejpaaDoor
