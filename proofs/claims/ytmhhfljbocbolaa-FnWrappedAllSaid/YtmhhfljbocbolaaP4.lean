/- The changed document: the reference's side, the program's side (joined by join.py) -/
import Derived.Test.YtmhhfljbocbolaaP6
import Derived.Test.YtmhhfljbocbolaaT166
import Derived.BigRegion
import Derived.Maps.AppendAt
import Derived.Test.YtmhhfljbocbolaaT24
import Derived.Test.YtmhhfljbocbolaaT32
import Derived.BigQuiet
import Derived.Deep.QuietTactic
namespace Go.Proofs.Ytmhhfljbocbolaa
open Go.RowKit
set_option linter.unusedVariables false

def bareF : Fo := ⟨fun _ => none, fun _ => []⟩
def ndT (t : List Nd) (i : Nat) : Nd := t.getD i default

theorem KnoV.far {F : Fo} {S : Nat → Prop} {nd : Nat → Nd} {pl : Nat → Int} {B : Nat} {kb : Nat → Nat} {kv : Nat → Value} {w : World} (h : KnoV F S nd pl B kb kv w) {g : Nat} {cs : Array Value} {T : TypeId} (hg : w.heap[g]? = some (.cells cs T (0, 0))) (h1 : 107 ≠ T) (h2 : 96 ≠ T) (h3 : 77 ≠ T) (j : Nat) (u : Value) :
    KnoV F S nd pl B kb kv (w.setCell ⟨g, j, none⟩ u) := by
  refine ⟨fun i hi => ?_, h.inj, h.apt⟩
  obtain ⟨hB, aa, ac, ka, kc, e, hh, o1, o2⟩ := h.node i hi
  refine ⟨hB, aa, ac, ka, kc, e, ?_, own_setCell o1 (own_ne o1 hg h2) _, own_setCell o2 (own_ne o2 hg h3) _⟩
  rw [Below.heap_setCell _ _ _ _ (fun e2 => ?_)]
  · exact hh
  · have e3 : kb i = g := e2
    rw [e3, hg] at hh
    injection hh with hh
    injection hh with _ hh
    exact h1 hh.symm

theorem KnoV.add {nd : Nat → Nd} {pl : Nat → Int} {B k g : Nat} {kb kb2 : Nat → Nat} {w : World} (h : KnoV bareF (fun i => i < k) nd pl B kb (fun _ => .slice none 0 0) w) (hkb : ∀ i, i < k → kb2 i = kb i) (hkk : kb2 k = g) (hgB : B ≤ g) (hlt : ∀ i, i < k → kb i < g) {aa : Option Addr} {ac : Nat}
    (hg : w.heap[g]? = some (.cells (knCells kb2 none (nd k) (pl k) aa ac 0 none 0) 107 (0, 0))) (ho : w.ownsRow B 96 2 (.slice aa (nd k).attrs.length ac) (nd k).attrs.length (flat2 (nd k).attrs)) :
    KnoV bareF (fun i => i < k + 1) nd pl B kb2 (fun _ => .slice none 0 0) w := by
  refine ⟨fun i hi => ?_, fun i j hi hj e => ?_, fun i j _ _ _ => KApt.nil _ _ _⟩
  · by_cases e : i = k
    · subst e
      rw [hkk]
      exact ⟨hgB, aa, ac, none, 0, rfl, hg, ho, World.ownsRow_nil _ _ _ _⟩
    · have hik : i < k := by omega
      obtain ⟨hB, aa, ac, ka, kc, e1, hh, o1, o2⟩ := h.node i hik
      rw [hkb i hik]
      exact ⟨hB, aa, ac, ka, kc, e1, hh, o1, o2⟩
  · by_cases e1 : i = k
    · by_cases e2 : j = k
      · omega
      · rw [e1, hkk, hkb j (by omega)] at e
        have := hlt j (by omega)
        omega
    · by_cases e2 : j = k
      · rw [e2, hkk, hkb i (by omega)] at e
        have := hlt i (by omega)
        omega
      · rw [hkb i (by omega), hkb j (by omega)] at e
        exact h.inj i j (by omega) (by omega) e

def G1Rel (t : List Nd) (w : World) (x : Value) (wr : World) : Prop :=
  ∃ (k : Nat) (kb : Nat → Nat) (fa : Option Addr) (fc : Nat), k ≤ t.length ∧ x = .int .i64 k ∧ KnoV bareF (fun i => i < k) (ndT t) (fun i => (i : Int)) w.heap.size kb (fun _ => .slice none 0 0) wr ∧
    wr.heap[w.heap.size]? = some (.cells #[.slice fa k fc, .int .i64 t.length, .bool false] 76 (0, 0)) ∧ wr.ownsRow w.heap.size 77 1 (.slice fa k fc) k (ptrs kb (List.range k)) ∧ Below w.heap.size w wr

theorem ptrs_congr {kb kb2 : Nat → Nat} {l : List Nat} (h : ∀ i ∈ l, kb2 i = kb i) : ptrs kb2 l = ptrs kb l := by
  unfold ptrs
  exact List.map_congr_left fun i hi => by rw [h i hi]

/-- What the round makes of memory. -/
theorem g1_world {t : List Nd} {k : Nat} (hk : k < t.length) {w wr : World} {kb : Nat → Nat} {fa : Option Addr} {fc : Nat} (hK : KnoV bareF (fun i => i < k) (ndT t) (fun i => (i : Int)) w.heap.size kb (fun _ => .slice none 0 0) wr)
    (hf : wr.heap[w.heap.size]? = some (.cells #[.slice fa k fc, .int .i64 t.length, .bool false] 76 (0, 0))) (hrow : wr.ownsRow w.heap.size 77 1 (.slice fa k fc) k (ptrs kb (List.range k))) (hb : Below w.heap.size w wr)
    {x : Nd} (hx : x = ndT t k) {w1 : World} {a1 : Option Addr} {c1 : Nat} {aa : Option Addr} {ac : Nat}
    (hg1 : ((wr.alloc (.cells #[.int .i64 (k : Int), .int .i64 x.kind, .string x.tag, .string x.text, .slice aa x.attrs.length ac, .int .i64 x.size, .pointer none, .slice none 0 0] 107)).alloc (.cells #[] 96)).grownBy w1 (some (wr.heap.size + 1)))
    (ho1 : w1.ownsRow (wr.heap.size + 1) 96 2 (.slice a1 x.attrs.length c1) x.attrs.length (flat2 x.attrs)) :
    let W2 := (w1.setCell ⟨wr.heap.size, 4, none⟩ (.slice a1 x.attrs.length c1)).alloc (.cells #[.pointer (some ⟨wr.heap.size, 0, none⟩)] 77)
    ∃ kb2 : Nat → Nat, kb2 k = wr.heap.size ∧ W2.ownsRow w.heap.size 77 1 (.slice fa k fc) (List.range k).length (ptrs kb2 (List.range k)) ∧ RSl W2 W2.heap.size (some ⟨w1.heap.size, 0, none⟩) (ptrs kb2 [k]) ∧
      (W2.cell? ⟨w.heap.size, 0, none⟩ = some (.slice fa k fc) ∧ W2.frozen? ⟨w.heap.size, 0, none⟩ = false) ∧
      ∀ w2 (a2 : Option Addr) (c2 : Nat), W2.grownBy w2 (Value.slice fa k fc).ownBlock → w2.ownsRow w.heap.size 77 1 (.slice a2 (List.range k ++ [k]).length c2) (List.range k ++ [k]).length (ptrs kb2 (List.range k ++ [k])) →
        (w2.cell? ⟨w.heap.size, 0, none⟩ = some (.slice fa k fc) ∧ w2.frozen? ⟨w.heap.size, 0, none⟩ = false) ∧ G1Rel t w (.int .i64 ((k + 1 : Nat) : Int)) (w2.setCell ⟨w.heap.size, 0, none⟩ (.slice a2 (k + 1) c2)) := by
  intro W2
  have hwf : w.heap.size < wr.heap.size := (Array.getElem?_eq_some_iff.1 hf).1
  have hs1 := hg1.size
  simp only [World.size_alloc] at hs1
  have hb1 : Below wr.heap.size wr w1 := (((Below.refl _ _).alloc (Nat.le_refl _) _).alloc (by rw [World.size_alloc]; omega) _).grown hg1 (by rw [World.size_alloc, World.size_alloc]; omega) (fun q e => by cases e; omega)
  have hbS : Below wr.heap.size wr (w1.setCell ⟨wr.heap.size, 4, none⟩ (.slice a1 x.attrs.length c1)) := hb1.setCell (by exact Nat.le_refl _) _
  have hsS : (w1.setCell ⟨wr.heap.size, 4, none⟩ (.slice a1 x.attrs.length c1)).heap.size = w1.heap.size := by simp [World.setCell]
  have hbW : Below wr.heap.size wr W2 := hbS.alloc hbS.size _
  have hsW : W2.heap.size = w1.heap.size + 1 := by show ((w1.setCell _ _).alloc _).heap.size = _; rw [World.size_alloc, hsS]
  have k1 : w1.heap[wr.heap.size]? = some (.cells #[.int .i64 (k : Int), .int .i64 x.kind, .string x.tag, .string x.text, .slice aa x.attrs.length ac, .int .i64 x.size, .pointer none, .slice none 0 0] 107 (0, 0)) := by
    rw [hg1.block wr.heap.size (by rw [World.size_alloc, World.size_alloc]; omega) (fun e => by injection e with e; omega), Below.heap_alloc _ _ _ (by rw [World.size_alloc]; omega)]
    exact heap_alloc_new wr _
  have k2 : W2.heap[wr.heap.size]? = some (.cells #[.int .i64 (k : Int), .int .i64 x.kind, .string x.tag, .string x.text, .slice a1 x.attrs.length c1, .int .i64 x.size, .pointer none, .slice none 0 0] 107 (0, 0)) := by
    show ((w1.setCell _ _).alloc _).heap[wr.heap.size]? = _
    rw [Below.heap_alloc _ _ _ (by rw [hsS]; omega)]
    exact heap_setCell_same w1 wr.heap.size 4 _ _ _ k1
  have k3 : W2.heap[w1.heap.size]? = some (.cells #[.pointer (some ⟨wr.heap.size, 0, none⟩)] 77 (0, 0)) := by
    have := heap_alloc_new (w1.setCell ⟨wr.heap.size, 4, none⟩ (.slice a1 x.attrs.length c1)) (.cells #[.pointer (some ⟨wr.heap.size, 0, none⟩)] 77)
    rwa [hsS] at this
  have oA : W2.ownsRow w.heap.size 96 2 (.slice a1 x.attrs.length c1) x.attrs.length (flat2 x.attrs) :=
    own_base ((own_setCell ho1 (fun e => by have := (ho1.lt _ e).1; simp at this; omega) _).alloc _) (by omega)
  have hKlt : ∀ i, i < k → kb i < wr.heap.size := fun i hi => hK.kno.lt hi
  refine ⟨fun i => if i = k then wr.heap.size else kb i, if_pos rfl, ?_, ?_, ?_, ?_⟩
  · have e : ptrs (fun i => if i = k then wr.heap.size else kb i) (List.range k) = ptrs kb (List.range k) := ptrs_congr fun i hi => by
      rw [List.mem_range] at hi
      rw [if_neg (by omega)]
    rw [e, List.length_range]
    exact own_kept hrow (fun b _ hb => hbW.block b hb)
  · refine .inr ⟨w1.heap.size, 0, rfl, by omega, fun i hi => ?_⟩
    have e : i = 0 := by simp [ptrs] at hi; omega
    subst e
    rw [cell_of_row W2 _ _ _ _ _ k3]
    simp [ptrs]
  · have q := (hbW.block _ hwf).trans hf
    exact ⟨by rw [cell_of_row W2 _ 0 _ _ _ q]; rfl, frozen_of_row W2 _ 0 _ _ q⟩
  · intro w2 a2 c2 hg2 ho2
    have hrow2 : W2.ownsRow w.heap.size 77 1 (.slice fa k fc) k (ptrs kb (List.range k)) := own_kept hrow (fun b _ hb => hbW.block b hb)
    have q1 := (hbW.block _ hwf).trans hf
    have q : w2.heap[w.heap.size]? = some (.cells #[.slice fa k fc, .int .i64 t.length, .bool false] 76 (0, 0)) := by
      rw [hg2.block w.heap.size (by omega) (fun e => own_ne hrow2 q1 (by decide) e.symm)]; exact q1
    have hK2 := hK.kept (w' := W2) (fun b _ hb => hbW.block b hb)
    have hK3 := hK2.add (kb2 := fun i => if i = k then wr.heap.size else kb i) (g := wr.heap.size) (fun i hi => by rw [if_neg (by omega)]) (if_pos rfl) (by omega) hKlt (aa := a1) (ac := c1) (by rw [← hx]; exact k2) (by rw [← hx]; exact oA)
    have hK4 := (hK3.grown hrow2 (fun i hi => (KApt.nil _ _ _).symm) hg2).far q (by decide) (by decide) (by decide) 0 (.slice a2 (k + 1) c2)
    have eL : (List.range k ++ [k]).length = k + 1 := by simp
    refine ⟨⟨by rw [cell_of_row w2 _ 0 _ _ _ q]; rfl, frozen_of_row w2 _ 0 _ _ q⟩, k + 1, _, a2, c2, by omega, rfl, hK4, ?_, ?_, ?_⟩
    · exact heap_setCell_same w2 w.heap.size 0 _ _ _ q
    · rw [eL] at ho2
      rw [List.range_succ]
      exact own_setCell ho2 (own_ne ho2 q (by decide)) _
    · have hb2 : Below w.heap.size w w2 := (hb.trans (hbW.mono (by omega))).grown hg2 (by omega) (fun q e => (hrow2.lt q e).1)
      exact hb2.setCell (Nat.le_refl _) _
end Go.Proofs.Ytmhhfljbocbolaa

namespace Go.Proofs.Ytmhhfljbocbolaa
open Go.RowKit
set_option linter.unusedVariables false

theorem KnoV.setPar {F : Fo} {S : Nat → Prop} {nd : Nat → Nd} {pl : Nat → Int} {B : Nat} {kb : Nat → Nat} {kv : Nat → Value} {w : World} (h : KnoV F S nd pl B kb kv w) {p : Nat} (hp : S p) (o : Option Nat) :
    KnoV (F.setPar p o) S nd pl B kb kv (w.setCell ⟨kb p, 6, none⟩ (ptrTo kb o)) := by
  refine ⟨fun i hi => ?_, h.inj, h.apt⟩
  obtain ⟨_, _, _, _, _, _, hhp, _, _⟩ := h.node p hp
  obtain ⟨hB, aa, ac, ka, kc, e0, hh, h1, h2⟩ := h.node i hi
  have o1 := own_setCell h1 (p := ⟨kb p, 6, none⟩) (own_ne h1 hhp (by decide)) (ptrTo kb o)
  have o2 := own_setCell h2 (p := ⟨kb p, 6, none⟩) (own_ne h2 hhp (by decide)) (ptrTo kb o)
  refine ⟨hB, aa, ac, ka, kc, e0, ?_, o1, o2⟩
  by_cases e : i = p
  · subst e
    have ek : (F.setPar i o).par i = o := by show (if i = i then o else _) = o; rw [if_pos rfl]
    rw [ek]
    exact heap_setCell_same w (kb i) 6 _ _ _ hh
  · have ek : (F.setPar p o).par i = F.par i := by show (if i = p then o else _) = _; rw [if_neg e]
    rw [ek, Below.heap_setCell _ _ _ _ (fun e2 => e (h.inj i p hi hp e2))]
    exact hh

def updV (kv : Nat → Value) (i : Nat) (v : Value) : Nat → Value := fun j => if j = i then v else kv j

theorem KnoV.growKids {F : Fo} {S : Nat → Prop} {nd : Nat → Nd} {pl : Nat → Int} {B : Nat} {kb : Nat → Nat} {kv : Nat → Value} {w w2 : World} (h : KnoV F S nd pl B kb kv w) {p : Nat} (hp : S p) {L : List Nat} {a : Option Addr} {c : Nat}
    (hg : w.grownBy w2 (kv p).ownBlock) (hL : w2.ownsRow B 77 1 (.slice a L.length c) L.length (ptrs kb L)) (hat : (Value.slice a L.length c).ownBlock = (kv p).ownBlock ∨ (Value.slice a L.length c).ownBlock = some w.heap.size) :
    KnoV (F.setKids p L) S nd pl B kb (updV kv p (.slice a L.length c)) (w2.setCell ⟨kb p, 7, none⟩ (.slice a L.length c)) := by
  obtain ⟨_, _, _, _, _, _, hhp0, _, hrp⟩ := h.node p hp
  have hrne : ∀ j, S j → (kv p).ownBlock ≠ some (kb j) := fun j hj => by
    obtain ⟨_, _, _, _, _, _, hhj, _, _⟩ := h.node j hj
    exact own_ne hrp hhj (by decide)
  have hhp := (hg.block _ (Array.getElem?_eq_some_iff.1 hhp0).1 (fun e => hrne p hp e.symm)).trans hhp0
  refine ⟨fun i hi => ?_, h.inj, fun i j hi hj hij => ?_⟩
  · obtain ⟨hB, aa, ac, ka, kc, e0, hh, h1, h2⟩ := h.node i hi
    have hh2 := (hg.block _ (Array.getElem?_eq_some_iff.1 hh).1 (fun e => hrne i hi e.symm)).trans hh
    have h1' : w2.ownsRow B 96 2 (.slice aa (nd i).attrs.length ac) (nd i).attrs.length (flat2 (nd i).attrs) := by
      refine h1.kept hg ?_
      cases hb : (Value.slice aa (nd i).attrs.length ac).ownBlock with
      | none => exact .inl rfl
      | some b =>
        refine .inr fun e2 => ?_
        rcases h1.2 with ⟨e3, _⟩ | ⟨g, cap, cur, e3, e4, e5, _⟩
        · rw [e3] at hb; simp [Value.ownBlock] at hb
        · rw [e3] at hb
          simp [Value.ownBlock] at hb
          subst hb
          exact own_ne hrp e5 (by decide) e2.symm
    have o1 := own_setCell h1' (p := ⟨kb p, 7, none⟩) (own_ne h1' hhp (by decide)) (.slice a L.length c)
    have o3 := own_setCell hL (p := ⟨kb p, 7, none⟩) (own_ne hL hhp (by decide)) (.slice a L.length c)
    by_cases e : i = p
    · subst e
      have ek : (F.setKids i L).kids i = L := by show (if i = i then L else _) = L; rw [if_pos rfl]
      have ev : updV kv i (.slice a L.length c) i = .slice a L.length c := if_pos rfl
      rw [ek, ev]
      exact ⟨hB, aa, ac, a, c, rfl, heap_setCell_same w2 (kb i) 7 _ _ _ hh2, o1, o3⟩
    · have ek : (F.setKids p L).kids i = F.kids i := by show (if i = p then L else _) = _; rw [if_neg e]
      have ev : updV kv p (.slice a L.length c) i = kv i := if_neg e
      rw [ek, ev]
      have h2' := h2.kept hg (h.apt p i hp hi (Ne.symm e)).ne
      refine ⟨hB, aa, ac, ka, kc, e0, ?_, o1, own_setCell h2' (own_ne h2' hhp (by decide)) _⟩
      rw [Below.heap_setCell _ _ _ _ (fun e2 => e (h.inj i p hi hp e2))]
      exact hh2
  · have lt : ∀ q, S q → ∀ x, (kv q).ownBlock = some x → x < w.heap.size := fun q hq x hx => by
      obtain ⟨_, _, _, _, _, _, _, _, hr⟩ := h.node q hq
      exact (hr.lt x hx).2
    by_cases e1 : i = p
    · subst e1
      have ev : updV kv i (.slice a L.length c) i = .slice a L.length c := if_pos rfl
      have ev2 : updV kv i (.slice a L.length c) j = kv j := if_neg (Ne.symm hij)
      rw [ev, ev2]
      exact (h.apt i j hi hj hij).step hat (lt j hj)
    · by_cases e2 : j = p
      · subst e2
        have ev : updV kv j (.slice a L.length c) j = .slice a L.length c := if_pos rfl
        have ev2 : updV kv j (.slice a L.length c) i = kv i := if_neg e1
        rw [ev, ev2]
        exact ((h.apt j i hj hi (Ne.symm hij)).step hat (lt i hi)).symm
      · have ev : updV kv p (.slice a L.length c) i = kv i := if_neg e1
        have ev2 : updV kv p (.slice a L.length c) j = kv j := if_neg e2
        rw [ev, ev2]
        exact h.apt i j hi hj hij

/-- The forest while it grows: all kids of the nodes below i, and some of node i. -/
def foA (t : List Nd) (i : Nat) (done : List Nat) : Fo :=
  ⟨fun c => if c < t.length then (match parJ t c c with | some p => if p < i ∨ (p = i ∧ c ∈ done) then some p else none | none => none) else none,
   fun p => if p < i ∧ p < t.length then kidsL t p else if p = i then done else []⟩

theorem foA_start (t : List Nd) : foA t 0 [] = bareF := by
  refine Fo.ext2 (fun c => ?_) (fun p => ?_)
  · show (if c < t.length then _ else none) = none
    by_cases e : c < t.length
    · rw [if_pos e]
      cases parJ t c c with
      | none => rfl
      | some p => show (if p < 0 ∨ (p = 0 ∧ c ∈ []) then some p else none) = none; rw [if_neg (by simp)]
    · rw [if_neg e]
  · show (if p < 0 ∧ p < t.length then kidsL t p else if p = 0 then [] else []) = []
    rw [if_neg (by omega)]; split <;> rfl

theorem foA_end {t : List Nd} (hR : RightP t) : foA t t.length [] = fo0 t := by
  refine Fo.ext2 (fun c => ?_) (fun p => ?_)
  · show (if c < t.length then _ else none) = (if c < t.length then parJ t c c else none)
    by_cases e : c < t.length
    · rw [if_pos e, if_pos e]
      cases h : parJ t c c with
      | none => rfl
      | some p =>
        have := (parJ_spec h).1
        show (if p < t.length ∨ _ then some p else none) = some p
        rw [if_pos (.inl (by omega))]
    · rw [if_neg e, if_neg e]
  · show (if p < t.length ∧ p < t.length then kidsL t p else if p = t.length then [] else []) = (if p < t.length then kidsL t p else [])
    by_cases e : p < t.length
    · rw [if_pos ⟨e, e⟩, if_pos e]
    · rw [if_neg (fun h => e h.1), if_neg e]; split <;> rfl

theorem foA_next {t : List Nd} (hR : RightP t) {i : Nat} (hi : i < t.length) : foA t i (kidsL t i) = foA t (i + 1) [] := by
  refine Fo.ext2 (fun c => ?_) (fun p => ?_)
  · show (if c < t.length then _ else none) = (if c < t.length then _ else none)
    by_cases e : c < t.length
    · rw [if_pos e, if_pos e]
      cases h : parJ t c c with
      | none => rfl
      | some p =>
        show (if p < i ∨ (p = i ∧ c ∈ kidsL t i) then some p else none) = (if p < i + 1 ∨ (p = i + 1 ∧ c ∈ []) then some p else none)
        by_cases e2 : p ≤ i
        · rw [if_pos (show p < i + 1 ∨ _ from .inl (by omega))]
          rcases Nat.lt_or_ge p i with e3 | e3
          · rw [if_pos (.inl e3)]
          · have : p = i := by omega
            subst this
            rw [if_pos (.inr ⟨rfl, kid_mem hR hi (parJ_isPar h)⟩)]
        · rw [if_neg (by omega), if_neg (by simp; omega)]
    · rw [if_neg e, if_neg e]
  · show (if p < i ∧ p < t.length then kidsL t p else if p = i then kidsL t i else []) = (if p < i + 1 ∧ p < t.length then kidsL t p else if p = i + 1 then [] else [])
    by_cases e : p < i
    · rw [if_pos ⟨e, by omega⟩, if_pos ⟨by omega, by omega⟩]
    · by_cases e2 : p = i
      · subst e2
        rw [if_neg (by omega), if_pos rfl, if_pos ⟨by omega, hi⟩]
      · rw [if_neg (by omega), if_neg e2, if_neg (by omega)]; split <;> rfl

theorem foA_step {t : List Nd} {i k : Nat} (hi : i < t.length) (hk : k < t.length) (hp : parJ t k k = some i) (done : List Nat) : ((foA t i done).setPar k (some i)).setKids i (done ++ [k]) = foA t i (done ++ [k]) := by
  refine Fo.ext2 (fun c => ?_) (fun p => ?_)
  · show (if c = k then some i else if c < t.length then _ else none) = (if c < t.length then _ else none)
    by_cases e : c = k
    · subst e
      rw [if_pos rfl, if_pos hk, hp]
      show some i = (if i < i ∨ (i = i ∧ c ∈ done ++ [c]) then some i else none)
      rw [if_pos (.inr ⟨rfl, by simp⟩)]
    · rw [if_neg e]
      by_cases e2 : c < t.length
      · rw [if_pos e2, if_pos e2]
        cases h : parJ t c c with
        | none => rfl
        | some p =>
          show (if p < i ∨ (p = i ∧ c ∈ done) then some p else none) = (if p < i ∨ (p = i ∧ c ∈ done ++ [k]) then some p else none)
          have : c ∈ done ++ [k] ↔ c ∈ done := by simp [e]
          simp only [this]
      · rw [if_neg e2, if_neg e2]
  · show (if p = i then done ++ [k] else if p < i ∧ p < t.length then kidsL t p else if p = i then done else []) = (if p < i ∧ p < t.length then kidsL t p else if p = i then done ++ [k] else [])
    by_cases e : p = i
    · subst e
      rw [if_pos rfl, if_neg (by omega), if_pos rfl]
    · rw [if_neg e]
      by_cases e2 : p < i ∧ p < t.length
      · rw [if_pos e2, if_pos e2]
      · rw [if_neg e2, if_neg e2, if_neg e, if_neg e]

/-- Kids of some nodes of the tree have been listed. -/
structure G2W (t : List Nd) (w : World) (kb : Nat → Nat) (fa : Nat) (fc : Nat) (F : Fo) (kv : Nat → Value) (wr : World) : Prop where
  kno : KnoV F (fun i => i < t.length) (ndT t) (fun i => (i : Int)) w.heap.size kb kv wr
  apt : ∀ i, i < t.length → KApt (kv i) (.slice (some ⟨fa, 0, none⟩) t.length fc)
  fst : wr.heap[w.heap.size]? = some (.cells #[.slice (some ⟨fa, 0, none⟩) t.length fc, .int .i64 t.length, .bool false] 76 (0, 0))
  row : wr.ownsRow w.heap.size 77 1 (.slice (some ⟨fa, 0, none⟩) t.length fc) t.length (ptrs kb (List.range t.length))
  below : Below w.heap.size w wr

theorem G2W.elem {t : List Nd} {w : World} {kb : Nat → Nat} {fa fc : Nat} {F : Fo} {kv : Nat → Value} {wr : World} (h : G2W t w kb fa fc F kv wr) {i : Nat} (hi : i < t.length) : wr.cell? ⟨fa, i, none⟩ = some (.pointer (some ⟨kb i, 0, none⟩)) := by
  have := h.row.cells (g := fa) rfl i (.pointer (some ⟨kb i, 0, none⟩)) (by simp [ptrs, hi])
  rw [Addr.add_lit, Nat.zero_add] at this
  exact this

theorem G2W.setPar {t : List Nd} {w : World} {kb : Nat → Nat} {fa fc : Nat} {F : Fo} {kv : Nat → Value} {wr : World} (h : G2W t w kb fa fc F kv wr) {k : Nat} (hk : k < t.length) (o : Option Nat) :
    G2W t w kb fa fc (F.setPar k o) kv (wr.setCell ⟨kb k, 6, none⟩ (ptrTo kb o)) := by
  obtain ⟨hB, _, _, _, _, _, hh, _, _⟩ := h.kno.node k hk
  have hne : w.heap.size ≠ kb k := fun e => by
    have h1 := h.fst
    rw [e, hh] at h1
    injection h1 with h1
    injection h1 with _ h1
    exact absurd h1 (by decide)
  exact ⟨h.kno.setPar hk o, h.apt, by rw [Below.heap_setCell _ _ _ _ (by exact hne)]; exact h.fst, own_setCell h.row (own_ne h.row hh (by decide)) _, h.below.setCell (by exact hB) _⟩

theorem G2W.kept {t : List Nd} {w : World} {kb : Nat → Nat} {fa fc : Nat} {F : Fo} {kv : Nat → Value} {wr wr2 : World} (h : G2W t w kb fa fc F kv wr) (hb : Below wr.heap.size wr wr2) : G2W t w kb fa fc F kv wr2 :=
  ⟨h.kno.kept (fun b _ h2 => hb.block b h2), h.apt, (hb.block _ (Array.getElem?_eq_some_iff.1 h.fst).1).trans h.fst, own_kept h.row (fun b _ h2 => hb.block b h2), h.below.trans (hb.mono h.below.size)⟩

theorem G2W.growKids {t : List Nd} {w : World} {kb : Nat → Nat} {fa fc : Nat} {F : Fo} {kv : Nat → Value} {wr w2 : World} (h : G2W t w kb fa fc F kv wr) {p : Nat} (hp : p < t.length) {L : List Nat} {a : Option Addr} {c : Nat}
    (hg : wr.grownBy w2 (kv p).ownBlock) (hL : w2.ownsRow w.heap.size 77 1 (.slice a L.length c) L.length (ptrs kb L)) (hat : (Value.slice a L.length c).ownBlock = (kv p).ownBlock ∨ (Value.slice a L.length c).ownBlock = some wr.heap.size) :
    G2W t w kb fa fc (F.setKids p L) (updV kv p (.slice a L.length c)) (w2.setCell ⟨kb p, 7, none⟩ (.slice a L.length c)) := by
  obtain ⟨hB, _, _, _, _, _, hh, _, hr⟩ := h.kno.node p hp
  have hne : w.heap.size ≠ kb p := fun e => by
    have h1 := h.fst
    rw [e, hh] at h1
    injection h1 with h1
    injection h1 with _ h1
    exact absurd h1 (by decide)
  have hfr : (kv p).ownBlock ≠ some w.heap.size := own_ne hr h.fst (by decide)
  have hrow2 := h.row.kept hg (h.apt p hp).ne
  have hh2 := (hg.block _ (Array.getElem?_eq_some_iff.1 hh).1 (fun e => own_ne hr hh (by decide) e.symm)).trans hh
  refine ⟨h.kno.growKids hp hg hL hat, fun i hi => ?_, ?_, own_setCell hrow2 (own_ne hrow2 hh2 (by decide)) _, ?_⟩
  · by_cases e : i = p
    · subst e
      have ev : updV kv i (.slice a L.length c) i = .slice a L.length c := if_pos rfl
      rw [ev]
      exact (h.apt i hi).step hat (fun x hx => (h.row.lt x hx).2)
    · have ev : updV kv p (.slice a L.length c) i = kv i := if_neg e
      rw [ev]; exact h.apt i hi
  · rw [Below.heap_setCell _ _ _ _ (by exact hne), hg.block _ (Array.getElem?_eq_some_iff.1 h.fst).1 (fun e => hfr e.symm)]
    exact h.fst
  · exact (h.below.grown hg h.below.size (fun q e => (hr.lt q e).1)).setCell (by exact hB) _
end Go.Proofs.Ytmhhfljbocbolaa

namespace Go.Proofs.Ytmhhfljbocbolaa
open Go.RowKit
set_option linter.unusedVariables false

/-- The reference's forest: where it lies. -/
def KGrownPost (t : List Nd) (w : World) (e : Ending) (w' : World) : Prop :=
  e = .returned (.pointer (some ⟨w.heap.size, 0, none⟩)) ∧ ∃ kb g fc, Kno (fo0 t) (fun i => i < t.length) (ndT t) (fun i => (i : Int)) w.heap.size kb w' ∧ w'.heap[w.heap.size]? = some (.cells #[.slice (some ⟨g, 0, none⟩) t.length fc, .int .i64 t.length, .bool false] 76 (0, 0)) ∧
    w'.ownsRow w.heap.size 77 1 (.slice (some ⟨g, 0, none⟩) t.length fc) t.length (ptrs kb (List.range t.length)) ∧ Below w.heap.size w w'

set_option maxRecDepth 100000 in
set_option maxHeartbeats 4000000 in
theorem kgrown_any (ad : Option Addr) (c : Nat) (t : List Nd) (hR : RightP t) (w : World) (h : NSl w w.heap.size ad t) :
    Calls Try.prog 47 #[.slice ad t.length c] w (KGrownPost t w) := by
  obtain ⟨b, o, rfl, hbB, hc⟩ := h.at_ hR.pos
  have hle := hR.le
  have HC := Lib.hid hc
  have HR := Lib.hid hR
  clear hc h hR
  go_enter Try.func47, Try.ntmps47
  go_wp2_with fail
  go_loopw [4] (fun x wr => G1Rel t w x wr) (fun x _ => t.length - (intOf x).toNat)
  case atStart =>
    refine ⟨0, fun _ => 0, none, 0, by omega, rfl, ⟨fun i hi => absurd hi (by omega), fun i j hi => absurd hi (by omega), fun i j hi => absurd hi (by omega)⟩, ?_, World.ownsRow_nil _ _ _ _, ?_⟩
    · exact heap_alloc_new w _
    · exact (Below.refl _ _).alloc (Nat.le_refl _) _
  case round =>
    obtain ⟨k, kb, fa, fc, hk, rfl, hK, hf, hrow, hb⟩ := hrel
    by_cases hlt : k < t.length
    · obtain ⟨g1, g2, g3, g4, g5, hok⟩ := HC.out k hlt
      replace g1 := (hb.cell (p := ⟨b, _, none⟩) hbB).trans g1
      replace g2 := (hb.cell (p := ⟨b, _, none⟩) hbB).trans g2
      replace g3 := (hb.cell (p := ⟨b, _, none⟩) hbB).trans g3
      replace g4 := (hb.cell (p := ⟨b, _, none⟩) hbB).trans g4
      replace g5 := (hb.cell (p := ⟨b, _, none⟩) hbB).trans g5
      obtain ⟨nd, hnd⟩ : ∃ nd, nd = t[k] := ⟨_, rfl⟩
      rw [← hnd] at g1 g2 g3 g4 g5 hok
      obtain ⟨kd, tag, text, aa, ac, attrs, size⟩ := nd
      dsimp only at g1 g2 g3 g4 g5
      have f0 := cell_of_row wr w.heap.size 0 _ _ _ hf
      have ff := frozen_of_row wr w.heap.size 0 _ _ hf
      simp only [List.getElem?_toArray, List.getElem?_cons_zero] at f0
      have HK := Lib.hid hK
      have HF := Lib.hid hf
      have HRow := Lib.hid hrow
      have HB := Lib.hid hb
      have HOk := Lib.hid hok
      have HNd := Lib.hid hnd
      have hbw : b < wr.heap.size := by have := hb.size; omega
      have hwf : w.heap.size < wr.heap.size := (Array.getElem?_eq_some_iff.1 hf).1
      obtain ⟨W0, hW0⟩ : ∃ W0, W0 = wr.alloc (.cells #[.int .i64 (k : Int), .int .i64 kd, .string tag, .string text, .slice aa attrs.length ac, .int .i64 size, .pointer none, .slice none 0 0] 107) := ⟨_, rfl⟩
      have hB0 : Below wr.heap.size wr W0 := by rw [hW0]; exact (Below.refl _ _).alloc (Nat.le_refl _) _
      have hs0 : W0.heap.size = wr.heap.size + 1 := by rw [hW0]; simp
      have k0 : W0.heap[wr.heap.size]? = some (.cells #[.int .i64 (k : Int), .int .i64 kd, .string tag, .string text, .slice aa attrs.length ac, .int .i64 size, .pointer none, .slice none 0 0] 107 (0, 0)) := by rw [hW0]; exact heap_alloc_new wr _
      have HOwn : Hid ((W0.alloc (.cells #[] 96)).ownsRow (wr.heap.size + 1) 96 2 (.slice (some ⟨wr.heap.size + 1, 0, none⟩) 0 0) 0 []) := by have := own_emptyS W0 96 2; rw [hs0] at this; exact this
      have hal : Below wr.heap.size wr (W0.alloc (.cells #[] 96)) := hB0.alloc (by omega) _
      have HAsl : Hid (ASl (W0.alloc (.cells #[] 96)) (W0.alloc (.cells #[] 96)).heap.size aa attrs) := ((hok.below hb).attrs.more hb.size).below hal |>.more (by simp; omega)
      have hat : attrs.length ≤ 1000 := by
        have := (HR.out.node k hlt).tag
        have h2 := (HR.out.node k hlt).kinds
        rw [← hnd] at this h2
        dsimp only at this h2
        rcases h2 with ⟨h2, _⟩ | ⟨h2, _⟩ | ⟨_, h2⟩ | ⟨h2, _⟩
        · have := (this (by omega)).2; omega
        · have := (this (by omega)).2; omega
        · have := h2.len; omega
        · have := (this (by omega)).2; omega
      have HStep1 : Hid (∀ w1, (W0.alloc (.cells #[] 96)).grownBy w1 (some (wr.heap.size + 1)) → w1.cell? ⟨wr.heap.size, 4, none⟩ = some (.slice aa attrs.length ac) ∧ w1.frozen? ⟨wr.heap.size, 4, none⟩ = false ∧ wr.heap.size < w1.heap.size ∧ w1.cell? ⟨w.heap.size, 0, none⟩ = some (.slice fa k fc)) := by
        intro w1 hg
        have hb1 : Below W0.heap.size W0 w1 := ((Below.refl _ _).alloc (Nat.le_refl _) _).grown hg (by simp) (fun q e => by cases e; omega)
        have q1 := (hb1.block wr.heap.size (by omega)).trans k0
        have q2 := (hb1.block w.heap.size (by omega)).trans ((hB0.block _ hwf).trans hf)
        exact ⟨by rw [cell_of_row w1 _ 4 _ _ _ q1]; rfl, frozen_of_row w1 _ 4 _ _ q1, by have := hb1.size; omega, by rw [cell_of_row w1 _ 0 _ _ _ q2]; rfl⟩
      have HW : Hid (∀ (w1 : World) (a1 : Option Addr) (c1 : Nat), (W0.alloc (.cells #[] 96)).grownBy w1 (some (wr.heap.size + 1)) → w1.ownsRow (wr.heap.size + 1) 96 2 (.slice a1 attrs.length c1) attrs.length (flat2 attrs) → _) := fun w1 a1 c1 hg ho => g1_world hlt hK hf hrow hb (x := ⟨kd, tag, text, aa, ac, attrs, size⟩) (by rw [hnd]; unfold ndT; rw [getD_at hlt]) (aa := aa) (ac := ac) (by rw [hW0] at hg; exact hg) ho
      have HB0 := Lib.hid hB0
      have HK0 := Lib.hid k0
      have Hs0 := Lib.hid hs0
      clear hK hf hrow hb hok hnd hB0 k0 hal hs0
      subst hW0
      go_wp2_with (at_builtin; refine wpList_append_at rfl (.tmp 26) (.tmp 31) rfl (wr.heap.size + 1) (.slice (some ⟨wr.heap.size + 1, 0, none⟩) 0 0) [] rfl HOwn.out aa attrs.length ac attrs rfl rfl HAsl.out (by simp; omega) (by simp) ?_)
      intro a1 c1 w1 hown1 hg1 hat1
      (try simp only [List.nil_append] at hown1 hat1 ⊢)
      obtain ⟨d4, f4, hs1, d0w⟩ := HStep1.out w1 hg1
      obtain ⟨kb2, hk2, ho2, hr2, ⟨d0, f0z⟩, hnext⟩ := HW.out w1 a1 c1 hg1 hown1
      have HO2 := Lib.hid ho2
      have HR2 := Lib.hid hr2
      have HN := Lib.hid hnext
      have hne1 : w.heap.size ≠ wr.heap.size := by omega
      have hne2 : wr.heap.size ≠ w.heap.size := by omega
      have hw1f : w.heap.size < w1.heap.size := by omega
      have Hk2 := Lib.hid hk2
      clear hown1 hg1 hat1 ho2 hr2 hnext hk2 HW HStep1 d0
      go_wp2_with (at_builtin; refine wpList_append_kn _ rfl (.tmp 40) (.tmp 42) rfl kb2 w.heap.size (.slice fa k fc) (List.range k) rfl HO2.out (some ⟨w1.heap.size, 0, none⟩) 1 1 [k] rfl rfl HR2.out (by simp; omega) (by simp [World.setCell]; omega) ?_)
      intro a2 c2 w2 hown2 hg2 hat2
      obtain ⟨⟨z0, zf⟩, hrel⟩ := HN.out w2 a2 c2 hg2 (by rw [show (List.range k ++ [k]).length = k + 1 from by simp]; exact hown2)
      have HRel := Lib.hid hrel
      clear hown2 hg2 hat2 hrel HN HO2 HR2
      go_wp2_with fail
      go_roundw
      case rel => exact HRel.out
      case measure => simp [intOf]; omega
    · have e : k = t.length := by omega
      subst e
      obtain ⟨g, rfl⟩ : ∃ g, fa = some ⟨g, 0, none⟩ := by
        rcases hrow.2 with ⟨_, e0⟩ | ⟨g, _, _, e0, _⟩
        · have := HR.out.pos; omega
        · exact ⟨g, by cases e0; rfl⟩
      have hG0 : G2W t w kb g fc (foA t 0 []) (fun _ => .slice none 0 0) wr := by
        rw [foA_start]
        exact ⟨hK, fun _ _ => KApt.nil _ _ _, hf, hrow, hb⟩
      have HG0 := Lib.hid hG0
      clear hK hf hrow hb hG0
      go_wp2_with fail
      go_loopw [6] (fun x wr => ∃ (i : Nat) (kv : Nat → Value), i ≤ t.length ∧ x = .int .i64 i ∧ G2W t w kb g fc (foA t i []) kv wr) (fun x _ => t.length - (intOf x).toNat)
      case atStart => exact ⟨0, _, by omega, rfl, HG0.out⟩
      case round =>
        clear HG0
        obtain ⟨i, kv, hi, rfl, hG⟩ := hrel
        obtain ⟨wo, rfl⟩ : ∃ wo : World, wo = wr := ⟨_, rfl⟩
        have HG := Lib.hid hG
        clear hG
        by_cases hlt : i < t.length
        · have hlam := HR.out.lam i (Nat.zero_le _) hlt
          have hs1 := hlam.2.1
          have hs2 := hlam.2.2.1
          have hl0 := lam_kids HR.out hlt
          have HL := Lib.hid hl0
          have HKe := Lib.hid (kidsL_eq (HR.out.lam.node_at (Nat.zero_le i) hlt) hs1)
          have g5 := (HC.out i hlt).2.2.2.2.1
          rw [size_at hlt hlam.1] at g5
          clear hlam hl0
          go_wp2_with fail
          go_loopw [7] (fun x wr => ∃ (k : Nat) (done : List Nat) (kv : Nat → Value), i + 1 ≤ k ∧ k ≤ i + sz t i ∧ x = .int .i64 k ∧ Hid (done ++ kidsFrom t (i + sz t i - k) k (i + sz t i) = kidsL t i) ∧ G2W t w kb g fc (foA t i done) kv wr) (fun x _ => i + sz t i - (intOf x).toNat)
          case atStart => exact ⟨i + 1, [], kv, by omega, by omega, by go_num, by unfold Hid; rw [List.nil_append, HKe.out], HG.out⟩
          case round =>
            clear HG
            obtain ⟨k, done, kv, hk1, hk2, rfl, hdone, hG⟩ := hrel
            have g5i := (hG.below.cell (p := ⟨b, o + i * 5 + 4, none⟩) hbB).trans g5
            by_cases hlk : k < i + sz t i
            · have hkt : k < t.length := by omega
              have hkids : done ++ k :: kidsFrom t (i + sz t i - (k + sz t k)) (k + sz t k) (i + sz t i) = kidsL t i := by rw [← hdone.out, kidsFrom_step (HL.out.from_ hk1) hlk]
              have hkm : k ∈ kidsL t i := by rw [← hkids]; simp
              have hpk := kid_par HR.out hlt hkm
              have hDl : done.length ≤ 200 := by
                have := (kids_facts HR.out i hlt).1
                rw [← hkids, List.length_append] at this
                omega
              have HDl := Lib.hid hDl
              have hkl := HR.out.lam k (Nat.zero_le _) hkt
              have hsk := hkl.2.1
              have hsk2 := (HL.out k hk1 hlk).2.2.1
              have g5k := (hG.below.cell (p := ⟨b, o + k * 5 + 4, none⟩) hbB).trans (HC.out k hkt).2.2.2.2.1
              rw [size_at hkt hkl.1] at g5k
              have f0 := cell_of_row wr w.heap.size 0 _ _ _ hG.fst
              simp only [List.getElem?_toArray, List.getElem?_cons_zero] at f0
              have ek := hG.elem hkt
              have ei := hG.elem hlt
              obtain ⟨kf, c6, -⟩ := hG.kno.kno.cells hkt
              have kf6 := kf 6
              obtain ⟨o6, ho6⟩ : ∃ o6, ptrTo kb ((foA t i done).par k) = .pointer o6 := ⟨_, rfl⟩
              rw [ho6] at c6
              have HA : Hid (G2W t w kb g fc ((foA t i done).setPar k (some i)) kv (wr.setCell ⟨kb k, 6, none⟩ (.pointer (some ⟨kb i, 0, none⟩))).drew) := (hG.setPar hkt (some i)).kept ((Below.refl _ _).drew)
              have HKid : Hid ((done ++ [k]) ++ kidsFrom t (i + sz t i - (k + sz t k)) (k + sz t k) (i + sz t i) = kidsL t i) := by unfold Hid; rw [← hkids]; simp
              have HStep := Lib.hid (foA_step hlt hkt hpk done)
              clear hdone hG hkids hkm hpk hkl kf ho6
              go_wp2_with fail
              refine wp_region_G (G3 16 16 16 (fun w' => w'.cell? ⟨w.heap.size, 0, none⟩ = some (.slice (some ⟨g, 0, none⟩) t.length fc) ∧ w'.cell? ⟨g, k, none⟩ = some (.pointer (some ⟨kb k, 0, none⟩)) ∧ w'.cell? ⟨g, i, none⟩ = some (.pointer (some ⟨kb i, 0, none⟩))) (fun _ => True) (fun _ => True)) (by kernel_rfl) ?_
              have hG0 : G3 16 16 16 (fun w' => w'.cell? ⟨w.heap.size, 0, none⟩ = some (.slice (some ⟨g, 0, none⟩) t.length fc) ∧ w'.cell? ⟨g, k, none⟩ = some (.pointer (some ⟨kb k, 0, none⟩)) ∧ w'.cell? ⟨g, i, none⟩ = some (.pointer (some ⟨kb i, 0, none⟩))) (fun _ => True) (fun _ => True) (Array.replicate 17 false) wr.drew := ⟨fun _ => ⟨f0, ek, ei⟩, fun _ => trivial, fun _ => trivial⟩
              refine wpAnyG_take0 (i := 0) (v := ?va0) rfl (by decide +kernel) (by decide +kernel) (by decide +kernel) (fun _ _ _ h => h) (fun l w => G3.set (by decide) (by decide) (by decide) l w) (Or.inl ⟨by rfl, ?hya0⟩) hG0 (fun hG1 => ?resta0)
              case hya0 => intro W' _; go_simp <;> with_reducible rfl
              clear hG0
              simp only [Act.put, List.setIfInBounds_toArray]
              refine wpAnyG_take0 (i := 1) (v := ?va1) rfl (by decide +kernel) (by decide +kernel) (by decide +kernel) (fun _ _ _ h => h) (fun l w => G3.set (by decide) (by decide) (by decide) l w) (Or.inl ⟨by rfl, ?hya1⟩) hG1 (fun hG2 => ?resta1)
              case hya1 => intro W' _; go_simp <;> with_reducible rfl
              clear hG1
              simp only [Act.put]
              refine wpAnyG_take0 (i := 2) (v := ?va2) rfl (by decide +kernel) (by decide +kernel) (by decide +kernel) (fun _ _ _ h => h) (fun l w => G3.set (by decide) (by decide) (by decide) l w) (Or.inl ⟨by rfl, ?hya2⟩) hG2 (fun hG3 => ?resta2)
              case hya2 => intro W' _; go_simp <;> with_reducible rfl
              clear hG2
              simp only [Act.put]
              refine wpAnyG_take (i := 3) (f := 16) (v := ?va3) rfl (by decide +kernel) (by decide +kernel) (by decide +kernel) (by decide +kernel) rfl rfl (fun _ _ _ h => h) (fun _ _ h g => g.1 h) (fun l w => G3.set (by decide) (by decide) (by decide) l w) (Or.inl ⟨by rfl, ?hya3⟩) hG3 (fun hG4 => ?resta3)
              case hya3 => intro W' hS; (try dsimp only at hS); go_simp <;> with_reducible rfl
              clear hG3
              simp only [Act.put]
              refine wpAnyG_take0 (i := 4) (v := ?va4) rfl (by decide +kernel) (by decide +kernel) (by decide +kernel) (fun _ _ _ h => h) (fun l w => G3.set (by decide) (by decide) (by decide) l w) (Or.inl ⟨by rfl, ?hya4⟩) hG4 (fun hG5 => ?resta4)
              case hya4 => intro W' _; go_simp <;> with_reducible rfl
              clear hG4
              simp only [Act.put]
              refine wpAnyG_take0 (i := 5) (v := ?va5) rfl (by decide +kernel) (by decide +kernel) (by decide +kernel) (fun _ _ _ h => h) (fun l w => G3.set (by decide) (by decide) (by decide) l w) (Or.inl ⟨by rfl, ?hya5⟩) hG5 (fun hG6 => ?resta5)
              case hya5 => intro W' _; go_simp <;> with_reducible rfl
              clear hG5
              simp only [Act.put]
              refine wpAnyG_take (i := 6) (f := 16) (v := ?va6) rfl (by decide +kernel) (by decide +kernel) (by decide +kernel) (by decide +kernel) rfl rfl (fun _ _ _ h => h) (fun _ _ h g => g.1 h) (fun l w => G3.set (by decide) (by decide) (by decide) l w) (Or.inl ⟨by rfl, ?hya6⟩) hG6 (fun hG7 => ?resta6)
              case hya6 => intro W' hS; (try dsimp only at hS); go_simp <;> with_reducible rfl
              clear hG6
              simp only [Act.put]
              refine wpAnyG_take0 (i := 7) (v := ?va7) rfl (by decide +kernel) (by decide +kernel) (by decide +kernel) (fun _ _ _ h => h) (fun l w => G3.set (by decide) (by decide) (by decide) l w) (Or.inl ⟨by rfl, ?hya7⟩) hG7 (fun hG8 => ?resta7)
              case hya7 => intro W' _; go_simp <;> with_reducible rfl
              clear hG7
              simp only [Act.put]
              refine wpAnyG_take0 (i := 8) (v := ?va8) rfl (by decide +kernel) (by decide +kernel) (by decide +kernel) (fun _ _ _ h => h) (fun l w => G3.set (by decide) (by decide) (by decide) l w) (Or.inl ⟨by rfl, ?hya8⟩) hG8 (fun hG9 => ?resta8)
              case hya8 => intro W' _; go_simp <;> with_reducible rfl
              clear hG8
              simp only [Act.put]
              refine wpAnyG_take0 (i := 9) (v := ?va9) rfl (by decide +kernel) (by decide +kernel) (by decide +kernel) (fun _ _ _ h => h) (fun l w => G3.set (by decide) (by decide) (by decide) l w) (Or.inl ⟨by rfl, ?hya9⟩) hG9 (fun hG10 => ?resta9)
              case hya9 => intro W' _; go_simp <;> with_reducible rfl
              clear hG9
              simp only [Act.put]
              refine wpAnyG_take (i := 10) (f := 16) (v := ?va10) rfl (by decide +kernel) (by decide +kernel) (by decide +kernel) (by decide +kernel) rfl rfl (fun _ _ _ h => h) (fun _ _ h g => g.1 h) (fun l w => G3.set (by decide) (by decide) (by decide) l w) (Or.inl ⟨by rfl, ?hya10⟩) hG10 (fun hG11 => ?resta10)
              case hya10 => intro W' hS; (try dsimp only at hS); go_simp <;> with_reducible rfl
              clear hG10
              simp only [Act.put]
              refine wpAnyG_take0 (i := 11) (v := ?va11) rfl (by decide +kernel) (by decide +kernel) (by decide +kernel) (fun _ _ _ h => h) (fun l w => G3.set (by decide) (by decide) (by decide) l w) (Or.inl ⟨by rfl, ?hya11⟩) hG11 (fun hG12 => ?resta11)
              case hya11 => intro W' _; go_simp <;> with_reducible rfl
              clear hG11
              simp only [Act.put]
              refine wpAnyG_take0 (i := 12) (v := ?va12) rfl (by decide +kernel) (by decide +kernel) (by decide +kernel) (fun _ _ _ h => h) (fun l w => G3.set (by decide) (by decide) (by decide) l w) (Or.inl ⟨by rfl, ?hya12⟩) hG12 (fun hG13 => ?resta12)
              case hya12 => intro W' _; go_simp <;> with_reducible rfl
              clear hG12
              simp only [Act.put]
              refine wpAnyG_take (i := 13) (f := 16) (v := ?va13) rfl (by decide +kernel) (by decide +kernel) (by decide +kernel) (by decide +kernel) rfl rfl (fun _ _ _ h => h) (fun _ _ h g => g.1 h) (fun l w => G3.set (by decide) (by decide) (by decide) l w) (Or.inl ⟨by rfl, ?hya13⟩) hG13 (fun hG14 => ?resta13)
              case hya13 => intro W' hS; (try dsimp only at hS); go_simp <;> with_reducible rfl
              clear hG13
              simp only [Act.put]
              clear hG14
              refine wpAnyG_one (i := 14) (by decide +kernel) rfl (fun K' hK => ?_)
              go_simp
              refine hK.out _ _ ⟨fun _ => ⟨f0, ek, ei⟩, fun _ => trivial, fun _ => trivial⟩ (fun hG9 => ?_); clear hK K' hG9
              refine wpAnyG_one (i := 15) (by decide +kernel) rfl (fun K' hK => ?_)
              go_simp
              refine hK.out _ _ ⟨fun _ => ⟨f0, ek, ei⟩, fun _ => trivial, fun _ => trivial⟩ (fun hG9 => ?_); clear hK K' hG9
              refine wpAnyG_one (i := 16) (by decide +kernel) rfl (fun K' hK => ?_)
              go_simp
              refine hK.out _ _ ⟨fun h => absurd h (by decide), fun h => absurd h (by decide), fun h => absurd h (by decide)⟩ (fun hG9 => ?_); clear hK K' hG9
              refine wpAnyG_done (by decide +kernel) ?_ _
              generalize (wr.setCell ⟨kb k, 6, none⟩ (.pointer (some ⟨kb i, 0, none⟩))).drew = wa at HA ⊢
              clear f0 ek ei c6 kf6
              have f0 := cell_of_row wa w.heap.size 0 _ _ _ HA.out.fst
              simp only [List.getElem?_toArray, List.getElem?_cons_zero] at f0
              have ek := HA.out.elem hkt
              have ei := HA.out.elem hlt
              obtain ⟨hkB, aa, ac, ka, kc, ekv, hki, -, hkr⟩ := HA.out.kno.node i hlt
              have ekd : ((foA t i done).setPar k (some i)).kids i = done := by
                show (if i < i ∧ i < t.length then kidsL t i else if i = i then done else []) = done
                rw [if_neg (by omega), if_pos rfl]
              rw [ekd] at ekv hki hkr
              have eki := cell_of_row wa (kb i) 7 _ _ _ hki
              have eki : wa.cell? ⟨kb i, 7, none⟩ = some (.slice ka done.length kc) := eki
              rw [ekv] at hkr
              have hbal : Below wa.heap.size wa (wa.drew.alloc (.cells #[.pointer (some ⟨kb k, 0, none⟩)] 77)) := ((Below.refl _ _).drew).alloc (Nat.le_refl _) _
              have hG3 := HA.out.kept hbal
              have HO1 : Hid ((wa.drew.alloc (.cells #[.pointer (some ⟨kb k, 0, none⟩)] 77)).ownsRow w.heap.size 77 1 (.slice ka done.length kc) done.length (ptrs kb done)) := own_kept hkr (fun b _ h2 => hbal.block b h2)
              have HR1 : Hid (RSl (wa.drew.alloc (.cells #[.pointer (some ⟨kb k, 0, none⟩)] 77)) (wa.drew.alloc (.cells #[.pointer (some ⟨kb k, 0, none⟩)] 77)).heap.size (some ⟨wa.heap.size, 0, none⟩) (ptrs kb [k])) := by
                refine .inr ⟨wa.heap.size, 0, rfl, by simp, fun q hq => ?_⟩
                have e : q = 0 := by simp [ptrs] at hq; omega
                subst e
                show World.cell? _ ⟨wa.drew.heap.size, 0, none⟩ = _
                rw [World.cell?_alloc_mark]
                rfl
              have HBs : Hid (w.heap.size ≤ (wa.drew.alloc (.cells #[.pointer (some ⟨kb k, 0, none⟩)] 77)).heap.size) := by unfold Hid; have := HA.out.below.size; have := hbal.size; omega
              have HA1 : Hid ((wa.drew.alloc (.cells #[.pointer (some ⟨kb k, 0, none⟩)] 77)).cell? ⟨w.heap.size, 0, none⟩ = some (.slice (some ⟨g, 0, none⟩) t.length fc) ∧ (wa.drew.alloc (.cells #[.pointer (some ⟨kb k, 0, none⟩)] 77)).cell? ⟨g, k, none⟩ = some (.pointer (some ⟨kb k, 0, none⟩)) ∧ (wa.drew.alloc (.cells #[.pointer (some ⟨kb k, 0, none⟩)] 77)).cell? ⟨g, i, none⟩ = some (.pointer (some ⟨kb i, 0, none⟩)) ∧ (wa.drew.alloc (.cells #[.pointer (some ⟨kb k, 0, none⟩)] 77)).cell? ⟨kb i, 7, none⟩ = some (.slice ka done.length kc)) := by
                have hx : ∀ {p : Addr} {v : Value}, wa.cell? p = some v → (wa.drew.alloc (.cells #[.pointer (some ⟨kb k, 0, none⟩)] 77)).cell? p = some v := fun hp => (hbal.cell (World.block_lt_of_cell? wa _ hp)).trans hp
                exact ⟨hx f0, hx ek, hx ei, hx eki⟩
              have HN : Hid (∀ w2 (a2 : Option Addr) (c2 : Nat), (wa.drew.alloc (.cells #[.pointer (some ⟨kb k, 0, none⟩)] 77)).grownBy w2 (Value.slice ka done.length kc).ownBlock → w2.ownsRow w.heap.size 77 1 (.slice a2 (done ++ [k]).length c2) (done ++ [k]).length (ptrs kb (done ++ [k])) →
                  ((Value.slice a2 (done ++ [k]).length c2).ownBlock = (Value.slice ka done.length kc).ownBlock ∨ (Value.slice a2 (done ++ [k]).length c2).ownBlock = some (wa.drew.alloc (.cells #[.pointer (some ⟨kb k, 0, none⟩)] 77)).heap.size) →
                  (w2.cell? ⟨w.heap.size, 0, none⟩ = some (.slice (some ⟨g, 0, none⟩) t.length fc) ∧ w2.cell? ⟨g, k, none⟩ = some (.pointer (some ⟨kb k, 0, none⟩)) ∧ w2.cell? ⟨g, i, none⟩ = some (.pointer (some ⟨kb i, 0, none⟩)) ∧ w2.cell? ⟨kb i, 7, none⟩ = some (.slice ka done.length kc)) ∧ w2.frozen? ⟨kb i, 7, none⟩ = false ∧
                  G2W t w kb g fc (foA t i (done ++ [k])) (updV kv i (.slice a2 (done ++ [k]).length c2)) (w2.setCell ⟨kb i, 7, none⟩ (.slice a2 (done ++ [k]).length c2))) := by
                intro w2 a2 c2 hg ho hat
                rw [← ekv] at hg hat
                have h4 := hG3.growKids hlt hg ho hat
                rw [HStep.out] at h4
                have hapt := hG3.apt i hlt
                have hrne : ∀ x, (kv i).ownBlock = some x → x ≠ g := fun x hx e => hapt x hx (by rw [e]; rfl)
                obtain ⟨_, _, _, _, _, _, hki3, _, hkr3⟩ := hG3.kno.node i hlt
                have q1 : w2.heap[w.heap.size]? = _ := (hg.block _ (Array.getElem?_eq_some_iff.1 hG3.fst).1 (fun e => own_ne hkr3 hG3.fst (by decide) e.symm)).trans hG3.fst
                have q2 : w2.heap[kb i]? = _ := (hg.block _ (Array.getElem?_eq_some_iff.1 hki3).1 (fun e => own_ne hkr3 hki3 (by decide) e.symm)).trans hki3
                have q3 : ∀ (j : Nat) (v : Value), (wa.drew.alloc (.cells #[.pointer (some ⟨kb k, 0, none⟩)] 77)).cell? ⟨g, j, none⟩ = some v → w2.cell? ⟨g, j, none⟩ = some v := fun j v hv => hg.cell hv (fun e => hrne g e.symm rfl)
                have q4 := cell_of_row w2 (kb i) 7 _ _ _ q2
                refine ⟨⟨?_, q3 _ _ HA1.out.2.1, q3 _ _ HA1.out.2.2.1, ?_⟩, frozen_of_row w2 _ 7 _ _ q2, h4⟩
                · rw [cell_of_row w2 _ 0 _ _ _ q1]; rfl
                · have q5 := HA1.out.2.2.2
                  rw [World.cell?_of_block (a := ⟨kb i, 7, none⟩) (hg.block _ (Array.getElem?_eq_some_iff.1 hki3).1 (fun e => own_ne hkr3 hki3 (by decide) e.symm))]
                  exact q5
              have HGb : Hid (∀ W kv', G2W t w kb g fc (foA t i (done ++ [k])) kv' W → W.cell? ⟨b, o + k * 5 + 4, none⟩ = some (.int .i64 (sz t k))) := fun W kv' hW => (hW.below.cell (p := ⟨b, o + k * 5 + 4, none⟩) hbB).trans (by
                rw [← size_at hkt (HR.out.lam k (Nat.zero_le _) hkt).1]
                exact (HC.out k hkt).2.2.2.2.1)
              clear hG3 hbal hki hkr ekv ekd g5i g5k
              go_wp2_with fail
              refine wp_region_G (G3 28 28 28 (fun w' => w'.cell? ⟨w.heap.size, 0, none⟩ = some (.slice (some ⟨g, 0, none⟩) t.length fc) ∧ w'.cell? ⟨g, k, none⟩ = some (.pointer (some ⟨kb k, 0, none⟩)) ∧ w'.cell? ⟨g, i, none⟩ = some (.pointer (some ⟨kb i, 0, none⟩)) ∧ w'.cell? ⟨kb i, 7, none⟩ = some (.slice ka done.length kc)) (fun _ => True) (fun _ => True)) (by kernel_rfl) ?_
              have hG0 : G3 28 28 28 (fun w' => w'.cell? ⟨w.heap.size, 0, none⟩ = some (.slice (some ⟨g, 0, none⟩) t.length fc) ∧ w'.cell? ⟨g, k, none⟩ = some (.pointer (some ⟨kb k, 0, none⟩)) ∧ w'.cell? ⟨g, i, none⟩ = some (.pointer (some ⟨kb i, 0, none⟩)) ∧ w'.cell? ⟨kb i, 7, none⟩ = some (.slice ka done.length kc)) (fun _ => True) (fun _ => True) (Array.replicate 29 false) wa.drew := ⟨fun _ => ⟨f0, ek, ei, eki⟩, fun _ => trivial, fun _ => trivial⟩
              refine wpAnyG_take0 (i := 0) (v := ?vb0) rfl (by decide +kernel) (by decide +kernel) (by decide +kernel) (fun _ _ _ h => h) (fun l w => G3.set (by decide) (by decide) (by decide) l w) (Or.inl ⟨by rfl, ?hyb0⟩) hG0 (fun hG1 => ?restb0)
              case hyb0 => intro W' _; go_simp <;> with_reducible rfl
              clear hG0
              simp only [Act.put, List.setIfInBounds_toArray]
              refine wpAnyG_take0 (i := 1) (v := ?vb1) rfl (by decide +kernel) (by decide +kernel) (by decide +kernel) (fun _ _ _ h => h) (fun l w => G3.set (by decide) (by decide) (by decide) l w) (Or.inl ⟨by rfl, ?hyb1⟩) hG1 (fun hG2 => ?restb1)
              case hyb1 => intro W' _; go_simp <;> with_reducible rfl
              clear hG1
              simp only [Act.put]
              refine wpAnyG_take0 (i := 2) (v := ?vb2) rfl (by decide +kernel) (by decide +kernel) (by decide +kernel) (fun _ _ _ h => h) (fun l w => G3.set (by decide) (by decide) (by decide) l w) (Or.inl ⟨by rfl, ?hyb2⟩) hG2 (fun hG3 => ?restb2)
              case hyb2 => intro W' _; go_simp <;> with_reducible rfl
              clear hG2
              simp only [Act.put]
              refine wpAnyG_take (i := 3) (f := 28) (v := ?vb3) rfl (by decide +kernel) (by decide +kernel) (by decide +kernel) (by decide +kernel) rfl rfl (fun _ _ _ h => h) (fun _ _ h g => g.1 h) (fun l w => G3.set (by decide) (by decide) (by decide) l w) (Or.inl ⟨by rfl, ?hyb3⟩) hG3 (fun hG4 => ?restb3)
              case hyb3 => intro W' hS; (try dsimp only at hS); go_simp <;> with_reducible rfl
              clear hG3
              simp only [Act.put]
              refine wpAnyG_take0 (i := 4) (v := ?vb4) rfl (by decide +kernel) (by decide +kernel) (by decide +kernel) (fun _ _ _ h => h) (fun l w => G3.set (by decide) (by decide) (by decide) l w) (Or.inl ⟨by rfl, ?hyb4⟩) hG4 (fun hG5 => ?restb4)
              case hyb4 => intro W' _; go_simp <;> with_reducible rfl
              clear hG4
              simp only [Act.put]
              refine wpAnyG_take0 (i := 5) (v := ?vb5) rfl (by decide +kernel) (by decide +kernel) (by decide +kernel) (fun _ _ _ h => h) (fun l w => G3.set (by decide) (by decide) (by decide) l w) (Or.inl ⟨by rfl, ?hyb5⟩) hG5 (fun hG6 => ?restb5)
              case hyb5 => intro W' _; go_simp <;> with_reducible rfl
              clear hG5
              simp only [Act.put]
              refine wpAnyG_take (i := 6) (f := 28) (v := ?vb6) rfl (by decide +kernel) (by decide +kernel) (by decide +kernel) (by decide +kernel) rfl rfl (fun _ _ _ h => h) (fun _ _ h g => g.1 h) (fun l w => G3.set (by decide) (by decide) (by decide) l w) (Or.inl ⟨by rfl, ?hyb6⟩) hG6 (fun hG7 => ?restb6)
              case hyb6 => intro W' hS; (try dsimp only at hS); go_simp <;> with_reducible rfl
              clear hG6
              simp only [Act.put]
              refine wpAnyG_take0 (i := 7) (v := ?vb7) rfl (by decide +kernel) (by decide +kernel) (by decide +kernel) (fun _ _ _ h => h) (fun l w => G3.set (by decide) (by decide) (by decide) l w) (Or.inl ⟨by rfl, ?hyb7⟩) hG7 (fun hG8 => ?restb7)
              case hyb7 => intro W' _; go_simp <;> with_reducible rfl
              clear hG7
              simp only [Act.put]
              refine wpAnyG_take0 (i := 8) (v := ?vb8) rfl (by decide +kernel) (by decide +kernel) (by decide +kernel) (fun _ _ _ h => h) (fun l w => G3.set (by decide) (by decide) (by decide) l w) (Or.inl ⟨by rfl, ?hyb8⟩) hG8 (fun hG9 => ?restb8)
              case hyb8 => intro W' _; go_simp <;> with_reducible rfl
              clear hG8
              simp only [Act.put]
              refine wpAnyG_take0 (i := 9) (v := ?vb9) rfl (by decide +kernel) (by decide +kernel) (by decide +kernel) (fun _ _ _ h => h) (fun l w => G3.set (by decide) (by decide) (by decide) l w) (Or.inl ⟨by rfl, ?hyb9⟩) hG9 (fun hG10 => ?restb9)
              case hyb9 => intro W' _; go_simp <;> with_reducible rfl
              clear hG9
              simp only [Act.put]
              refine wpAnyG_take (i := 10) (f := 28) (v := ?vb10) rfl (by decide +kernel) (by decide +kernel) (by decide +kernel) (by decide +kernel) rfl rfl (fun _ _ _ h => h) (fun _ _ h g => g.1 h) (fun l w => G3.set (by decide) (by decide) (by decide) l w) (Or.inl ⟨by rfl, ?hyb10⟩) hG10 (fun hG11 => ?restb10)
              case hyb10 => intro W' hS; (try dsimp only at hS); go_simp <;> with_reducible rfl
              clear hG10
              simp only [Act.put]
              refine wpAnyG_take0 (i := 11) (v := ?vb11) rfl (by decide +kernel) (by decide +kernel) (by decide +kernel) (fun _ _ _ h => h) (fun l w => G3.set (by decide) (by decide) (by decide) l w) (Or.inl ⟨by rfl, ?hyb11⟩) hG11 (fun hG12 => ?restb11)
              case hyb11 => intro W' _; go_simp <;> with_reducible rfl
              clear hG11
              simp only [Act.put]
              refine wpAnyG_take0 (i := 12) (v := ?vb12) rfl (by decide +kernel) (by decide +kernel) (by decide +kernel) (fun _ _ _ h => h) (fun l w => G3.set (by decide) (by decide) (by decide) l w) (Or.inl ⟨by rfl, ?hyb12⟩) hG12 (fun hG13 => ?restb12)
              case hyb12 => intro W' _; go_simp <;> with_reducible rfl
              clear hG12
              simp only [Act.put]
              refine wpAnyG_take (i := 13) (f := 28) (v := ?vb13) rfl (by decide +kernel) (by decide +kernel) (by decide +kernel) (by decide +kernel) rfl rfl (fun _ _ _ h => h) (fun _ _ h g => g.1 h) (fun l w => G3.set (by decide) (by decide) (by decide) l w) (Or.inl ⟨by rfl, ?hyb13⟩) hG13 (fun hG14 => ?restb13)
              case hyb13 => intro W' hS; (try dsimp only at hS); go_simp <;> with_reducible rfl
              clear hG13
              simp only [Act.put]
              refine wpAnyG_take0 (i := 14) (v := ?vb14) rfl (by decide +kernel) (by decide +kernel) (by decide +kernel) (fun _ _ _ h => h) (fun l w => G3.set (by decide) (by decide) (by decide) l w) (Or.inl ⟨by rfl, ?hyb14⟩) hG14 (fun hG15 => ?restb14)
              case hyb14 => intro W' _; go_simp <;> with_reducible rfl
              clear hG14
              simp only [Act.put]
              refine wpAnyG_take0 (i := 15) (v := ?vb15) rfl (by decide +kernel) (by decide +kernel) (by decide +kernel) (fun _ _ _ h => h) (fun l w => G3.set (by decide) (by decide) (by decide) l w) (Or.inl ⟨by rfl, ?hyb15⟩) hG15 (fun hG16 => ?restb15)
              case hyb15 => intro W' _; go_simp <;> with_reducible rfl
              clear hG15
              simp only [Act.put]
              refine wpAnyG_take (i := 16) (f := 28) (v := ?vb16) rfl (by decide +kernel) (by decide +kernel) (by decide +kernel) (by decide +kernel) rfl rfl (fun _ _ _ h => h) (fun _ _ h g => g.1 h) (fun l w => G3.set (by decide) (by decide) (by decide) l w) (Or.inl ⟨by rfl, ?hyb16⟩) hG16 (fun hG17 => ?restb16)
              case hyb16 => intro W' hS; (try dsimp only at hS); go_simp <;> with_reducible rfl
              clear hG16
              simp only [Act.put]
              refine wpAnyG_take0 (i := 17) (v := ?vb17) rfl (by decide +kernel) (by decide +kernel) (by decide +kernel) (fun _ _ _ h => h) (fun l w => G3.set (by decide) (by decide) (by decide) l w) (Or.inl ⟨by rfl, ?hyb17⟩) hG17 (fun hG18 => ?restb17)
              case hyb17 => intro W' _; go_simp <;> with_reducible rfl
              clear hG17
              simp only [Act.put]
              refine wpAnyG_take0 (i := 18) (v := ?vb18) rfl (by decide +kernel) (by decide +kernel) (by decide +kernel) (fun _ _ _ h => h) (fun l w => G3.set (by decide) (by decide) (by decide) l w) (Or.inl ⟨by rfl, ?hyb18⟩) hG18 (fun hG19 => ?restb18)
              case hyb18 => intro W' _; go_simp <;> with_reducible rfl
              clear hG18
              simp only [Act.put]
              refine wpAnyG_take0 (i := 19) (v := ?vb19) rfl (by decide +kernel) (by decide +kernel) (by decide +kernel) (fun _ _ _ h => h) (fun l w => G3.set (by decide) (by decide) (by decide) l w) (Or.inl ⟨by rfl, ?hyb19⟩) hG19 (fun hG20 => ?restb19)
              case hyb19 => intro W' _; go_simp <;> with_reducible rfl
              clear hG19
              simp only [Act.put]
              refine wpAnyG_take (i := 20) (f := 28) (v := ?vb20) rfl (by decide +kernel) (by decide +kernel) (by decide +kernel) (by decide +kernel) rfl rfl (fun _ _ _ h => h) (fun _ _ h g => g.1 h) (fun l w => G3.set (by decide) (by decide) (by decide) l w) (Or.inl ⟨by rfl, ?hyb20⟩) hG20 (fun hG21 => ?restb20)
              case hyb20 => intro W' hS; (try dsimp only at hS); go_simp <;> with_reducible rfl
              clear hG20
              simp only [Act.put]
              refine wpAnyG_take0 (i := 21) (v := ?vb21) rfl (by decide +kernel) (by decide +kernel) (by decide +kernel) (fun _ _ _ h => h) (fun l w => G3.set (by decide) (by decide) (by decide) l w) (Or.inl ⟨by rfl, ?hyb21⟩) hG21 (fun hG22 => ?restb21)
              case hyb21 => intro W' _; go_simp <;> with_reducible rfl
              clear hG21
              simp only [Act.put]
              refine wpAnyG_take0 (i := 22) (v := ?vb22) rfl (by decide +kernel) (by decide +kernel) (by decide +kernel) (fun _ _ _ h => h) (fun l w => G3.set (by decide) (by decide) (by decide) l w) (Or.inl ⟨by rfl, ?hyb22⟩) hG22 (fun hG23 => ?restb22)
              case hyb22 => intro W' _; go_simp <;> with_reducible rfl
              clear hG22
              simp only [Act.put]
              refine wpAnyG_take (i := 23) (f := 28) (v := ?vb23) rfl (by decide +kernel) (by decide +kernel) (by decide +kernel) (by decide +kernel) rfl rfl (fun _ _ _ h => h) (fun _ _ h g => g.1 h) (fun l w => G3.set (by decide) (by decide) (by decide) l w) (Or.inl ⟨by rfl, ?hyb23⟩) hG23 (fun hG24 => ?restb23)
              case hyb23 => intro W' hS; (try dsimp only at hS); go_simp <;> with_reducible rfl
              clear hG23
              simp only [Act.put]
              clear hG24
              refine wpAnyG_one (i := 24) (by decide +kernel) rfl (fun K' hK => ?_)
              go_simp
              refine hK.out _ _ ⟨fun _ => HA1.out, fun _ => trivial, fun _ => trivial⟩ (fun hG9 => ?_); clear hK K' hG9
              refine wpAnyG_one (i := 25) (by decide +kernel) rfl (fun K' hK => ?_)
              refine step_append_kn _ rfl (.tmp 102) (.tmp 110) rfl kb w.heap.size (.slice ka done.length kc) done rfl HO1.out (some ⟨wa.heap.size, 0, none⟩) 1 1 [k] rfl rfl HR1.out (by have := HDl.out; simp; omega) HBs.out ?_
              intro a2 c2 w2 hown2 hg2 hat2
              obtain ⟨hc2, hf7, hrel⟩ := HN.out w2 a2 c2 hg2 hown2 hat2
              have HRel := Lib.hid hrel
              clear hown2 hg2 hat2 hrel HN
              refine hK.out _ _ ⟨fun _ => hc2, fun _ => trivial, fun _ => trivial⟩ (fun hG9 => ?_); clear hK K' hG9
              refine wpAnyG_one (i := 26) (by decide +kernel) rfl (fun K' hK => ?_)
              go_simp
              refine hK.out _ _ ⟨fun _ => hc2, fun _ => trivial, fun _ => trivial⟩ (fun hG9 => ?_); clear hK K' hG9
              refine wpAnyG_one (i := 27) (by decide +kernel) rfl (fun K' hK => ?_)
              go_simp
              refine hK.out _ _ ⟨fun _ => hc2, fun _ => trivial, fun _ => trivial⟩ (fun hG9 => ?_); clear hK K' hG9
              refine wpAnyG_one (i := 28) (by decide +kernel) rfl (fun K' hK => ?_)
              obtain ⟨z0, z1, z2, z3⟩ := hc2
              go_simp
              refine hK.out _ _ ⟨fun h => absurd h (by decide), fun h => absurd h (by decide), fun h => absurd h (by decide)⟩ (fun hG9 => ?_); clear hK K' hG9
              refine wpAnyG_done (by decide +kernel) ?_ _
              have eL : (done ++ [k]).length = done.length + 1 := by simp
              have hgk := HGb.out _ _ HRel.out
              rw [eL] at hgk
              clear eL
              go_wp2_with fail
              go_roundw
              case rel => exact ⟨k + sz t k, done ++ [k], _, by omega, by omega, by go_num, HKid.out, by have := HRel.out; simpa using this⟩
              case measure => simp [intOf]; omega
            · have hke : k = i + sz t i := by omega
              subst hke
              have hd : done = kidsL t i := by
                have := hdone.out
                rw [Nat.sub_self] at this
                simpa [kidsFrom] using this
              subst hd
              rw [foA_next HR.out hlt] at hG
              have HG := Lib.hid hG
              clear hG hdone
              go_wp2_with fail
              go_roundw
              case rel => exact ⟨i + 1, kv, by omega, by go_num, HG.out⟩
              case measure => simp [intOf]; omega
        · have e : i = t.length := by omega
          subst e
          have hG := HG.out
          rw [foA_end HR.out] at hG
          have HG2 := Lib.hid hG
          clear hG HG
          go_wp2_with fail
          go_ret
          exact ⟨rfl, kb, g, fc, HG2.out.kno.kno, HG2.out.fst, HG2.out.row, HG2.out.below⟩
end Go.Proofs.Ytmhhfljbocbolaa


namespace Go.Proofs.Ytmhhfljbocbolaa
open Go.RowKit
set_option linter.unusedVariables false

def cells5 (x : Nd) : List Value := [.int .i64 x.kind, .string x.tag, .string x.text, .slice x.aa x.attrs.length x.ac, .int .i64 x.size]
def flat5 (l : List Nd) : List Value := l.flatMap cells5
theorem flat5_append (l m : List Nd) : flat5 (l ++ m) = flat5 l ++ flat5 m := by simp [flat5]
theorem flat5_len (l : List Nd) : (flat5 l).length = l.length * 5 := by
  induction l with
  | nil => rfl
  | cons x l ih => show (cells5 x ++ flat5 l).length = _; rw [List.length_append, ih]; simp [cells5]; omega
theorem one_flat5 (l : List Nd) : ∀ u ∈ flat5 l, u.oneCell' = true := by
  intro u hu
  obtain ⟨x, _, hx⟩ := List.mem_flatMap.1 hu
  simp [cells5] at hx
  rcases hx with rfl | rfl | rfl | rfl | rfl <;> rfl

theorem Try.infoNd : (Try.prog.info? 47).map (fun i => (i.zero, i.size, i.bytes)) = some (some (.agg #[.int .i64 0, .string ⟨#[]⟩, .string ⟨#[]⟩, .slice none 0 0, .int .i64 0]), 5, 72) := by kernel_rfl

/-- A node as data in memory, five cells from an address on. -/
def At5 (w : World) (B : Nat) (A : Option Addr) (m : Nat) (ys : List Nd) : Prop := Reads w B 5 A m (flat5 ys)

theorem wp_append_nd {w : World} {o : Oper} {a : Act} {K : Act → World → Prop} {Q : Exit → Act → World → Prop} (s x : Operand)
    (ho : o.op = .call { callee := .builtin .append, args := #[s, x], argTypes := #[22, 22] })
    (base : Nat) (v : Value) (xs : List Nd) (hs : a.eval s = v) (hown : w.ownsRow base 47 5 v xs.length (flat5 xs))
    (A : Option Addr) (m c : Nat) (ys : List Nd) (hm : m = ys.length) (hx : a.eval x = .slice A m c) (hr : Reads w w.heap.size 5 A m (flat5 ys)) (hlen : xs.length + ys.length ≤ 1000000) (hbase : base ≤ w.heap.size)
    (h : ∀ a' c' w', w'.ownsRow base 47 5 (.slice a' (xs ++ ys).length c') (xs ++ ys).length (flat5 (xs ++ ys)) → w.grownBy w' v.ownBlock → ((Value.slice a' (xs ++ ys).length c').ownBlock = v.ownBlock ∨ (Value.slice a' (xs ++ ys).length c').ownBlock = some w.heap.size) → K (a.put o.dst (.slice a' (xs ++ ys).length c')) w') :
    Oper.wp Try.prog o a w K Q := by
  subst hm
  obtain ⟨i0, hinf, hz0, hz1, hz2⟩ := info_parts Try.infoNd
  refine wp_append_any w s x 22 ho base 47 i0 (.agg #[.int .i64 0, .string ⟨#[]⟩, .string ⟨#[]⟩, .slice none 0 0, .int .i64 0]) 5 72 Try.underlying22 hinf hz0 hz1 hz2 rfl (by decide) v xs.length (flat5 xs) hs hown w.heap.size A ys.length c (flat5 ys) hx hr (one_flat5 ys) (by unfold maxLen; omega) (by omega) hbase ?_
  intro v' w' h2 h3 h4
  obtain ⟨a', c', rfl⟩ := own_slice h2
  have e : (xs ++ ys).length = xs.length + ys.length := List.length_append
  rw [← flat5_append] at h2
  rw [← e] at h2 h4 ⊢
  exact h a' c' w' h2 h3 h4

theorem wpList_append_nd {w : World} {ops : Array Oper} {rest : List Oper} {o : Oper} {a : Act} {Q : Exit → Act → World → Prop} (hgd : o.guard = none) (s x : Operand)
    (ho : o.op = .call { callee := .builtin .append, args := #[s, x], argTypes := #[22, 22] })
    (base : Nat) (v : Value) (xs : List Nd) (hs : a.eval s = v) (hown : w.ownsRow base 47 5 v xs.length (flat5 xs))
    (A : Option Addr) (m c : Nat) (ys : List Nd) (hm : m = ys.length) (hx : a.eval x = .slice A m c) (hr : Reads w w.heap.size 5 A m (flat5 ys)) (hlen : xs.length + ys.length ≤ 1000000) (hbase : base ≤ w.heap.size)
    (h : ∀ a' c' w', w'.ownsRow base 47 5 (.slice a' (xs ++ ys).length c') (xs ++ ys).length (flat5 (xs ++ ys)) → w.grownBy w' v.ownBlock → ((Value.slice a' (xs ++ ys).length c').ownBlock = v.ownBlock ∨ (Value.slice a' (xs ++ ys).length c').ownBlock = some w.heap.size) → wpList Try.prog ops Q rest (a.put o.dst (.slice a' (xs ++ ys).length c')) w') :
    wpList Try.prog ops Q (o :: rest) a w :=
  wpList_plain hgd fun _ hK => wp_append_nd s x ho base v xs hs hown A m c ys hm hx hr hlen hbase fun a' c' w' h2 h3 h4 => hK _ _ (h a' c' w' h2 h3 h4)

/-- A store of the size of one entry. -/
theorem flat5_set (ds : List Nd) (x : Nd) (es : List Nd) (s : Int) : (flat5 (ds ++ x :: es)).set (ds.length * 5 + 4) (.int .i64 s) = flat5 (ds ++ { x with size := s } :: es) := by
  rw [flat5_append, flat5_append]
  have e1 : flat5 (x :: es) = cells5 x ++ flat5 es := rfl
  have e2 : flat5 ({ x with size := s } :: es) = cells5 { x with size := s } ++ flat5 es := rfl
  rw [e1, e2, List.set_append_right _ _ (by rw [flat5_len]; omega), flat5_len]
  have e3 : ds.length * 5 + 4 - ds.length * 5 = 4 := by omega
  rw [e3]
  rfl

/-- A store into one's own row, in place. -/
theorem own_set {w : World} {B g e size n c : Nat} {xs : List Value} (h : w.ownsRow B e size (.slice (some ⟨g, 0, none⟩) n c) n xs) (j : Nat) (hj : j < xs.length) (u : Value) :
    (w.setCell ⟨g, j, none⟩ u).ownsRow B e size (.slice (some ⟨g, 0, none⟩) n c) n (xs.set j u) := by
  refine ⟨by rw [List.length_set]; exact h.1, ?_⟩
  rcases h.2 with ⟨e0, _⟩ | ⟨g', cap, cur, e0, hg, hh, hn, hc, hs, ht⟩
  · cases e0
  · cases e0
    refine .inr ⟨g, c, cur.setIfInBounds j u, rfl, hg, heap_setCell_same w g j _ _ u hh, hn, hc, by simpa using hs, ?_⟩
    have hlen := h.1
    rw [Array.toList_setIfInBounds, List.take_set, ht]

theorem own_some {w : World} {B e size n : Nat} {v : Value} {xs : List Value} (h : w.ownsRow B e size v n xs) (hn : 0 < n) : ∃ g c, v = .slice (some ⟨g, 0, none⟩) n c := by
  rcases h.2 with ⟨_, e0⟩ | ⟨g, cap, _, e0, _⟩
  · omega
  · exact ⟨g, cap, e0⟩
theorem own_type {w : World} {B e size n g c : Nat} {xs : List Value} (h : w.ownsRow B e size (.slice (some ⟨g, 0, none⟩) n c) n xs) : ∃ cur, w.heap[g]? = some (.cells cur e (0, 0)) := by
  rcases h.2 with ⟨e0, _⟩ | ⟨g', cap, cur, e0, _, hh, _⟩
  · cases e0
  · cases e0; exact ⟨cur, hh⟩
end Go.Proofs.Ytmhhfljbocbolaa

namespace Go.Proofs.Ytmhhfljbocbolaa
open Go.RowKit
set_option linter.unusedVariables false

/-- The knots, their attributes' rows by name. -/
structure KnoD (F : Fo) (S : Nat → Prop) (kd : Nat → Nd) (pl : Nat → Int) (B : Nat) (kb : Nat → Nat) (w : World) : Prop where
  node : ∀ i, S i → B ≤ kb i ∧ ∃ ka kc, w.heap[kb i]? = some (.cells (knCells kb (F.par i) (kd i) (pl i) (kd i).aa (kd i).ac (F.kids i).length ka kc) 107 (0, 0)) ∧
    w.ownsRow B 96 2 (.slice (kd i).aa (kd i).attrs.length (kd i).ac) (kd i).attrs.length (flat2 (kd i).attrs) ∧
    w.ownsRow B 77 1 (.slice ka (F.kids i).length kc) (F.kids i).length (ptrs kb (F.kids i))

open Classical in
theorem Kno.data {F : Fo} {S : Nat → Prop} {nd : Nat → Nd} {pl : Nat → Int} {B : Nat} {kb : Nat → Nat} {w : World} (h : Kno F S nd pl B kb w) : ∃ kd : Nat → Nd, KnoD F S kd pl B kb w ∧ ∀ i, S i → ∃ aa ac, kd i = { nd i with aa := aa, ac := ac } := by
  have key : ∀ i, ∃ p : Option Addr × Nat, S i → B ≤ kb i ∧ ∃ ka kc, w.heap[kb i]? = some (.cells (knCells kb (F.par i) (nd i) (pl i) p.1 p.2 (F.kids i).length ka kc) 107 (0, 0)) ∧
    w.ownsRow B 96 2 (.slice p.1 (nd i).attrs.length p.2) (nd i).attrs.length (flat2 (nd i).attrs) ∧
    w.ownsRow B 77 1 (.slice ka (F.kids i).length kc) (F.kids i).length (ptrs kb (F.kids i)) := by
    intro i
    by_cases hi : S i
    · obtain ⟨hB, aa, ac, ka, kc, h1, h2, h3⟩ := h.node i hi
      exact ⟨(aa, ac), fun _ => ⟨hB, ka, kc, h1, h2, h3⟩⟩
    · exact ⟨(none, 0), fun h => absurd h hi⟩
  refine ⟨fun i => { nd i with aa := (Classical.choose (key i)).1, ac := (Classical.choose (key i)).2 }, ⟨fun i hi => Classical.choose_spec (key i) hi⟩, fun i hi => ⟨_, _, rfl⟩⟩

/-- Nothing that lies there has turned but a row and a list of places. -/
structure LTurn (r : Option Nat) (gat : Nat) (w w' : World) : Prop where
  os : w'.os = w.os
  tape : w'.tape = w.tape
  output : w'.output = w.output
  size : w.heap.size ≤ w'.heap.size
  block : ∀ b, b < w.heap.size → some b ≠ r → b ≠ gat → w'.heap[b]? = w.heap[b]?
theorem LTurn.refl (r : Option Nat) (gat : Nat) (w : World) : LTurn r gat w w := ⟨rfl, rfl, rfl, Nat.le_refl _, fun _ _ _ _ => rfl⟩
theorem LTurn.trans {r r' : Option Nat} {gat : Nat} {a b c : World} (h : LTurn r gat a b) (k : LTurn r' gat b c) (hr : r' = r ∨ ∃ x, r' = some x ∧ a.heap.size ≤ x) : LTurn r gat a c :=
  ⟨k.os.trans h.os, k.tape.trans h.tape, k.output.trans h.output, Nat.le_trans h.size k.size, fun q h1 h2 h3 => (k.block q (Nat.lt_of_lt_of_le h1 h.size) (by
    rcases hr with e | ⟨x, e, hx⟩
    · rw [e]; exact h2
    · rw [e]; intro e2; cases e2; omega) h3).trans (h.block q h1 h2 h3)⟩
theorem LTurn.of_below {r : Option Nat} {gat : Nat} {a b : World} (h : Below a.heap.size a b) : LTurn r gat a b := ⟨h.os, h.tape, h.output, h.size, fun q h1 _ _ => h.block q h1⟩
theorem LTurn.of_grown {r : Option Nat} {gat : Nat} {a b : World} (h : a.grownBy b r) : LTurn r gat a b := ⟨h.os, h.tape, h.output, h.size, fun q h1 h2 _ => h.block q h1 h2⟩
theorem LTurn.set {r : Option Nat} {gat : Nat} {a b : World} (h : LTurn r gat a b) {p : Addr} (hp : p.block = gat ∨ r = some p.block ∨ a.heap.size ≤ p.block) (u : Value) : LTurn r gat a (b.setCell p u) :=
  ⟨h.os, h.tape, h.output, by simpa [World.setCell] using h.size, fun q h1 h2 h3 => (Below.heap_setCell _ _ _ _ (by
    rcases hp with e | e | e
    · rw [e]; exact h3
    · intro e2; exact h2 (by rw [e, e2])
    · intro e2; omega)).trans (h.block q h1 h2 h3)⟩

theorem own_lturn {r : Option Nat} {gat : Nat} {w w' : World} (hl : LTurn r gat w w') {B e size n : Nat} {v : Value} {xs : List Value} (ho : w.ownsRow B e size v n xs) (h1 : v.ownBlock = none ∨ v.ownBlock ≠ r) (h2 : v.ownBlock ≠ some gat) : w'.ownsRow B e size v n xs := by
  refine ⟨ho.1, ?_⟩
  rcases ho.2 with h3 | ⟨g, cap, cur, hv, hg, hh, r3⟩
  · exact .inl h3
  · refine .inr ⟨g, cap, cur, hv, hg, ?_, r3⟩
    have e : v.ownBlock = some g := by rw [hv]; rfl
    rw [hl.block g (Array.getElem?_eq_some_iff.1 hh).1 (fun e2 => by
      rcases h1 with h1 | h1
      · rw [e] at h1; cases h1
      · exact h1 (e.trans e2)) (fun e2 => h2 (by rw [e, e2]))]
    exact hh

/-- Two blocks of different types are two. -/
theorem types_ne {w : World} {a b : Nat} {c1 c2 : Array Value} {t1 t2 : TypeId} (h1 : w.heap[a]? = some (.cells c1 t1 (0, 0))) (h2 : w.heap[b]? = some (.cells c2 t2 (0, 0))) (hne : t1 ≠ t2) : a ≠ b := fun e => by
  rw [e, h2] at h1
  injection h1 with h1
  injection h1 with _ h1
  exact hne h1.symm

theorem KnoD.lturn {F : Fo} {S : Nat → Prop} {kd : Nat → Nd} {pl : Nat → Int} {B : Nat} {kb : Nat → Nat} {w w' : World} (h : KnoD F S kd pl B kb w) {v : Value} {gat n : Nat} {xs : List Value} {cur : Array Value} (hl : LTurn v.ownBlock gat w w') (hv : w.ownsRow B 47 5 v n xs) (hat : w.heap[gat]? = some (.cells cur 3 (0, 0))) : KnoD F S kd pl B kb w' := by
  refine ⟨fun i hi => ?_⟩
  obtain ⟨hB, ka, kc, hh, h1, h2⟩ := h.node i hi
  have tne : ∀ {e size n2 : Nat} {v2 : Value} {ys : List Value}, w.ownsRow B e size v2 n2 ys → 47 ≠ e → v2.ownBlock = none ∨ v2.ownBlock ≠ v.ownBlock := by
    intro e size n2 v2 ys ho hne
    cases hb : v2.ownBlock with
    | none => exact .inl rfl
    | some b =>
      refine .inr fun e2 => ?_
      rcases ho.2 with ⟨e3, _⟩ | ⟨g, _, cu, e3, _, e5, _⟩
      · rw [e3] at hb; simp [Value.ownBlock] at hb
      · rw [e3] at hb
        simp [Value.ownBlock] at hb
        subst hb
        exact own_ne hv e5 hne e2.symm
  refine ⟨hB, ka, kc, ?_, own_lturn hl h1 (tne h1 (by decide)) (own_ne h1 hat (by decide)), own_lturn hl h2 (tne h2 (by decide)) (own_ne h2 hat (by decide))⟩
  rw [hl.block _ (Array.getElem?_eq_some_iff.1 hh).1 (fun e => own_ne hv hh (by decide) e.symm) (types_ne hh hat (by decide))]
  exact hh

def entOf (F : Fo) (h : Nat → Nat) (kd : Nat → Nd) (y : Nat) : Nd := { kd y with size := ((F.all h y).length : Int) }
def AtRow (gat n : Nat) (P : Nat → Int) (w : World) : Prop := ∃ cur, w.heap[gat]? = some (.cells cur 3 (0, 0)) ∧ cur.size = n ∧ ∀ j, j < n → cur[j]? = some (.int .i64 (P j))
def atF (L : List Nat) (d : Nat) (P : Nat → Int) (j : Nat) : Int := if j ∈ L then ((d + L.idxOf j : Nat) : Int) else P j

theorem atF_append {L1 L2 : List Nat} {d : Nat} {P : Nat → Int} (hd : ∀ j ∈ L2, j ∉ L1) : atF L2 (d + L1.length) (atF L1 d P) = atF (L1 ++ L2) d P := by
  funext j
  unfold atF
  by_cases h2 : j ∈ L2
  · rw [if_pos h2, if_pos (List.mem_append.2 (.inr h2)), List.idxOf_append, if_neg (hd j h2)]
    congr 1; omega
  · rw [if_neg h2]
    by_cases h1 : j ∈ L1
    · rw [if_pos h1, if_pos (List.mem_append.2 (.inl h1)), List.idxOf_append, if_pos h1]
    · rw [if_neg h1, if_neg (fun h => (List.mem_append.1 h).elim h1 h2)]

theorem AtRow.set {gat n : Nat} {P : Nat → Int} {w : World} (h : AtRow gat n P w) {x : Nat} (d : Nat) : AtRow gat n (atF [x] d P) (w.setCell ⟨gat, x, none⟩ (.int .i64 (d : Int))) := by
  obtain ⟨cur, h1, h2, h3⟩ := h
  refine ⟨cur.setIfInBounds x (.int .i64 (d : Int)), heap_setCell_same w gat x _ _ _ h1, by simpa using h2, fun j hj => ?_⟩
  unfold atF
  by_cases e : j = x
  · subst e
    rw [if_pos (by simp)]
    simp [show j < cur.size by omega]
  · rw [if_neg (by simpa using e), Array.getElem?_setIfInBounds_ne (Ne.symm e)]
    exact h3 j hj
theorem AtRow.skip {gat n : Nat} {P : Nat → Int} {w : World} (h : AtRow gat n P w) {x : Nat} (hx : n ≤ x) (d : Nat) : AtRow gat n (atF [x] d P) w := by
  obtain ⟨cur, h1, h2, h3⟩ := h
  refine ⟨cur, h1, h2, fun j hj => ?_⟩
  unfold atF
  rw [if_neg (by simp; omega)]
  exact h3 j hj
theorem AtRow.lturn {gat n : Nat} {P : Nat → Int} {w w' : World} (h : AtRow gat n P w) (hb : w'.heap[gat]? = w.heap[gat]?) : AtRow gat n P w' := by
  obtain ⟨cur, h1, h2, h3⟩ := h
  exact ⟨cur, hb.trans h1, h2, h3⟩

def ListedPost (F : Fo) (h : Nat → Nat) (kd : Nat → Nd) (n B gat : Nat) (x : Nat) (ds : List Nd) (P : Nat → Int) (v : Value) (w : World) (e : Ending) (w' : World) : Prop :=
  ∃ a' c', e = .returned (.slice a' (ds ++ (F.all h x).map (entOf F h kd)).length c') ∧ w'.ownsRow B 47 5 (.slice a' (ds ++ (F.all h x).map (entOf F h kd)).length c') (ds ++ (F.all h x).map (entOf F h kd)).length (flat5 (ds ++ (F.all h x).map (entOf F h kd))) ∧
    ((Value.slice a' (ds ++ (F.all h x).map (entOf F h kd)).length c').ownBlock = v.ownBlock ∨ ∃ b, (Value.slice a' (ds ++ (F.all h x).map (entOf F h kd)).length c').ownBlock = some b ∧ w.heap.size ≤ b) ∧ AtRow gat n (atF (F.all h x) ds.length P) w' ∧ LTurn v.ownBlock gat w w'

def soFar (F : Fo) (h : Nat → Nat) (x j : Nat) : List Nat := ((F.kids x).take j).flatMap (F.all h)
def ListedRel (F : Fo) (h : Nat → Nat) (kd : Nat → Nd) (n B gat : Nat) (x : Nat) (ds : List Nd) (P : Nat → Int) (v : Value) (w : World) (o1 xv : Value) (wr : World) : Prop :=
  ∃ j a c m, j ≤ (F.kids x).length ∧ xv = .int .i64 (j : Nat) ∧ o1 = .slice a m c ∧ m = (ds ++ kd x :: (soFar F h x j).map (entOf F h kd)).length ∧ wr.ownsRow B 47 5 (.slice a m c) m (flat5 (ds ++ kd x :: (soFar F h x j).map (entOf F h kd))) ∧
    ((Value.slice a m c).ownBlock = v.ownBlock ∨ ∃ b, (Value.slice a m c).ownBlock = some b ∧ w.heap.size ≤ b) ∧ AtRow gat n (atF (x :: soFar F h x j) ds.length P) wr ∧ LTurn v.ownBlock gat w wr

theorem soFar_len {F : Fo} {S : Nat → Prop} {h : Nat → Nat} (o : F.Ok S h) (x j : Nat) : (soFar F h x j).length + 1 ≤ (F.all h x).length := by
  rw [F.all_eq o x]
  have : (soFar F h x j).length ≤ ((F.kids x).flatMap (F.all h)).length := by
    unfold soFar
    conv => rhs; rw [← List.take_append_drop j (F.kids x), List.flatMap_append, List.length_append]
    omega
  rw [List.length_cons]; omega
theorem soFar_succ (F : Fo) (h : Nat → Nat) (x j : Nat) (hj : j < (F.kids x).length) : soFar F h x (j + 1) = soFar F h x j ++ F.all h (F.kids x)[j] := by
  unfold soFar
  rw [List.take_succ_eq_append_getElem hj, List.flatMap_append]
  simp
theorem soFar_end {F : Fo} {S : Nat → Prop} {h : Nat → Nat} (o : F.Ok S h) (x : Nat) : x :: soFar F h x (F.kids x).length = F.all h x := by
  unfold soFar
  rw [List.take_length, ← F.all_eq o x]
theorem soFar_apart {F : Fo} {S : Nat → Prop} {h : Nat → Nat} (o : F.Ok S h) (x j : Nat) (hj : j < (F.kids x).length) : ∀ y ∈ F.all h (F.kids x)[j], y ∉ x :: soFar F h x j := by
  have hn := F.all_nodup o _ x (Nat.le_refl _)
  rw [F.all_eq o x] at hn
  have e : (F.kids x).flatMap (F.all h) = soFar F h x j ++ (F.all h (F.kids x)[j] ++ ((F.kids x).drop (j + 1)).flatMap (F.all h)) := by
    unfold soFar
    conv => lhs; rw [← List.take_append_drop j (F.kids x), List.drop_eq_getElem_cons hj, List.flatMap_append, List.flatMap_cons]
  rw [e, List.nodup_cons, List.nodup_append] at hn
  intro y hy hm
  rcases List.mem_cons.1 hm with rfl | hm
  · exact hn.1 (List.mem_append.2 (.inr (List.mem_append.2 (.inl hy))))
  · exact hn.2.2.2 y hm y (List.mem_append.2 (.inl hy)) rfl
end Go.Proofs.Ytmhhfljbocbolaa

namespace Go.Proofs.Ytmhhfljbocbolaa
open Go.RowKit
set_option linter.unusedVariables false

theorem kd_reads (w : World) (T : TypeId) (x : Nd) (B : Nat) (hB : w.heap.size < B) : Reads (w.alloc (.cells #[.int .i64 x.kind, .string x.tag, .string x.text, .slice x.aa x.attrs.length x.ac, .int .i64 x.size] T)) B 5 (some ⟨w.heap.size, 0, none⟩) 1 (flat5 [x]) := by
  refine ⟨rfl, fun _ => ⟨_, rfl, hB, fun j u hu => ?_⟩⟩
  rw [Addr.add_lit, World.cell?_alloc_mark]
  have e : flat5 [x] = [.int .i64 x.kind, .string x.tag, .string x.text, .slice x.aa x.attrs.length x.ac, .int .i64 x.size] := rfl
  rw [e] at hu
  rw [Nat.zero_add]
  simpa using hu

theorem kids_len {F : Fo} {S : Nat → Prop} {h : Nat → Nat} (o : F.Ok S h) (x : Nat) : (F.kids x).length + 1 ≤ (F.all h x).length := by
  rw [F.all_eq o x, List.length_cons]
  have : ∀ l : List Nat, l.length ≤ (l.flatMap (F.all h)).length := by
    intro l
    induction l with
    | nil => exact Nat.le_refl _
    | cons y l ih =>
      rw [List.flatMap_cons, List.length_append, F.all_eq o y, List.length_cons, List.length_cons]
      omega
  have := this (F.kids x)
  omega

/-- What the round's beginning makes of memory. -/
theorem listed_start {F : Fo} {h : Nat → Nat} {kd : Nat → Nd} {n B gat x : Nat} {ds : List Nd} {P : Nat → Int} {av : Option Addr} {cv : Nat} {w w1 : World} (hl : LTurn (Value.slice av ds.length cv).ownBlock gat w w1) (hs : w1.heap.size = w.heap.size) (hBw : B ≤ w.heap.size)
    (hA : AtRow gat n (atF [x] ds.length P) w1) (hv : w1.ownsRow B 47 5 (.slice av ds.length cv) ds.length (flat5 ds)) (a2 : Option Addr) (c2 : Nat) (w2 : World) (cs : Array Value)
    (ho : w2.ownsRow B 47 5 (.slice a2 (ds ++ [kd x]).length c2) (ds ++ [kd x]).length (flat5 (ds ++ [kd x])))
    (hg : ((w1.alloc (.cells cs 47)).alloc (.cells cs 47)).grownBy w2 (Value.slice av ds.length cv).ownBlock)
    (hat : (Value.slice a2 (ds ++ [kd x]).length c2).ownBlock = (Value.slice av ds.length cv).ownBlock ∨ (Value.slice a2 (ds ++ [kd x]).length c2).ownBlock = some ((w1.alloc (.cells cs 47)).alloc (.cells cs 47)).heap.size) :
    ListedRel F h kd n B gat x ds P (.slice av ds.length cv) w (.slice a2 (ds.length + 1) c2) (.int .i64 (0 : Int)) w2 := by
  have eL : (ds ++ [kd x]).length = ds.length + 1 := by simp
  rw [eL] at ho hat
  have hbal : Below w1.heap.size w1 ((w1.alloc (.cells cs 47)).alloc (.cells cs 47)) := ((Below.refl _ _).alloc (Nat.le_refl _) _).alloc (by rw [World.size_alloc]; omega) _
  have hA0 := hA
  obtain ⟨cur, hc1, _⟩ := hA0
  have hgl : gat < w1.heap.size := (Array.getElem?_eq_some_iff.1 hc1).1
  have hl2 : LTurn (Value.slice av ds.length cv).ownBlock gat w w2 := (hl.trans (LTurn.of_below hbal) (.inl rfl)).trans (LTurn.of_grown hg) (.inl rfl)
  refine ⟨0, a2, c2, ds.length + 1, by omega, rfl, rfl, by simp [soFar], ?_, ?_, ?_, hl2⟩
  · have e : (ds ++ kd x :: (soFar F h x 0).map (entOf F h kd)) = ds ++ [kd x] := by simp [soFar]
    rw [e]; exact ho
  · rcases hat with e | e
    · exact .inl e
    · exact .inr ⟨_, e, by rw [World.size_alloc, World.size_alloc]; omega⟩
  · have e : x :: soFar F h x 0 = [x] := by simp [soFar]
    rw [e]
    refine hA.lturn ?_
    rw [hg.block gat (by rw [World.size_alloc, World.size_alloc]; omega) (fun e => own_ne hv hc1 (by decide) e.symm), hbal.block gat hgl]

set_option maxRecDepth 100000 in
set_option maxHeartbeats 8000000 in
theorem listed_step {F : Fo} {S : Nat → Prop} {h : Nat → Nat} (o : F.Ok S h) {kd : Nat → Nd} {pl : Nat → Int} {B : Nat} {kb : Nat → Nat} (n gat : Nat) (hpl : ∀ i, S i → pl i = if i < n then (i : Int) else -1) (hn : n ≤ 100000) (d : Nat)
    (ih : ∀ (x : Nat) (v : Value) (ds : List Nd) (P : Nat → Int) (w : World), h x < d → S x →
    KnoD F S kd pl B kb w → B ≤ w.heap.size → w.ownsRow B 47 5 v ds.length (flat5 ds) → AtRow gat n P w → ds.length + (F.all h x).length ≤ 100000 → (∃ a c, v = .slice a ds.length c) →
    Calls Try.prog 49 #[.pointer (some ⟨kb x, 0, none⟩), v, .slice (some ⟨gat, 0, none⟩) n n] w (ListedPost F h kd n B gat x ds P v w)) :
    ∀ (x : Nat) (v : Value) (ds : List Nd) (P : Nat → Int) (w : World), h x < d + 1 → S x →
    KnoD F S kd pl B kb w → B ≤ w.heap.size → w.ownsRow B 47 5 v ds.length (flat5 ds) → AtRow gat n P w → ds.length + (F.all h x).length ≤ 100000 → (∃ a c, v = .slice a ds.length c) →
    Calls Try.prog 49 #[.pointer (some ⟨kb x, 0, none⟩), v, .slice (some ⟨gat, 0, none⟩) n n] w (ListedPost F h kd n B gat x ds P v w) := by
  rintro x v ds P w hx hSx hK hBw hv hat hlen ⟨av, cv, rfl⟩
  obtain ⟨hB, ka, kc, hh, hattr, hkids⟩ := hK.node x hSx
  have c0 : w.cell? ⟨kb x, 0, none⟩ = some (.int .i64 (pl x)) := cell_of_row w (kb x) 0 _ _ _ hh
  have c1 : w.cell? ⟨kb x, 1, none⟩ = some (.int .i64 (kd x).kind) := cell_of_row w (kb x) 1 _ _ _ hh
  have c2 : w.cell? ⟨kb x, 2, none⟩ = some (.string (kd x).tag) := cell_of_row w (kb x) 2 _ _ _ hh
  have c3 : w.cell? ⟨kb x, 3, none⟩ = some (.string (kd x).text) := cell_of_row w (kb x) 3 _ _ _ hh
  have c4 : w.cell? ⟨kb x, 4, none⟩ = some (.slice (kd x).aa (kd x).attrs.length (kd x).ac) := cell_of_row w (kb x) 4 _ _ _ hh
  have c5 : w.cell? ⟨kb x, 5, none⟩ = some (.int .i64 (kd x).size) := cell_of_row w (kb x) 5 _ _ _ hh
  have hp := hpl x hSx
  have hat0 := hat
  obtain ⟨cur, ha1, ha2, ha3⟩ := hat0
  have hne : kb x ≠ gat := types_ne hh ha1 (by decide)
  have hgl : gat < w.heap.size := (Array.getElem?_eq_some_iff.1 ha1).1
  have hkl : kb x < w.heap.size := (Array.getElem?_eq_some_iff.1 hh).1
  have HIh := Lib.hid ih
  have HK := Lib.hid hK
  have HV := Lib.hid hv
  have HPl := Lib.hid hpl
  have HAt := Lib.hid hat
  have HO := Lib.hid o
  have HCur : Hid (w.heap[gat]? = some (.cells cur 3 (0, 0))) := ha1
  have HKid : Hid (∀ q (hq : q < (F.kids x).length), S (F.kids x)[q] ∧ h (F.kids x)[q] < h x) := fun q hq => by
    have := (o.mem x _).1 (List.getElem_mem hq)
    exact ⟨(o.dom _ _ this).2, o.ht _ _ this⟩
  have HAll : Hid (∀ q (hq : q < (F.kids x).length), (soFar F h x q).length + (F.all h (F.kids x)[q]).length + 1 ≤ (F.all h x).length) := fun q hq => by
    have := soFar_len o x (q + 1)
    rw [soFar_succ F h x q hq, List.length_append] at this
    omega
  have hds : ds.length ≤ 100000 := by omega
  have hkn : (F.kids x).length ≤ 100000 := by have := kids_len o x; omega
  have HLen := Lib.hid hlen
  by_cases hxn : x < n
  · rw [if_pos hxn] at hp
    rw [hp] at c0
    have g0 := cell_of_row w gat x _ _ _ ha1
    rw [ha3 x hxn] at g0
    have gf := frozen_of_row w gat x _ _ ha1
    have hAx := HAt.out.set (x := x) ds.length
    have hl1 : LTurn (Value.slice av ds.length cv).ownBlock gat w (w.setCell ⟨gat, x, none⟩ (.int .i64 (ds.length : Int))) := LTurn.set (p := ⟨gat, x, none⟩) (LTurn.refl (Value.slice av ds.length cv).ownBlock gat w) (.inl rfl) _
    have hv1 := own_setCell hv (p := ⟨gat, x, none⟩) (own_ne hv ha1 (by decide)) (.int .i64 (ds.length : Int))
    have HStart := Lib.hid (fun a2 c2 w2 cs ho hg hat => listed_start (F := F) (h := h) (kd := kd) hl1 (by simp [World.setCell]) hBw hAx hv1 a2 c2 w2 cs ho hg hat)
    have HV1 := Lib.hid (((hv1).alloc (.cells #[.int .i64 (kd x).kind, .string (kd x).tag, .string (kd x).text, .slice (kd x).aa (kd x).attrs.length (kd x).ac, .int .i64 (kd x).size] 47)).alloc (.cells #[.int .i64 (kd x).kind, .string (kd x).tag, .string (kd x).text, .slice (kd x).aa (kd x).attrs.length (kd x).ac, .int .i64 (kd x).size] 47))
    have HR1 : Hid (Reads (((w.setCell ⟨gat, x, none⟩ (.int .i64 (ds.length : Int))).alloc (.cells #[.int .i64 (kd x).kind, .string (kd x).tag, .string (kd x).text, .slice (kd x).aa (kd x).attrs.length (kd x).ac, .int .i64 (kd x).size] 47)).alloc (.cells #[.int .i64 (kd x).kind, .string (kd x).tag, .string (kd x).text, .slice (kd x).aa (kd x).attrs.length (kd x).ac, .int .i64 (kd x).size] 47)) (((w.setCell ⟨gat, x, none⟩ (.int .i64 (ds.length : Int))).alloc (.cells #[.int .i64 (kd x).kind, .string (kd x).tag, .string (kd x).text, .slice (kd x).aa (kd x).attrs.length (kd x).ac, .int .i64 (kd x).size] 47)).alloc (.cells #[.int .i64 (kd x).kind, .string (kd x).tag, .string (kd x).text, .slice (kd x).aa (kd x).attrs.length (kd x).ac, .int .i64 (kd x).size] 47)).heap.size 5 (some ⟨w.heap.size + 1, 0, none⟩) 1 (flat5 [kd x])) := by
      have e : ((w.setCell ⟨gat, x, none⟩ (.int .i64 (ds.length : Int))).alloc (.cells #[.int .i64 (kd x).kind, .string (kd x).tag, .string (kd x).text, .slice (kd x).aa (kd x).attrs.length (kd x).ac, .int .i64 (kd x).size] 47)).heap.size = w.heap.size + 1 := by simp [World.setCell]
      have := kd_reads ((w.setCell ⟨gat, x, none⟩ (.int .i64 (ds.length : Int))).alloc (.cells #[.int .i64 (kd x).kind, .string (kd x).tag, .string (kd x).text, .slice (kd x).aa (kd x).attrs.length (kd x).ac, .int .i64 (kd x).size] 47)) 47 (kd x) (w.heap.size + 2) (by rw [e]; omega)
      rw [e] at this
      rw [World.size_alloc, e]
      exact this
    clear hp hh hattr hkids ha1 ha3 hK hv hat hpl ih o hAx hl1 hv1 hlen
    go_enter Try.func49, Try.ntmps49
    go_wp2_with (at_builtin; refine wpList_append_nd rfl (.tmp 38) (.tmp 40) rfl B (.slice av ds.length cv) ds rfl HV1.out (some ⟨w.heap.size + 1, 0, none⟩) 1 1 [kd x] rfl rfl HR1.out (by simp; omega) (by simp [World.setCell]; omega) ?_)
    intro a9 c9 w9 hown2 hg2 hat2
    have hrel0 := HStart.out a9 c9 w9 _ (by simpa using hown2) hg2 (by simpa [World.setCell] using hat2)
    have HRel0 := Lib.hid hrel0
    clear hown2 hg2 hat2 hrel0 HStart HV1 HR1 c0 c1 c2 c3 c4 c5 g0 gf
    go_wp2_with fail
    go_loopw [1, 9] (fun o1 xv wr => ListedRel F h kd n B gat x ds P (.slice av ds.length cv) w o1 xv wr) (fun _ xv _ => (F.kids x).length - (intOf xv).toNat)
    case atStart => exact HRel0.out
    case round =>
      clear HRel0
      obtain ⟨j, a, c, m, hj, rfl, rfl, hm, hown, hat, hA, hl⟩ := hrel
      obtain ⟨E, hE⟩ : ∃ E, E = ds ++ kd x :: (soFar F h x j).map (entOf F h kd) := ⟨_, rfl⟩
      rw [← hE] at hm hown
      subst hm
      have hKr := HK.out.lturn hl HV.out HCur.out
      obtain ⟨-, ka, kc, hh, -, hkids⟩ := hKr.node x hSx
      have c7 : wr.cell? ⟨kb x, 7, none⟩ = some (.slice ka (F.kids x).length kc) := cell_of_row wr (kb x) 7 _ _ _ hh
      obtain ⟨_, _, hv0, _, hrs⟩ := RSl.own hkids
      cases hv0
      have hEl : E.length = ds.length + 1 + (soFar F h x j).length := by rw [hE]; simp; omega
      have hsf := soFar_len HO.out x j
      have HEl := Lib.hid hEl
      have HE := Lib.hid hE
      have HOwn := Lib.hid hown
      have HBl := Lib.hid hat
      have HA := Lib.hid hA
      have HL := Lib.hid hl
      have HKr := Lib.hid hKr
      have hE100 : E.length ≤ 100000 := by have := HLen.out; omega
      have hEd : ds.length < E.length := by omega
      by_cases hlt : j < (F.kids x).length
      · obtain ⟨bk, ok, rfl, hbB, hck⟩ := hrs.at_ (by rw [ptrs_length]; omega)
        have g1 := hck j (by rw [ptrs_length]; exact hlt)
        rw [ptrs_at hlt] at g1
        obtain ⟨y, hy⟩ : ∃ y, y = (F.kids x)[j] := ⟨_, rfl⟩
        have hky := HKid.out j hlt
        have hal := HAll.out j hlt
        rw [← hy] at g1 hky hal
        have HI := Lib.hid (HIh.out y (.slice a E.length c) E (atF (x :: soFar F h x j) ds.length P) wr (by omega) hky.1 HKr.out (Nat.le_trans hBw HL.out.size) HOwn.out HA.out (by have := HLen.out; omega) ⟨a, c, rfl⟩)
        have HY := Lib.hid hy
        clear hE hown hat hA hl hKr hh hkids hrs hck hEl hky hal hy
        go_wp2_with fail
        refine HI.out.mono ?_
        rintro e w3 ⟨a3, c3, rfl, ho3, hat3, hA3, hl3⟩
        have e1 : E ++ (F.all h y).map (entOf F h kd) = ds ++ kd x :: (soFar F h x (j + 1)).map (entOf F h kd) := by
          rw [HE.out, soFar_succ F h x j hlt, ← HY.out]; simp
        have e2 : atF (F.all h y) E.length (atF (x :: soFar F h x j) ds.length P) = atF (x :: soFar F h x (j + 1)) ds.length P := by
          have e3 : E.length = ds.length + (x :: soFar F h x j).length := by rw [HEl.out, List.length_cons]; omega
          rw [e3, atF_append (by rw [HY.out]; exact soFar_apart HO.out x j hlt), soFar_succ F h x j hlt, ← HY.out]
          rfl
        rw [e1] at ho3 hat3
        rw [e2] at hA3
        have HRel : Hid (ListedRel F h kd n B gat x ds P (.slice av ds.length cv) w (.slice a3 (ds ++ kd x :: (soFar F h x (j + 1)).map (entOf F h kd)).length c3) (.int .i64 ((j + 1 : Nat) : Int)) w3) := by
          refine ⟨j + 1, a3, c3, _, by omega, rfl, rfl, rfl, ho3, ?_, hA3, HL.out.trans hl3 ?_⟩
          · rcases hat3 with e4 | ⟨b4, e4, e5⟩
            · rw [e4]; exact HBl.out
            · exact .inr ⟨b4, e4, Nat.le_trans HL.out.size e5⟩
          · rcases HBl.out with e4 | ⟨b4, e4, e5⟩
            · exact .inl e4
            · exact .inr ⟨b4, e4, e5⟩
        rw [e1]
        clear ho3 hat3 hA3 hl3 e1 e2
        go_wp2_with fail
        go_roundw
        case rel => have := HRel.out; simpa using this
        case measure => simp [intOf]; omega
      · have e : j = (F.kids x).length := by omega
        subst e
        obtain ⟨g, c', hgv⟩ := own_some hown (by omega)
        cases hgv
        obtain ⟨cu, hcu⟩ := own_type hown
        have hgg : g ≠ gat := by
          have ha4 := hA
          obtain ⟨cu2, h2, _⟩ := ha4
          exact types_ne hcu h2 (by decide)
        have hix : (flat5 E)[ds.length * 5 + 4]? = some (.int .i64 (kd x).size) := by
          rw [hE, flat5_append, List.getElem?_append_right (by rw [flat5_len]; omega), flat5_len]
          have e3 : ds.length * 5 + 4 - ds.length * 5 = 4 := by omega
          rw [e3]; rfl
        have hgc : wr.cell? ⟨g, ds.length * 5 + 4, none⟩ = some (.int .i64 (kd x).size) := by
          have := hown.cells (g := g) rfl _ _ hix
          rw [Addr.add_lit, Nat.zero_add] at this
          exact this
        have hgf := frozen_of_row wr g (ds.length * 5 + 4) _ _ hcu
        have hend := soFar_end HO.out x
        have hsz : ((E.length : Int) - (ds.length : Int)) = ((F.all h x).length : Int) := by
          rw [← hend, List.length_cons]; omega
        have hfin : ds ++ { kd x with size := ((F.all h x).length : Int) } :: (soFar F h x (F.kids x).length).map (entOf F h kd) = ds ++ (F.all h x).map (entOf F h kd) := by
          conv => rhs; rw [← hend, List.map_cons]
          rfl
        have HFin : Hid (ListedPost F h kd n B gat x ds P (.slice av ds.length cv) w (.returned (.slice (some ⟨g, 0, none⟩) E.length c)) (wr.setCell ⟨g, ds.length * 5 + 4, none⟩ (.int .i64 ((E.length : Int) - (ds.length : Int))))) := by
          have h1 := own_set hown (ds.length * 5 + 4) (by rw [flat5_len]; omega) (.int .i64 ((E.length : Int) - (ds.length : Int)))
          have hel : E.length = (ds ++ (F.all h x).map (entOf F h kd)).length := by rw [← hfin, hE]; simp
          rw [hsz] at h1 ⊢
          have h2 : (flat5 E).set (ds.length * 5 + 4) (.int .i64 ((F.all h x).length : Int)) = flat5 (ds ++ (F.all h x).map (entOf F h kd)) := by rw [hE, flat5_set, hfin]
          rw [h2, hel] at h1
          refine ⟨some ⟨g, 0, none⟩, c, by rw [hel], h1, ?_, ?_, ?_⟩
          · rcases hat with e4 | e4
            · exact .inl e4
            · exact .inr e4
          · rw [hend] at hA
            exact hA.lturn (Below.heap_setCell _ _ _ _ (Ne.symm hgg))
          · refine hl.set (p := ⟨g, ds.length * 5 + 4, none⟩) ?_ _
            rcases hat with e4 | ⟨b4, e4, e5⟩
            · exact .inr (.inl e4.symm)
            · refine .inr (.inr ?_)
              have : g = b4 := by simpa [Value.ownBlock] using e4
              show w.heap.size ≤ g
              omega
        clear hE hown hat hA hl hKr hh hkids hrs hEl hcu hix hend hsz hfin hgg
        go_wp2_with fail
        go_ret
        exact HFin.out
  · rw [if_neg hxn] at hp
    rw [hp] at c0
    have hAx := HAt.out.skip (x := x) (by omega) ds.length
    have hl1 : LTurn (Value.slice av ds.length cv).ownBlock gat w w := LTurn.refl _ _ _
    have HStart := Lib.hid (fun a2 c2 w2 cs ho hg hat => listed_start (F := F) (h := h) (kd := kd) hl1 (by simp) hBw hAx hv a2 c2 w2 cs ho hg hat)
    have HV1 := Lib.hid (((hv).alloc (.cells #[.int .i64 (kd x).kind, .string (kd x).tag, .string (kd x).text, .slice (kd x).aa (kd x).attrs.length (kd x).ac, .int .i64 (kd x).size] 47)).alloc (.cells #[.int .i64 (kd x).kind, .string (kd x).tag, .string (kd x).text, .slice (kd x).aa (kd x).attrs.length (kd x).ac, .int .i64 (kd x).size] 47))
    have HR1 : Hid (Reads (((w).alloc (.cells #[.int .i64 (kd x).kind, .string (kd x).tag, .string (kd x).text, .slice (kd x).aa (kd x).attrs.length (kd x).ac, .int .i64 (kd x).size] 47)).alloc (.cells #[.int .i64 (kd x).kind, .string (kd x).tag, .string (kd x).text, .slice (kd x).aa (kd x).attrs.length (kd x).ac, .int .i64 (kd x).size] 47)) (((w).alloc (.cells #[.int .i64 (kd x).kind, .string (kd x).tag, .string (kd x).text, .slice (kd x).aa (kd x).attrs.length (kd x).ac, .int .i64 (kd x).size] 47)).alloc (.cells #[.int .i64 (kd x).kind, .string (kd x).tag, .string (kd x).text, .slice (kd x).aa (kd x).attrs.length (kd x).ac, .int .i64 (kd x).size] 47)).heap.size 5 (some ⟨w.heap.size + 1, 0, none⟩) 1 (flat5 [kd x])) := by
      have e : ((w).alloc (.cells #[.int .i64 (kd x).kind, .string (kd x).tag, .string (kd x).text, .slice (kd x).aa (kd x).attrs.length (kd x).ac, .int .i64 (kd x).size] 47)).heap.size = w.heap.size + 1 := by simp
      have := kd_reads ((w).alloc (.cells #[.int .i64 (kd x).kind, .string (kd x).tag, .string (kd x).text, .slice (kd x).aa (kd x).attrs.length (kd x).ac, .int .i64 (kd x).size] 47)) 47 (kd x) (w.heap.size + 2) (by rw [e]; omega)
      rw [e] at this
      rw [World.size_alloc, e]
      exact this
    clear hp hh hattr hkids ha1 ha3 hK hv hat hpl ih o hAx hl1 hlen
    go_enter Try.func49, Try.ntmps49
    go_wp2_with (at_builtin; refine wpList_append_nd rfl (.tmp 38) (.tmp 40) rfl B (.slice av ds.length cv) ds rfl HV1.out (some ⟨w.heap.size + 1, 0, none⟩) 1 1 [kd x] rfl rfl HR1.out (by simp; omega) (by simp; omega) ?_)
    intro a9 c9 w9 hown2 hg2 hat2
    have hrel0 := HStart.out a9 c9 w9 _ (by simpa using hown2) hg2 (by simpa [World.setCell] using hat2)
    have HRel0 := Lib.hid hrel0
    clear hown2 hg2 hat2 hrel0 HStart HV1 HR1 c0 c1 c2 c3 c4 c5
    go_wp2_with fail
    go_loopw [1, 9] (fun o1 xv wr => ListedRel F h kd n B gat x ds P (.slice av ds.length cv) w o1 xv wr) (fun _ xv _ => (F.kids x).length - (intOf xv).toNat)
    case atStart => exact HRel0.out
    case round =>
      clear HRel0
      obtain ⟨j, a, c, m, hj, rfl, rfl, hm, hown, hat, hA, hl⟩ := hrel
      obtain ⟨E, hE⟩ : ∃ E, E = ds ++ kd x :: (soFar F h x j).map (entOf F h kd) := ⟨_, rfl⟩
      rw [← hE] at hm hown
      subst hm
      have hKr := HK.out.lturn hl HV.out HCur.out
      obtain ⟨-, ka, kc, hh, -, hkids⟩ := hKr.node x hSx
      have c7 : wr.cell? ⟨kb x, 7, none⟩ = some (.slice ka (F.kids x).length kc) := cell_of_row wr (kb x) 7 _ _ _ hh
      obtain ⟨_, _, hv0, _, hrs⟩ := RSl.own hkids
      cases hv0
      have hEl : E.length = ds.length + 1 + (soFar F h x j).length := by rw [hE]; simp; omega
      have hsf := soFar_len HO.out x j
      have HEl := Lib.hid hEl
      have HE := Lib.hid hE
      have HOwn := Lib.hid hown
      have HBl := Lib.hid hat
      have HA := Lib.hid hA
      have HL := Lib.hid hl
      have HKr := Lib.hid hKr
      have hE100 : E.length ≤ 100000 := by have := HLen.out; omega
      have hEd : ds.length < E.length := by omega
      by_cases hlt : j < (F.kids x).length
      · obtain ⟨bk, ok, rfl, hbB, hck⟩ := hrs.at_ (by rw [ptrs_length]; omega)
        have g1 := hck j (by rw [ptrs_length]; exact hlt)
        rw [ptrs_at hlt] at g1
        obtain ⟨y, hy⟩ : ∃ y, y = (F.kids x)[j] := ⟨_, rfl⟩
        have hky := HKid.out j hlt
        have hal := HAll.out j hlt
        rw [← hy] at g1 hky hal
        have HI := Lib.hid (HIh.out y (.slice a E.length c) E (atF (x :: soFar F h x j) ds.length P) wr (by omega) hky.1 HKr.out (Nat.le_trans hBw HL.out.size) HOwn.out HA.out (by have := HLen.out; omega) ⟨a, c, rfl⟩)
        have HY := Lib.hid hy
        clear hE hown hat hA hl hKr hh hkids hrs hck hEl hky hal hy
        go_wp2_with fail
        refine HI.out.mono ?_
        rintro e w3 ⟨a3, c3, rfl, ho3, hat3, hA3, hl3⟩
        have e1 : E ++ (F.all h y).map (entOf F h kd) = ds ++ kd x :: (soFar F h x (j + 1)).map (entOf F h kd) := by
          rw [HE.out, soFar_succ F h x j hlt, ← HY.out]; simp
        have e2 : atF (F.all h y) E.length (atF (x :: soFar F h x j) ds.length P) = atF (x :: soFar F h x (j + 1)) ds.length P := by
          have e3 : E.length = ds.length + (x :: soFar F h x j).length := by rw [HEl.out, List.length_cons]; omega
          rw [e3, atF_append (by rw [HY.out]; exact soFar_apart HO.out x j hlt), soFar_succ F h x j hlt, ← HY.out]
          rfl
        rw [e1] at ho3 hat3
        rw [e2] at hA3
        have HRel : Hid (ListedRel F h kd n B gat x ds P (.slice av ds.length cv) w (.slice a3 (ds ++ kd x :: (soFar F h x (j + 1)).map (entOf F h kd)).length c3) (.int .i64 ((j + 1 : Nat) : Int)) w3) := by
          refine ⟨j + 1, a3, c3, _, by omega, rfl, rfl, rfl, ho3, ?_, hA3, HL.out.trans hl3 ?_⟩
          · rcases hat3 with e4 | ⟨b4, e4, e5⟩
            · rw [e4]; exact HBl.out
            · exact .inr ⟨b4, e4, Nat.le_trans HL.out.size e5⟩
          · rcases HBl.out with e4 | ⟨b4, e4, e5⟩
            · exact .inl e4
            · exact .inr ⟨b4, e4, e5⟩
        rw [e1]
        clear ho3 hat3 hA3 hl3 e1 e2
        go_wp2_with fail
        go_roundw
        case rel => have := HRel.out; simpa using this
        case measure => simp [intOf]; omega
      · have e : j = (F.kids x).length := by omega
        subst e
        obtain ⟨g, c', hgv⟩ := own_some hown (by omega)
        cases hgv
        obtain ⟨cu, hcu⟩ := own_type hown
        have hgg : g ≠ gat := by
          have ha4 := hA
          obtain ⟨cu2, h2, _⟩ := ha4
          exact types_ne hcu h2 (by decide)
        have hix : (flat5 E)[ds.length * 5 + 4]? = some (.int .i64 (kd x).size) := by
          rw [hE, flat5_append, List.getElem?_append_right (by rw [flat5_len]; omega), flat5_len]
          have e3 : ds.length * 5 + 4 - ds.length * 5 = 4 := by omega
          rw [e3]; rfl
        have hgc : wr.cell? ⟨g, ds.length * 5 + 4, none⟩ = some (.int .i64 (kd x).size) := by
          have := hown.cells (g := g) rfl _ _ hix
          rw [Addr.add_lit, Nat.zero_add] at this
          exact this
        have hgf := frozen_of_row wr g (ds.length * 5 + 4) _ _ hcu
        have hend := soFar_end HO.out x
        have hsz : ((E.length : Int) - (ds.length : Int)) = ((F.all h x).length : Int) := by
          rw [← hend, List.length_cons]; omega
        have hfin : ds ++ { kd x with size := ((F.all h x).length : Int) } :: (soFar F h x (F.kids x).length).map (entOf F h kd) = ds ++ (F.all h x).map (entOf F h kd) := by
          conv => rhs; rw [← hend, List.map_cons]
          rfl
        have HFin : Hid (ListedPost F h kd n B gat x ds P (.slice av ds.length cv) w (.returned (.slice (some ⟨g, 0, none⟩) E.length c)) (wr.setCell ⟨g, ds.length * 5 + 4, none⟩ (.int .i64 ((E.length : Int) - (ds.length : Int))))) := by
          have h1 := own_set hown (ds.length * 5 + 4) (by rw [flat5_len]; omega) (.int .i64 ((E.length : Int) - (ds.length : Int)))
          have hel : E.length = (ds ++ (F.all h x).map (entOf F h kd)).length := by rw [← hfin, hE]; simp
          rw [hsz] at h1 ⊢
          have h2 : (flat5 E).set (ds.length * 5 + 4) (.int .i64 ((F.all h x).length : Int)) = flat5 (ds ++ (F.all h x).map (entOf F h kd)) := by rw [hE, flat5_set, hfin]
          rw [h2, hel] at h1
          refine ⟨some ⟨g, 0, none⟩, c, by rw [hel], h1, ?_, ?_, ?_⟩
          · rcases hat with e4 | e4
            · exact .inl e4
            · exact .inr e4
          · rw [hend] at hA
            exact hA.lturn (Below.heap_setCell _ _ _ _ (Ne.symm hgg))
          · refine hl.set (p := ⟨g, ds.length * 5 + 4, none⟩) ?_ _
            rcases hat with e4 | ⟨b4, e4, e5⟩
            · exact .inr (.inl e4.symm)
            · refine .inr (.inr ?_)
              have : g = b4 := by simpa [Value.ownBlock] using e4
              show w.heap.size ≤ g
              omega
        clear hE hown hat hA hl hKr hh hkids hrs hEl hcu hix hend hsz hfin hgg
        go_wp2_with fail
        go_ret
        exact HFin.out

theorem listed_any {F : Fo} {S : Nat → Prop} {h : Nat → Nat} (o : F.Ok S h) {kd : Nat → Nd} {pl : Nat → Int} {B : Nat} {kb : Nat → Nat} (n gat : Nat) (hpl : ∀ i, S i → pl i = if i < n then (i : Int) else -1) (hn : n ≤ 100000) (d : Nat) :
    ∀ (x : Nat) (v : Value) (ds : List Nd) (P : Nat → Int) (w : World), h x < d → S x →
    KnoD F S kd pl B kb w → B ≤ w.heap.size → w.ownsRow B 47 5 v ds.length (flat5 ds) → AtRow gat n P w → ds.length + (F.all h x).length ≤ 100000 → (∃ a c, v = .slice a ds.length c) →
    Calls Try.prog 49 #[.pointer (some ⟨kb x, 0, none⟩), v, .slice (some ⟨gat, 0, none⟩) n n] w (ListedPost F h kd n B gat x ds P v w) := by
  induction d with
  | zero => intro x v ds P w hx; omega
  | succ d ih => exact listed_step o n gat hpl hn d ih
end Go.Proofs.Ytmhhfljbocbolaa

namespace Go.Proofs.Ytmhhfljbocbolaa
open Go.RowKit
set_option linter.unusedVariables false

def strip (x : Nd) : Nd := { x with aa := none, ac := 0 }
def outL (F : Fo) (h : Nat → Nat) (nd : Nat → Nd) (x : Nat) : List Nd := (F.all h x).map fun y => strip { nd y with size := ((F.all h y).length : Int) }
def placeL (F : Fo) (h : Nat → Nat) (n : Nat) : List Int := (List.range n).map fun j => atF (F.all h 0) 0 (fun _ => -1) j

/-- A node's own parts are not too large. -/
structure NdB (x : Nd) : Prop where
  kind : -9223372036854775808 ≤ x.kind ∧ x.kind ≤ 9223372036854775807
  tag : x.tag.size ≤ maxLen
  text : x.text.size ≤ maxLen
  len : x.attrs.length ≤ maxLen
  ats : ∀ a ∈ x.attrs, a.key.size ≤ maxLen ∧ a.val.size ≤ maxLen
theorem Nd.Ok.ndb {w : World} {B : Nat} {x : Nd} (h : x.Ok w B) : NdB x := ⟨h.kind, h.tag, h.text, h.attrs.1, h.attrs.2.1⟩

/-- A changed document in memory, and where the nodes are. -/
def OutP (F : Fo) (h : Nat → Nat) (nd : Nat → Nd) (n : Nat) (a : Option Addr) (m : Nat) (a2 : Option Addr) (m2 : Nat) (w : World) : Prop :=
  (∃ ds, m = ds.length ∧ NSl w w.heap.size a ds ∧ ds.map strip = outL F h nd 0) ∧ m2 = n ∧ RSl w w.heap.size a2 (ivs (placeL F h n))

theorem asl_own2 {w : World} {B : Nat} {a : Option Addr} {c : Nat} {l : List At2} (h : w.ownsRow B 96 2 (.slice a l.length c) l.length (flat2 l)) (hm : l.length ≤ maxLen) (hs : ∀ x ∈ l, x.key.size ≤ maxLen ∧ x.val.size ≤ maxLen) : ASl w w.heap.size a l := by
  refine ⟨hm, hs, ?_⟩
  rcases Nat.eq_zero_or_pos l.length with h0 | h0
  · exact .inl (List.eq_nil_of_length_eq_zero h0)
  · obtain ⟨g, c', e⟩ := own_some h h0
    cases e
    refine .inr ⟨g, 0, rfl, (h.lt g rfl).2, fun i hi => ?_⟩
    obtain ⟨f1, f2⟩ := flat2_at hi
    have c1 := h.cells (g := g) rfl _ _ f1
    have c2 := h.cells (g := g) rfl _ _ f2
    rw [Addr.add_lit] at c1 c2
    rw [List.getD_eq_getElem?_getD, List.getElem?_eq_getElem hi, Option.getD_some]
    exact ⟨c1, by rw [Nat.add_assoc]; exact c2⟩

theorem nsl_own {w : World} {B : Nat} {a : Option Addr} {c : Nat} {l : List Nd} (h : w.ownsRow B 47 5 (.slice a l.length c) l.length (flat5 l)) (hm : l.length ≤ maxLen) (hs : ∀ x ∈ l, x.Ok w w.heap.size) : NSl w w.heap.size a l := by
  refine ⟨hm, hs, ?_⟩
  rcases Nat.eq_zero_or_pos l.length with h0 | h0
  · exact .inl (List.eq_nil_of_length_eq_zero h0)
  · obtain ⟨g, c', e⟩ := own_some h h0
    cases e
    refine .inr ⟨g, 0, rfl, (h.lt g rfl).2, fun i hi => ?_⟩
    rw [List.getD_eq_getElem?_getD, List.getElem?_eq_getElem hi, Option.getD_some]
    have key : ∀ j v, j < 5 → (cells5 l[i])[j]? = some v → w.cell? ⟨g, 0 + i * 5 + j, none⟩ = some v := by
      intro j v hj hv
      have e1 : (flat5 l)[i * 5 + j]? = some v := by
        have e2 : flat5 l = flat5 (l.take i) ++ (cells5 l[i] ++ flat5 (l.drop (i + 1))) := by
          conv => lhs; rw [← List.take_append_drop i l, List.drop_eq_getElem_cons hi, flat5_append]
          rfl
        have e3 : (flat5 (l.take i)).length = i * 5 := by rw [flat5_len, List.length_take]; congr 1; omega
        rw [e2, List.getElem?_append_right (by omega), e3, Nat.add_sub_cancel_left, List.getElem?_append_left (by simp [cells5]; omega)]
        exact hv
      have := h.cells (g := g) rfl _ _ e1
      rw [Addr.add_lit] at this
      rw [Nat.add_assoc]
      exact this
    exact ⟨key 0 _ (by omega) rfl, key 1 _ (by omega) rfl, key 2 _ (by omega) rfl, key 3 _ (by omega) rfl, key 4 _ (by omega) rfl⟩

theorem atrow_rsl {w : World} {gat n : Nat} {P : Nat → Int} (h : AtRow gat n P w) : RSl w w.heap.size (some ⟨gat, 0, none⟩) (ivs ((List.range n).map P)) := by
  obtain ⟨cur, h1, h2, h3⟩ := h
  refine .inr ⟨gat, 0, rfl, (Array.getElem?_eq_some_iff.1 h1).1, fun i hi => ?_⟩
  have hi2 : i < n := by simpa [ivs] using hi
  rw [Nat.zero_add, cell_of_row w gat i _ _ _ h1, h3 i hi2]
  simp [ivs]

/-- The reference's forest while it is changed: n nodes of the first tree. -/
structure KF (n g fc fb : Nat) (F : Fo) (S : Nat → Prop) (h : Nat → Nat) (nd : Nat → Nd) (kb : Nat → Nat) (op : Bool) (w : World) : Prop where
  ok : F.Ok S h
  kno : Kno F S nd (fun i => if i < n then (i : Int) else -1) fb kb w
  ndb : ∀ i, S i → NdB (nd i)
  sub : ∀ i, i < n → S i
  fst : ∃ many : Int, w.heap[fb]? = some (.cells #[.slice (some ⟨g, 0, none⟩) n fc, .int .i64 many, .bool op] 76 (0, 0))
  row : w.ownsRow fb 77 1 (.slice (some ⟨g, 0, none⟩) n fc) n (ptrs kb (List.range n))
  len : (F.all h 0).length ≤ 100000

theorem KF.elem {n g fc fb : Nat} {F : Fo} {S : Nat → Prop} {h : Nat → Nat} {nd : Nat → Nd} {kb : Nat → Nat} {op : Bool} {w : World} (H : KF n g fc fb F S h nd kb op w) {i : Nat} (hi : i < n) : w.cell? ⟨g, i, none⟩ = some (.pointer (some ⟨kb i, 0, none⟩)) := by
  have := H.row.cells (g := g) rfl i (.pointer (some ⟨kb i, 0, none⟩)) (by simp [ptrs, hi])
  rw [Addr.add_lit, Nat.zero_add] at this
  exact this
theorem KF.up {n g fc fb : Nat} {F : Fo} {S : Nat → Prop} {h : Nat → Nat} {nd : Nat → Nd} {kb : Nat → Nat} {op : Bool} {w w' : World} (H : KF n g fc fb F S h nd kb op w) (hb : Below w.heap.size w w') : KF n g fc fb F S h nd kb op w' := by
  obtain ⟨m, hm⟩ := H.fst
  exact ⟨H.ok, H.kno.up hb, H.ndb, H.sub, ⟨m, (hb.block _ (Array.getElem?_eq_some_iff.1 hm).1).trans hm⟩, own_kept H.row (fun b _ h2 => hb.block b h2), H.len⟩

def ChangedPost (t : List Nd) (Good : Fo → (Nat → Prop) → (Nat → Nat) → (Nat → Nd) → Prop) (w : World) (e : Ending) (w' : World) : Prop :=
  ∃ a m c a2 m2 c2 b, e = .returned (.tuple #[.slice a m c, .slice a2 m2 c2, .bool b]) ∧ (b = true → RightP t ∧ ∃ F S h nd, Good F S h nd ∧ OutP F h nd t.length a m a2 m2 w') ∧ Below w.heap.size w w'

def StepRes (n g fc fb : Nat) (Good : Fo → (Nat → Prop) → (Nat → Nat) → (Nat → Nd) → Prop) (W : World) (e : Ending) (W' : World) : Prop :=
  ∃ b, e = .returned (.bool b) ∧ (b = true → ∃ F S h nd kb op, KF n g fc fb F S h nd kb op W' ∧ (op = false → Good F S h nd)) ∧ Below fb W W'

theorem Fo.Ok.up_mem {F : Fo} {S : Nat → Prop} {h : Nat → Nat} (o : F.Ok S h) {x y : Nat} (hx : S x) (u : F.Up x y) : S y := by
  induction u with
  | self => exact hx
  | step hp _ _ => exact (o.dom _ _ hp).2
theorem Fo.Ok.all_mem {F : Fo} {S : Nat → Prop} {h : Nat → Nat} (o : F.Ok S h) {x y : Nat} (hx : S x) (hy : y ∈ F.all h x) : S y :=
  o.up_mem hx ((F.all_up o _ x (Nat.le_refl _) y).1 hy)

theorem all_sub_len {F : Fo} {S : Nat → Prop} {h : Nat → Nat} (o : F.Ok S h) : ∀ (d : Nat) {x y : Nat}, h x ≤ d → y ∈ F.all h x → (F.all h y).length ≤ (F.all h x).length := by
  intro d
  induction d with
  | zero =>
    intro x y hx hy
    have hk : F.kids x = [] := List.eq_nil_iff_forall_not_mem.2 fun c hc => by
      have := o.ht _ _ ((o.mem x c).1 hc); omega
    rw [F.all_eq o x, hk] at hy
    have : y = x := by simpa using hy
    rw [this]; exact Nat.le_refl _
  | succ d ih =>
    intro x y hx hy
    have hy2 := hy
    rw [F.all_eq o x] at hy2
    rcases List.mem_cons.1 hy2 with e | h2
    · rw [e]; exact Nat.le_refl _
    · obtain ⟨c, hc, hyc⟩ := List.mem_flatMap.1 h2
      have h3 := o.ht _ _ ((o.mem x c).1 hc)
      refine Nat.le_trans (ih (by omega) hyc) ?_
      obtain ⟨l1, l2, e⟩ := List.append_of_mem hc
      rw [F.all_eq o x, e, List.length_cons, List.flatMap_append, List.flatMap_cons, List.length_append, List.length_append]
      omega

theorem made_get (z : Value) (n j : Nat) (hj : j < n) : (madeCells #[z] n)[j]? = some z := by
  rw [← Array.getElem?_toList, toList_madeCells_one, List.getElem?_replicate, if_pos hj]

set_option maxRecDepth 100000 in
set_option maxHeartbeats 4000000 in
theorem changed_any (ad : Option Addr) (c : Nat) (t : List Nd) (hf : fits1 t = true) (w : World) (h : NSl w w.heap.size ad t) (sb : Nat) (op : Int) (oa : Option Addr) (on oc : Nat) (wa : Option Addr) (wn wc : Nat)
    (hs : w.heap[sb]? = some (.cells #[.int .i64 op, .slice oa on oc, .slice wa wn wc, .string ⟨#[]⟩, .string ⟨#[]⟩, .slice none 0 0] 27 (0, 0)))
    (Good : Fo → (Nat → Prop) → (Nat → Nat) → (Nat → Nd) → Prop)
    (hstep : RightP t → ∀ W kb g fc fb, Below w.heap.size w W → w.heap.size ≤ fb → fb < W.heap.size → KF t.length g fc fb (fo0 t) (fun i => i < t.length) (sz t) (ndT t) kb false W →
      Calls Try.prog 48 #[.pointer (some ⟨fb, 0, none⟩), .agg #[.int .i64 op, .slice oa on oc, .slice wa wn wc, .string ⟨#[]⟩, .string ⟨#[]⟩, .slice none 0 0]] W (StepRes t.length g fc fb Good W)) :
    Calls Try.prog 30 #[.slice ad t.length c, .slice (some ⟨sb, 0, none⟩) 1 1] w (ChangedPost t Good w) := by
  have HH := Lib.hid h
  have HSt := Lib.hid hstep
  have HSb := Lib.hid hs
  have hsl : sb < w.heap.size := (Array.getElem?_eq_some_iff.1 hs).1
  have HQ : Hid (∀ W, Below w.heap.size w W → W.cell? ⟨sb, 0, none⟩ = some (.int .i64 op) ∧ W.cell? ⟨sb, 1, none⟩ = some (.slice oa on oc) ∧ W.cell? ⟨sb, 2, none⟩ = some (.slice wa wn wc) ∧ W.cell? ⟨sb, 3, none⟩ = some (.string ⟨#[]⟩) ∧ W.cell? ⟨sb, 4, none⟩ = some (.string ⟨#[]⟩) ∧ W.cell? ⟨sb, 5, none⟩ = some (.slice none 0 0)) := by
    intro W hb
    have q := (hb.block _ hsl).trans hs
    exact ⟨by rw [cell_of_row W _ _ _ _ _ q]; rfl, by rw [cell_of_row W _ _ _ _ _ q]; rfl, by rw [cell_of_row W _ _ _ _ _ q]; rfl, by rw [cell_of_row W _ _ _ _ _ q]; rfl, by rw [cell_of_row W _ _ _ _ _ q]; rfl, by rw [cell_of_row W _ _ _ _ _ q]; rfl⟩
  clear h hstep hs
  go_enter Try.func30, Try.ntmps30
  go_wp2_with fail
  refine (right_any _ _ t _ HH.out hf).mono ?_
  rintro e w1 ⟨b, rfl, hR, hb1⟩
  have HB1 := Lib.hid hb1
  have HR0 := Lib.hid hR
  clear hb1 hR
  cases b
  · go_wp2_with fail
    go_ret3
    exact ⟨_, _, _, _, _, _, false, rfl, by simp, HB1.out⟩
  have HR := Lib.hid (HR0.out rfl)
  have hle := HR.out.le
  have hpos := HR.out.pos
  clear HR0
  go_wp2_with fail
  refine (kgrown_any _ _ t HR.out _ (HH.out.up HB1.out)).mono ?_
  rintro e w2 ⟨rfl, kb, g, fc, hK, hfst, hrow, hb2⟩
  have hKF : KF t.length g fc w1.heap.size (fo0 t) (fun i => i < t.length) (sz t) (ndT t) kb false w2 := by
    refine ⟨fo0_ok HR.out, ⟨fun i hi => ?_, hK.inj⟩, fun i hi => ?_, fun i hi => hi, ⟨_, hfst⟩, hrow, ?_⟩
    · obtain ⟨hB, aa, ac, ka, kc, h1, h2, h3⟩ := hK.node i hi
      refine ⟨hB, aa, ac, ka, kc, ?_, h2, h3⟩
      have e : (if i < t.length then (i : Int) else -1) = (i : Int) := if_pos hi
      show w2.heap[kb i]? = some (.cells (knCells kb _ _ (if i < t.length then (i : Int) else -1) aa ac _ ka kc) _ _)
      rw [e]; exact h1
    · unfold ndT; rw [getD_at hi]
      exact (HH.out.2.1 _ (List.getElem_mem hi)).ndb
    · rw [fo0_all HR.out _ _ (Nat.le_refl _) hpos, List.length_range', HR.out.top]; omega
  have HB2 := Lib.hid (bnext HB1.out hb2)
  have HS2 := Lib.hid (HSt.out HR.out w2 kb g fc w1.heap.size HB2.out HB1.out.size (Array.getElem?_eq_some_iff.1 hfst).1 hKF)
  have HK0 := Lib.hid hKF
  obtain ⟨z0, z1, z2, z3, z4, z5⟩ := HQ.out w2 HB2.out
  have HW1 := Lib.hid HB1.out.size
  clear hK hfst hrow hb2 hKF
  go_wp2_with fail
  go_loopw [8] (fun x wr => (x = .int .i64 0 ∧ wr = w2) ∨ (x = .int .i64 1 ∧ ∃ F S h nd kb, KF t.length g fc w1.heap.size F S h nd kb false wr ∧ Good F S h nd ∧ Below w.heap.size w wr)) (fun x _ => (1 - intOf x).toNat)
  case atStart => exact .inl ⟨rfl, rfl⟩
  case round =>
    rcases hrel with ⟨rfl, rfl⟩ | ⟨rfl, F, S, h, nd, kb2, hKF, hGood, hbw⟩
    · go_wp2_with fail
      refine HS2.out.mono ?_
      rintro e w3 ⟨b3, rfl, hyes, hb3⟩
      have HB3 : Hid (Below w.heap.size w w3) := HB2.out.trans (hb3.mono HW1.out)
      have HY := Lib.hid hyes
      clear hb3 hyes
      cases b3
      · go_wp2_with fail
        go_ret3
        exact ⟨_, _, _, _, _, _, false, rfl, by simp, HB3.out⟩
      obtain ⟨F, S, h, nd, kb2, op2, hKF, hGood⟩ := HY.out rfl
      obtain ⟨many, hm⟩ := hKF.fst
      have f2 : w3.cell? ⟨w1.heap.size, 2, none⟩ = some (.bool op2) := by rw [cell_of_row w3 _ 2 _ _ _ hm]; rfl
      have HKF := Lib.hid hKF
      have HGd := Lib.hid hGood
      clear hKF hGood hm
      cases op2
      · go_wp2_with fail
        go_roundw
        case rel => exact .inr ⟨by go_num, F, S, h, nd, kb2, HKF.out, HGd.out (by trivial), HB3.out⟩
        case measure => simp [intOf]
      · go_wp2_with fail
        go_ret3
        exact ⟨_, _, _, _, _, _, false, rfl, by simp, HB3.out⟩
    · clear z0 z1 z2 z3 z4 z5
      have hmk := run_make_row' (P := Try.prog) 23 3 (.int .i64 0) 8 Try.underlying23 Try.info3 rfl .i64 .i64 t.length (by omega) (by omega)
      have HKF := Lib.hid hKF
      have HGd := Lib.hid hGood
      have HBw := Lib.hid hbw
      clear hKF hGood hbw
      go_wp2_with fail
      obtain ⟨W0, rfl⟩ : ∃ W0 : World, W0 = wr := ⟨_, rfl⟩
      have HA0 : Hid (AtRow W0.heap.size t.length (fun j => if j < 0 then -1 else 0) (W0.alloc (Obj.cells (madeCells #[Value.int IntKind.i64 0] t.length) 3))) := by
        refine ⟨_, heap_alloc_new _ _, by simp [size_madeCells], fun j hj => ?_⟩
        show _ = some (Value.int .i64 (if j < 0 then -1 else 0))
        rw [if_neg (by omega)]; exact made_get _ _ _ hj
      have HBA : Hid (Below W0.heap.size W0 (W0.alloc (Obj.cells (madeCells #[Value.int IntKind.i64 0] t.length) 3))) := (Below.refl _ _).alloc (Nat.le_refl _) _
      have HSA : (W0.alloc (Obj.cells (madeCells #[Value.int IntKind.i64 0] t.length) 3)).heap.size = W0.heap.size + 1 := by show (Array.push _ _).size = _; rw [Array.size_push]
      have HSA2 := Lib.hid HSA
      clear HSA hmk
      go_loopw [10] (fun x W => ∃ j : Nat, j ≤ t.length ∧ x = .int .i64 j ∧ Hid (Below W0.heap.size W0 W) ∧ Hid (W.heap.size = W0.heap.size + 1) ∧ Hid (AtRow W0.heap.size t.length (fun k => if k < j then -1 else 0) W)) (fun x _ => t.length - (intOf x).toNat)
      case atStart => exact ⟨0, by omega, rfl, HBA, HSA2, HA0⟩
      case round =>
        obtain ⟨j, hj, rfl, HBj, HSj, HAj⟩ := hrel
        by_cases hjn : j < t.length
        · obtain ⟨cur, hc1, hc2, hc3⟩ := HAj.out
          have hcell : wr.cell? ⟨W0.heap.size, j, none⟩ = some (.int .i64 0) := by
            rw [cell_of_row wr _ j _ _ _ hc1, hc3 j hjn]; show some (Value.int .i64 (if j < j then -1 else 0)) = _; rw [if_neg (by omega)]
          have hfz := frozen_of_row wr W0.heap.size j _ _ hc1
          clear hc1 hc2 hc3
          go_wp2_with fail
          go_roundw
          case rel =>
            refine ⟨j + 1, by omega, rfl, HBj.out.setCell (p := ⟨W0.heap.size, j, none⟩) (Nat.le_refl _) _, ?_, ?_⟩
            · have h5 : (wr.setCell ⟨W0.heap.size, j, none⟩ (.int .i64 (-1))).heap.size = W0.heap.size + 1 := by have := HSj.out; simpa [World.setCell] using this
              exact h5
            · obtain ⟨cur, hc1, hc2, hc3⟩ := HAj.out
              refine ⟨cur.setIfInBounds j (.int .i64 (-1)), heap_setCell_same wr _ j _ _ _ hc1, by simpa using hc2, fun k hk => ?_⟩
              by_cases e : k = j
              · subst e
                show _ = some (Value.int .i64 (if k < k + 1 then -1 else 0))
                rw [if_pos (by omega)]
                simp [show k < cur.size by omega]
              · rw [Array.getElem?_setIfInBounds_ne (Ne.symm e), hc3 k hk]
                show some (Value.int .i64 (if k < j then -1 else 0)) = some (Value.int .i64 (if k < j + 1 then -1 else 0))
                by_cases hkj : k < j
                · rw [if_pos hkj, if_pos (by omega)]
                · rw [if_neg hkj, if_neg (by omega)]
          case measure => simp [intOf]; omega
        · have ej : j = t.length := by omega
          subst ej
          obtain ⟨W1, rfl⟩ : ∃ W1 : World, W1 = wr := ⟨_, rfl⟩
          have hKF := HKF.out.up HBj.out
          obtain ⟨kd, hkd, hke⟩ := hKF.kno.data
          obtain ⟨many, hm⟩ := hKF.fst
          have HKe := Lib.hid hke
          have HKF1 := Lib.hid hKF
          have HKD := Lib.hid hkd
          have f0 : W1.cell? ⟨w1.heap.size, 0, none⟩ = some (.slice (some ⟨g, 0, none⟩) t.length fc) := by rw [cell_of_row W1 _ 0 _ _ _ hm]; rfl
          have f1 := hKF.elem hpos
          have HLi := Lib.hid (listed_any hKF.ok t.length W0.heap.size (fun i _ => rfl) (by omega) (h 0 + 1) 0 (.slice none 0 0) [] _ W1 (by omega) (hKF.sub 0 hpos) hkd (Nat.le_of_lt (Array.getElem?_eq_some_iff.1 hm).1) ⟨by simp [flat5], .inl ⟨rfl, rfl⟩⟩ HAj.out (by have := hKF.len; simpa using this) ⟨_, _, rfl⟩)
          clear hKF hkd hke hm
          have HF : Hid (∀ e W2, ListedPost F h kd t.length w1.heap.size W0.heap.size 0 [] (fun k => if k < t.length then -1 else 0) (.slice none 0 0) W1 e W2 → ∃ a m c, e = .returned (.slice a m c) ∧ ChangedPost t Good w (.returned (.tuple #[.slice a m c, .slice (some ⟨W0.heap.size, 0, none⟩) t.length t.length, .bool true])) W2) := by
            rintro e W2 ⟨a', c', rfl, hown, _, hA, hl⟩
            refine ⟨_, _, _, rfl, _, _, _, _, _, _, _, rfl, fun _ => ⟨HR.out, F, S, h, nd, HGd.out, ?_, rfl, ?_⟩, ?_⟩
            · have o := HKF1.out.ok
              have hS : ∀ y, y ∈ F.all h 0 → S y := fun y hy => o.all_mem (HKF1.out.sub 0 hpos) hy
              refine ⟨(F.all h 0).map (entOf F h kd), by simp, nsl_own (by simpa using hown) ?_ ?_, ?_⟩
              · have := HKF1.out.len
                simp [maxLen]; omega
              · intro x hx
                obtain ⟨y, hy, rfl⟩ := List.mem_map.1 hx
                obtain ⟨aa, ac, e⟩ := HKe.out y (hS y hy)
                have b := HKF1.out.ndb y (hS y hy)
                obtain ⟨cur3, hc3, _⟩ := HAj.out
                obtain ⟨_, _, _, _, hA, _⟩ := (HKD.out.lturn (v := .slice none 0 0) (n := 0) (xs := []) hl ⟨by simp, .inl ⟨rfl, rfl⟩⟩ hc3).node y (hS y hy)
                have hal : (F.all h y).length ≤ 100000 := Nat.le_trans (all_sub_len o _ (Nat.le_refl _) hy) HKF1.out.len
                have hat : ASl W2 W2.heap.size (kd y).aa (kd y).attrs := asl_own2 hA (by rw [e]; exact b.len) (by rw [e]; exact b.ats)
                refine ⟨?_, ⟨?_, ?_⟩, ?_, ?_, hat⟩
                · show _ ≤ (kd y).kind ∧ (kd y).kind ≤ _; rw [e]; exact b.kind
                · show _ ≤ ((F.all h y).length : Int); omega
                · show ((F.all h y).length : Int) ≤ _; omega
                · show (kd y).tag.size ≤ _; rw [e]; exact b.tag
                · show (kd y).text.size ≤ _; rw [e]; exact b.text
              · unfold outL
                rw [List.map_map]
                refine List.map_congr_left fun y hy => ?_
                obtain ⟨aa, ac, e⟩ := HKe.out y (hS y hy)
                show strip { kd y with size := _ } = _
                rw [e]; rfl
            · have e1 := atrow_rsl hA
              have e2 : (List.range t.length).map (atF (F.all h 0) ([] : List Nd).length (fun k => if k < t.length then -1 else 0)) = placeL F h t.length := by
                unfold placeL
                refine List.map_congr_left fun j hj => ?_
                unfold atF
                have e4 : (fun k => if k < t.length then (-1 : Int) else 0) j = -1 := if_pos (List.mem_range.1 hj)
                rw [e4]; rfl
              rw [e2] at e1
              exact e1
            · have hb := bnext HBw.out HBj.out
              refine ⟨hl.os.trans hb.os, hl.tape.trans hb.tape, hl.output.trans hb.output, Nat.le_trans hb.size hl.size, fun b h1 => ?_⟩
              have := HBw.out.size
              rw [hl.block b (by have := hb.size; omega) (by simp [Value.ownBlock]) (by omega)]
              exact hb.block b h1
          go_wp2_with fail
          refine HLi.out.mono ?_
          intro e W2 hp
          obtain ⟨a', m', c', rfl, hP⟩ := HF.out e W2 hp
          have HP := Lib.hid hP
          clear hp hP
          go_wp2_with fail
          go_ret3
          exact HP.out
end Go.Proofs.Ytmhhfljbocbolaa

namespace Go.Proofs.Ytmhhfljbocbolaa
open Go.RowKit
set_option linter.unusedVariables false

theorem flat2_snoc (l : List At2) (x : At2) : flat2 (l ++ [x]) = flat2 l ++ [.string x.key, .string x.val] := by simp [flat2]
theorem new2c (W : World) (O : Obj) (a b : Value) (T : TypeId) : ∀ j u, [a, b][j]? = some u → ((W.alloc O).alloc (.cells #[a, b] T)).cell? ((⟨W.heap.size + 1, 0, none⟩ : Addr).add j) = some u := by
  intro j u hj
  have e : ((W.alloc O).alloc (.cells #[a, b] T)).heap[W.heap.size + 1]? = some (.cells #[a, b] T (0, 0)) := by
    have := heap_alloc_new (W.alloc O) (.cells #[a, b] T)
    simpa using this
  rw [Addr.add_lit, Nat.zero_add, cell_of_row _ _ j _ _ _ e]
  rw [← hj]
  simp
theorem st5 {W : World} {R : Nat} {a0 a1 a2 a3 a4 : Value} {T : TypeId} (h : W.heap[R]? = some (.cells #[a0, a1, a2, a3, a4] T (0, 0))) (v0 v1 v2 v3 v4 : Value) :
    (((((W.setCell ⟨R, 0, none⟩ v0).setCell ⟨R, 1, none⟩ v1).setCell ⟨R, 2, none⟩ v2).setCell ⟨R, 3, none⟩ v3).setCell ⟨R, 4, none⟩ v4).heap[R]? = some (.cells #[v0, v1, v2, v3, v4] T (0, 0)) := by
  have h0 := heap_setCell_same W R 0 _ _ v0 h
  have h1 := heap_setCell_same _ R 1 _ _ v1 h0
  have h2 := heap_setCell_same _ R 2 _ _ v2 h1
  have h3 := heap_setCell_same _ R 3 _ _ v3 h2
  have h4 := heap_setCell_same _ R 4 _ _ v4 h3
  simpa only [List.setIfInBounds_toArray, List.set_cons_zero, List.set_cons_succ] using h4
theorem below5 {B R : Nat} {w W : World} (h : Below B w W) (hR : B ≤ R) (v0 v1 v2 v3 v4 : Value) : Below B w (((((W.setCell ⟨R, 0, none⟩ v0).setCell ⟨R, 1, none⟩ v1).setCell ⟨R, 2, none⟩ v2).setCell ⟨R, 3, none⟩ v3).setCell ⟨R, 4, none⟩ v4) :=
  ((((h.setCell hR _).setCell hR _).setCell hR _).setCell hR _).setCell hR _

theorem flatA_at3 {l : List At2} : ∀ {i : Nat} (hi : i < l.length), (flatA l)[i * 3]? = some (.string ⟨#[]⟩) ∧ (flatA l)[i * 3 + 1]? = some (.string l[i].key) ∧ (flatA l)[i * 3 + 2]? = some (.string l[i].val) := by
  induction l with
  | nil => intro i hi; simp at hi
  | cons x l ih =>
    intro i hi
    have e : flatA (x :: l) = [.string ⟨#[]⟩, .string x.key, .string x.val] ++ flatA l := rfl
    rw [e]
    match i with
    | 0 => exact ⟨rfl, rfl, rfl⟩
    | i + 1 =>
      have := ih (i := i) (by simpa using hi)
      have e3 : (i + 1) * 3 = i * 3 + 3 := by omega
      rw [e3]
      simpa using this

/-- What a right tree says of a node. -/
structure NdG (x : Nd) : Prop where
  kind : x.kind = 1 ∨ x.kind = 2 ∨ x.kind = 4 ∨ x.kind = 5 ∨ x.kind = 3
  text : x.kind = 1 ∨ x.kind = 3 → x.text = ⟨#[]⟩
  tag : x.kind ≠ 3 → x.tag = ⟨#[]⟩ ∧ x.attrs = []
  few : x.attrs.length ≤ 1000

def KindOfPost (x : Nd) (w : World) (e : Ending) (w' : World) : Prop :=
  ∃ a c, e = .returned (.agg #[.int .i64 x.kind, .string x.tag, .string x.text, .slice a x.attrs.length c, .int .i64 0]) ∧ w'.ownsRow w.heap.size 96 2 (.slice a x.attrs.length c) x.attrs.length (flat2 x.attrs) ∧ Below w.heap.size w w'

section
variable (g : Nat) (w : World)
set_option maxRecDepth 100000
set_option maxHeartbeats 2000000

theorem kindOf_1 (c5 : w.cell? ⟨g, 5, none⟩ = some (.int .u32 2)) : Calls Try.prog 82 #[.pointer (some ⟨g, 0, none⟩)] w (KindOfPost ⟨1, ⟨#[]⟩, ⟨#[]⟩, none, 0, [], 0⟩ w) := by
  have hg : g < w.heap.size := World.block_lt_of_cell? w _ c5
  go_enter Try.func82, Try.ntmps82
  go_wp2_with fail
  (try simp only [Exit.inBlock, Exit.then])
  refine bodyPost_ret (results_cell_row rfl _ _ w.heap.size _ _ _ _ rfl (heap_alloc_new _ _) Try.underlying47 rfl (by kernel_rfl)) rfl ?_
  exact ⟨none, 0, rfl, World.ownsRow_nil _ _ _ _, (Below.refl _ _).alloc (Nat.le_refl _) _⟩

theorem kindOf_2 (d : ByteArray) (c5 : w.cell? ⟨g, 5, none⟩ = some (.int .u32 5)) (c7 : w.cell? ⟨g, 7, none⟩ = some (.string d)) : Calls Try.prog 82 #[.pointer (some ⟨g, 0, none⟩)] w (KindOfPost ⟨2, ⟨#[]⟩, d, none, 0, [], 0⟩ w) := by
  have hg : g < w.heap.size := World.block_lt_of_cell? w _ c5
  go_enter Try.func82, Try.ntmps82
  go_wp2_with fail
  (try simp only [Exit.inBlock, Exit.then])
  refine bodyPost_ret (results_cell_row rfl _ _ w.heap.size _ _ _ _ rfl (heap_alloc_new _ _) Try.underlying47 rfl (by kernel_rfl)) rfl ?_
  exact ⟨none, 0, rfl, World.ownsRow_nil _ _ _ _, (Below.refl _ _).alloc (Nat.le_refl _) _⟩

theorem kindOf_4 (d : ByteArray) (c5 : w.cell? ⟨g, 5, none⟩ = some (.int .u32 1)) (c7 : w.cell? ⟨g, 7, none⟩ = some (.string d)) : Calls Try.prog 82 #[.pointer (some ⟨g, 0, none⟩)] w (KindOfPost ⟨4, ⟨#[]⟩, d, none, 0, [], 0⟩ w) := by
  have hg : g < w.heap.size := World.block_lt_of_cell? w _ c5
  go_enter Try.func82, Try.ntmps82
  go_wp2_with fail
  (try simp only [Exit.inBlock, Exit.then])
  refine bodyPost_ret (results_cell_row rfl _ _ w.heap.size _ _ _ _ rfl (heap_alloc_new _ _) Try.underlying47 rfl (by kernel_rfl)) rfl ?_
  exact ⟨none, 0, rfl, World.ownsRow_nil _ _ _ _, (Below.refl _ _).alloc (Nat.le_refl _) _⟩

theorem kindOf_5 (d : ByteArray) (c5 : w.cell? ⟨g, 5, none⟩ = some (.int .u32 4)) (c7 : w.cell? ⟨g, 7, none⟩ = some (.string d)) : Calls Try.prog 82 #[.pointer (some ⟨g, 0, none⟩)] w (KindOfPost ⟨5, ⟨#[]⟩, d, none, 0, [], 0⟩ w) := by
  have hg : g < w.heap.size := World.block_lt_of_cell? w _ c5
  go_enter Try.func82, Try.ntmps82
  go_wp2_with fail
  (try simp only [Exit.inBlock, Exit.then])
  refine bodyPost_ret (results_cell_row rfl _ _ w.heap.size _ _ _ _ rfl (heap_alloc_new _ _) Try.underlying47 rfl (by kernel_rfl)) rfl ?_
  exact ⟨none, 0, rfl, World.ownsRow_nil _ _ _ _, (Below.refl _ _).alloc (Nat.le_refl _) _⟩

theorem kindOf_3 (l : List At2) (hl : l.length ≤ 1000) (tg : ByteArray) (aa : Option Addr) (ac : Nat) (B : Nat) (c5 : w.cell? ⟨g, 5, none⟩ = some (.int .u32 3)) (c7 : w.cell? ⟨g, 7, none⟩ = some (.string tg)) (c9 : w.cell? ⟨g, 9, none⟩ = some (.slice aa l.length ac)) (hown : w.ownsRow B 143 3 (.slice aa l.length ac) l.length (flatA l)) :
    Calls Try.prog 82 #[.pointer (some ⟨g, 0, none⟩)] w (KindOfPost ⟨3, tg, ⟨#[]⟩, none, 0, l, 0⟩ w) := by
  obtain ⟨i0, hinf, hz0, hz1, hz2⟩ := info_parts Try.infoAt
  have hg : g < w.heap.size := World.block_lt_of_cell? w _ c5
  have HO := Lib.hid hown
  clear hown
  go_enter Try.func82, Try.ntmps82
  go_wp2_with fail
  go_loopw [46] (fun y wr => ∃ (k : Nat) (av : Option Addr) (cv : Nat), k ≤ l.length ∧ y = .int .i64 k ∧
      wr.heap[w.heap.size + 1]? = some (.cells #[.int .i64 3, .string tg, .string ⟨#[]⟩, .slice av k cv, .int .i64 0] 47 (0, 0)) ∧
      wr.heap[w.heap.size]? = some (.cells #[.int .i64 0, .string ⟨#[]⟩, .string ⟨#[]⟩, .slice none 0 0, .int .i64 0] 47 (0, 0)) ∧
      wr.ownsRow (w.heap.size + 2) 96 2 (.slice av k cv) k (flat2 (l.take k)) ∧ Below w.heap.size w wr) (fun y _ => l.length - (intOf y).toNat)
  case atStart =>
    refine ⟨0, none, 0, by omega, rfl, ?_, ?_, World.ownsRow_nil _ _ _ _, ((Below.refl _ _).alloc (Nat.le_refl _) _).alloc (by simp) _⟩
    · have := heap_alloc_new (w.alloc (.cells #[.int .i64 0, .string ⟨#[]⟩, .string ⟨#[]⟩, .slice none 0 0, .int .i64 0] 47)) (.cells #[.int .i64 3, .string tg, .string ⟨#[]⟩, .slice none 0 0, .int .i64 0] 47)
      simpa using this
    · rw [Below.heap_alloc _ _ _ (by simp), heap_alloc_new]
  case round =>
    obtain ⟨k, av, cv, hk, rfl, hblk, hres, hrow, hb⟩ := hrel
    have HB := Lib.hid hb
    have HW := Lib.hid hrow
    have HBl := Lib.hid hblk
    have HRs := Lib.hid hres
    have hsz : w.heap.size + 1 < wr.heap.size := (Array.getElem?_eq_some_iff.1 hblk).1
    by_cases hlt : k < l.length
    · obtain ⟨ab, rfl⟩ : ∃ ab, aa = some ⟨ab, 0, none⟩ := by
        rcases HO.out.2 with ⟨_, h0⟩ | ⟨q, cap, cur, hv, _⟩
        · omega
        · cases hv; exact ⟨q, rfl⟩
      have hab := (HO.out.lt ab rfl).2
      have hcell : ∀ j v, (flatA l)[j]? = some v → wr.cell? ⟨ab, j, none⟩ = some v := by
        intro j v hj
        have := HO.out.cells (g := ab) rfl j v hj
        rw [Addr.add_lit, Nat.zero_add] at this
        exact (hb.cell (p := ⟨ab, j, none⟩) hab).trans this
      obtain ⟨f0, f1, f2⟩ := flatA_at3 hlt
      have g0 := hcell _ _ f0
      have g1 := hcell _ _ f1
      have g2 := hcell _ _ f2
      obtain ⟨y, hy⟩ : ∃ y, y = l[k] := ⟨_, rfl⟩
      have HY : Hid (l.take (k + 1) = l.take k ++ [y]) := by rw [Hid, List.take_succ_eq_append_getElem hlt, hy]
      rw [← hy] at g1 g2
      have c3 : wr.cell? ⟨w.heap.size + 1, 3, none⟩ = some (.slice av k cv) := cell_of_row wr _ 3 _ _ _ hblk
      clear hcell f0 f1 f2 hy hblk hres hrow hb
      have HN := Lib.hid (new2c wr (.cells #[.string ⟨#[]⟩, .string y.key, .string y.val] 143) (.string y.key) (.string y.val) 96)
      go_wp2_with (at_builtin; refine wpList_append_own _ rfl _ _ 45 rfl (w.heap.size + 2) 96 i0 (.agg #[.string ⟨#[]⟩, .string ⟨#[]⟩]) 2 32 Try.underlying45 hinf hz0 hz1 hz2 rfl (by decide) (.slice av k cv) k (flat2 (l.take k)) rfl ((HW.out.alloc _).alloc _) ⟨wr.heap.size + 1, 0, none⟩ 1 1 [.string y.key, .string y.val] rfl rfl HN.out (by intro u hu; simp at hu; rcases hu with rfl | rfl <;> rfl) (by unfold maxLen; omega) (by omega) (by simp; omega) ?_)
      intro v' w3 hown' hgrow _
      obtain ⟨a3, c3', hv2⟩ := own_slice hown'
      rw [hv2] at hown' ⊢
      have hne1 : some (w.heap.size + 1) ≠ (Value.slice av k cv).ownBlock := fun e => by have := (HW.out.lt _ e.symm).1; omega
      have hne0 : some w.heap.size ≠ (Value.slice av k cv).ownBlock := fun e => by have := (HW.out.lt _ e.symm).1; omega
      have hk1 : w3.heap[w.heap.size + 1]? = some (.cells #[.int .i64 3, .string tg, .string ⟨#[]⟩, .slice av k cv, .int .i64 0] 47 (0, 0)) := by
        rw [hgrow.block (w.heap.size + 1) (by simp; omega) hne1, Below.heap_alloc _ _ _ (by simp; omega), Below.heap_alloc _ _ _ hsz]
        exact HBl.out
      have hk0 : w3.heap[w.heap.size]? = some (.cells #[.int .i64 0, .string ⟨#[]⟩, .string ⟨#[]⟩, .slice none 0 0, .int .i64 0] 47 (0, 0)) := by
        rw [hgrow.block w.heap.size (by simp; omega) hne0, Below.heap_alloc _ _ _ (by simp; omega), Below.heap_alloc _ _ _ (by omega)]
        exact HRs.out
      have hb1 : Below w.heap.size w w3 := ((HB.out.alloc HB.out.size _).alloc (by simp; omega) _).grown hgrow (by simp; omega) (fun q hq => by have := (HW.out.lt q hq).1; omega)
      have d3 := cell_of_row w3 _ 3 _ _ _ hk1
      have e3 := frozen_of_row w3 _ 3 _ _ hk1
      have HK1 := Lib.hid hk1
      have HK0 := Lib.hid hk0
      have HB1 := Lib.hid hb1
      have HO1 : Hid (w3.ownsRow (w.heap.size + 2) 96 2 (.slice a3 (k + 1) c3') (k + 1) (flat2 (l.take (k + 1)))) := by
        rw [Hid, HY.out, flat2_snoc]; exact hown'
      clear hown' hgrow hv2 hk1 hk0 hb1 hne1 hne0 c3
      go_wp2_with fail
      go_roundw
      case rel =>
        refine ⟨k + 1, a3, c3', by omega, by go_num, ?_, ?_, ownsRow_setCell_below HO1.out (by simp) _, HB1.out.setCell (by simp) _⟩
        · have := heap_setCell_same w3 (w.heap.size + 1) 3 _ _ (.slice a3 (k + 1) c3') HK1.out
          simpa using this
        · rw [heap_setCell_other _ _ _ _ (by simp)]
          exact HK0.out
      case measure => simp [intOf]; omega
    · have e : k = l.length := by omega
      subst e
      rw [List.take_length] at hrow HW
      have e0 := cell_of_row wr _ 0 _ _ _ hblk
      have r0 := cell_of_row wr _ 0 _ _ _ hres
      have f0 := frozen_of_row wr _ 0 _ _ hres
      have e1 := cell_of_row wr _ 1 _ _ _ hblk
      have r1 := cell_of_row wr _ 1 _ _ _ hres
      have f1 := frozen_of_row wr _ 1 _ _ hres
      have e2 := cell_of_row wr _ 2 _ _ _ hblk
      have r2 := cell_of_row wr _ 2 _ _ _ hres
      have f2 := frozen_of_row wr _ 2 _ _ hres
      have e3 := cell_of_row wr _ 3 _ _ _ hblk
      have r3 := cell_of_row wr _ 3 _ _ _ hres
      have f3 := frozen_of_row wr _ 3 _ _ hres
      have e4 := cell_of_row wr _ 4 _ _ _ hblk
      have r4 := cell_of_row wr _ 4 _ _ _ hres
      have f4 := frozen_of_row wr _ 4 _ _ hres
      simp only [List.getElem?_toArray, List.getElem?_cons_zero, List.getElem?_cons_succ] at e0 e1 e2 e3 e4 r0 r1 r2 r3 r4
      clear hb hblk hres hrow
      go_wp2_with fail
      have h0 := heap_setCell_same wr w.heap.size 0 _ _ (.int .i64 3) HRs.out
      have h1 := heap_setCell_same _ w.heap.size 1 _ _ (.string tg) h0
      have h2 := heap_setCell_same _ w.heap.size 2 _ _ (.string ⟨#[]⟩) h1
      have h3 := heap_setCell_same _ w.heap.size 3 _ _ (.slice av l.length cv) h2
      have h4 := heap_setCell_same _ w.heap.size 4 _ _ (.int .i64 0) h3
      simp only [List.setIfInBounds_toArray, List.set_cons_zero, List.set_cons_succ] at h4
      (try simp only [Exit.inBlock, Exit.then])
      refine bodyPost_ret (results_cell_row rfl _ _ w.heap.size _ _ _ _ rfl h4 Try.underlying47 rfl (by kernel_rfl)) rfl ?_
      refine ⟨av, cv, rfl, ?_, ((((HB.out.setCell (Nat.le_refl _) _).setCell (Nat.le_refl _) _).setCell (Nat.le_refl _) _).setCell (Nat.le_refl _) _).setCell (Nat.le_refl _) _⟩
      exact own_base (ownsRow_setCell_below (ownsRow_setCell_below (ownsRow_setCell_below (ownsRow_setCell_below (ownsRow_setCell_below HW.out (by simp) _) (by simp) _) (by simp) _) (by simp) _) (by simp) _) (by omega)


end
theorem kindOf_any {B : Nat} {S : Nat → Prop} {bl : Nat → Nat} {st : Nat → Dn} {w : World} (hD : Dom w B S bl st) {i : Nat} (hi : S i) {x : Nd} (hs : SelfOk x (st i)) (hx : NdG x) :
    Calls Try.prog 82 #[.pointer (some ⟨bl i, 0, none⟩)] w (KindOfPost x w) := by
  obtain ⟨_, _, _, _, _, _, c5, c7, aa, ac, c9, hown⟩ := hD.cells hi
  obtain ⟨e1, e2, e3⟩ := hs
  obtain ⟨hk, ht, hg, hf⟩ := hx
  obtain ⟨k, tg, tx, ax, cx, l, sz⟩ := x
  rw [e1] at c5; rw [e2] at c7; rw [e3] at c9 hown
  dsimp only at hk ht hg hf
  rcases hk with rfl | rfl | rfl | rfl | rfl
  · obtain ⟨rfl, rfl⟩ := hg (by decide)
    obtain rfl := ht (.inl rfl)
    exact kindOf_1 _ w c5
  · obtain ⟨rfl, rfl⟩ := hg (by decide)
    exact kindOf_2 _ w tx c5 c7
  · obtain ⟨rfl, rfl⟩ := hg (by decide)
    exact kindOf_4 _ w tx c5 c7
  · obtain ⟨rfl, rfl⟩ := hg (by decide)
    exact kindOf_5 _ w tx c5 c7
  · obtain rfl := ht (.inr rfl)
    exact kindOf_3 _ w l hf tg aa ac B c5 c7 c9 hown
end Go.Proofs.Ytmhhfljbocbolaa

namespace Go.Proofs.Ytmhhfljbocbolaa
open Go.RowKit
set_option linter.unusedVariables false

section
variable (w : World)

theorem wp_append_pn {o : Oper} {a : Act} {K : Act → World → Prop} {Q : Exit → Act → World → Prop} (s x : Operand)
    (ho : o.op = .call { callee := .builtin .append, args := #[s, x], argTypes := #[60, 60] }) (bl : Nat → Nat)
    (base : Nat) (v : Value) (xs : List Nat) (hs : a.eval s = v) (hown : w.ownsRow base 69 1 v xs.length (ptrs bl xs))
    (A : Option Addr) (m c : Nat) (ys : List Nat) (hm : m = ys.length) (hx : a.eval x = .slice A m c) (hr : RSl w w.heap.size A (ptrs bl ys)) (hlen : xs.length + ys.length ≤ 1000000) (hbase : base ≤ w.heap.size)
    (h : ∀ a' c' w', w'.ownsRow base 69 1 (.slice a' (xs ++ ys).length c') (xs ++ ys).length (ptrs bl (xs ++ ys)) → w.grownBy w' v.ownBlock → ((Value.slice a' (xs ++ ys).length c').ownBlock = v.ownBlock ∨ (Value.slice a' (xs ++ ys).length c').ownBlock = some w.heap.size) → K (a.put o.dst (.slice a' (xs ++ ys).length c')) w') :
    Oper.wp Try.prog o a w K Q := by
  subst hm
  obtain ⟨i0, hinf, hz0, hz1, hz2⟩ := info_parts Try.infoP
  have hR := hr.reads
  rw [ptrs_length] at hR
  refine wp_append_any w s x 60 ho base 69 i0 (.pointer none) 1 8 Try.underlying60 hinf hz0 hz1 hz2 rfl (by decide) v xs.length (ptrs bl xs) hs hown w.heap.size A ys.length c (ptrs bl ys) hx hR (one_ptrs' bl ys) (by unfold maxLen; omega) (by omega) hbase ?_
  intro v' w' h2 h3 h4
  obtain ⟨a', c', rfl⟩ := own_slice h2
  have e : (xs ++ ys).length = xs.length + ys.length := List.length_append
  rw [← ptrs_append] at h2
  rw [← e] at h2 h4 ⊢
  exact h a' c' w' h2 h3 h4

theorem step_append_pn {ops : Array Oper} {o : Oper} {a : Act} {K : Act → World → Prop} {Q : Exit → Act → World → Prop} {E : Prop} (hgd : o.guard = none) (s x : Operand)
    (ho : o.op = .call { callee := .builtin .append, args := #[s, x], argTypes := #[60, 60] }) (bl : Nat → Nat)
    (base : Nat) (v : Value) (xs : List Nat) (hs : a.eval s = v) (hown : w.ownsRow base 69 1 v xs.length (ptrs bl xs))
    (A : Option Addr) (m c : Nat) (ys : List Nat) (hm : m = ys.length) (hx : a.eval x = .slice A m c) (hr : RSl w w.heap.size A (ptrs bl ys)) (hlen : xs.length + ys.length ≤ 1000000) (hbase : base ≤ w.heap.size)
    (h : ∀ a' c' w', w'.ownsRow base 69 1 (.slice a' (xs ++ ys).length c') (xs ++ ys).length (ptrs bl (xs ++ ys)) → w.grownBy w' v.ownBlock → ((Value.slice a' (xs ++ ys).length c').ownBlock = v.ownBlock ∨ (Value.slice a' (xs ++ ys).length c').ownBlock = some w.heap.size) → K (a.put o.dst (.slice a' (xs ++ ys).length c')) w') :
    if Region.wanted o (yielded ops a.tmps) = true then Oper.wp Try.prog o a w K Q else E := by
  have hw : Region.wanted o (yielded ops a.tmps) = true := by simp [Region.wanted, hgd]
  rw [if_pos hw]
  exact wp_append_pn w s x ho bl base v xs hs hown A m c ys hm hx hr hlen hbase h

theorem wpList_append_pn {ops : Array Oper} {rest : List Oper} {o : Oper} {a : Act} {Q : Exit → Act → World → Prop} (hgd : o.guard = none) (s x : Operand)
    (ho : o.op = .call { callee := .builtin .append, args := #[s, x], argTypes := #[60, 60] }) (bl : Nat → Nat)
    (base : Nat) (v : Value) (xs : List Nat) (hs : a.eval s = v) (hown : w.ownsRow base 69 1 v xs.length (ptrs bl xs))
    (A : Option Addr) (m c : Nat) (ys : List Nat) (hm : m = ys.length) (hx : a.eval x = .slice A m c) (hr : RSl w w.heap.size A (ptrs bl ys)) (hlen : xs.length + ys.length ≤ 1000000) (hbase : base ≤ w.heap.size)
    (h : ∀ a' c' w', w'.ownsRow base 69 1 (.slice a' (xs ++ ys).length c') (xs ++ ys).length (ptrs bl (xs ++ ys)) → w.grownBy w' v.ownBlock → ((Value.slice a' (xs ++ ys).length c').ownBlock = v.ownBlock ∨ (Value.slice a' (xs ++ ys).length c').ownBlock = some w.heap.size) → wpList Try.prog ops Q rest (a.put o.dst (.slice a' (xs ++ ys).length c')) w') :
    wpList Try.prog ops Q (o :: rest) a w :=
  wpList_plain hgd fun _ hK => wp_append_pn w s x ho bl base v xs hs hown A m c ys hm hx hr hlen hbase fun a' c' w' h2 h3 h4 => hK _ _ (h a' c' w' h2 h3 h4)
end


/-- Nothing that lies there has turned but two rows. -/
structure RTurn (r s : Option Nat) (w w' : World) : Prop where
  os : w'.os = w.os
  tape : w'.tape = w.tape
  output : w'.output = w.output
  size : w.heap.size ≤ w'.heap.size
  block : ∀ b, b < w.heap.size → some b ≠ r → some b ≠ s → w'.heap[b]? = w.heap[b]?
theorem RTurn.refl (r s : Option Nat) (w : World) : RTurn r s w w := ⟨rfl, rfl, rfl, Nat.le_refl _, fun _ _ _ _ => rfl⟩
def Same (B : Nat) (r' r : Option Nat) : Prop := r' = r ∨ ∃ x, r' = some x ∧ B ≤ x
theorem Same.trans {B C : Nat} {a b c : Option Nat} (h : Same B b a) (k : Same C c b) (hBC : B ≤ C) : Same B c a := by
  rcases k with rfl | ⟨x, e, hx⟩
  · exact h
  · exact .inr ⟨x, e, by omega⟩
theorem RTurn.trans {r s r' s' : Option Nat} {a b c : World} (h : RTurn r s a b) (k : RTurn r' s' b c) (hr : Same a.heap.size r' r) (hs : Same a.heap.size s' s) : RTurn r s a c := by
  have key : ∀ {x y : Option Nat}, Same a.heap.size x y → ∀ b, b < a.heap.size → some b ≠ y → some b ≠ x := by
    intro x y hxy b hb hy
    rcases hxy with rfl | ⟨z, e, hz⟩
    · exact hy
    · rw [e]; intro e2; cases e2; omega
  exact ⟨k.os.trans h.os, k.tape.trans h.tape, k.output.trans h.output, Nat.le_trans h.size k.size, fun q h1 h2 h3 => (k.block q (Nat.lt_of_lt_of_le h1 h.size) (key hr q h1 h2) (key hs q h1 h3)).trans (h.block q h1 h2 h3)⟩
theorem RTurn.of_below {r s : Option Nat} {a b : World} (h : Below a.heap.size a b) : RTurn r s a b := ⟨h.os, h.tape, h.output, h.size, fun q h1 _ _ => h.block q h1⟩
theorem RTurn.of_grown1 {r s : Option Nat} {a b : World} (h : a.grownBy b r) : RTurn r s a b := ⟨h.os, h.tape, h.output, h.size, fun q h1 h2 _ => h.block q h1 h2⟩
theorem RTurn.of_grown2 {r s : Option Nat} {a b : World} (h : a.grownBy b s) : RTurn r s a b := ⟨h.os, h.tape, h.output, h.size, fun q h1 _ h2 => h.block q h1 h2⟩
theorem RTurn.set {r s : Option Nat} {a b : World} (h : RTurn r s a b) {p : Addr} (hp : Same a.heap.size (some p.block) r) (u : Value) : RTurn r s a (b.setCell p u) :=
  ⟨h.os, h.tape, h.output, by simpa [World.setCell] using h.size, fun q h1 h2 h3 => (Below.heap_setCell _ _ _ _ (by
    rcases hp with e | ⟨x, e, hx⟩
    · rw [← e] at h2; intro e2; exact h2 (by rw [e2])
    · cases e; intro e2; omega)).trans (h.block q h1 h2 h3)⟩
theorem RTurn.below {r s : Option Nat} {a b : World} (h : RTurn r s a b) {B : Nat} (hB : B ≤ a.heap.size) (hr : ∀ x, r = some x → B ≤ x) (hs : ∀ x, s = some x → B ≤ x) : Below B a b :=
  ⟨h.os, h.tape, h.output, h.size, fun q hq => h.block q (by omega) (fun e => by have := hr q e.symm; omega) (fun e => by have := hs q e.symm; omega)⟩

theorem own_two {w : World} {B1 B2 e1 e2 s1 s2 n1 n2 : Nat} {v1 v2 : Value} {x1 x2 : List Value} (h1 : w.ownsRow B1 e1 s1 v1 n1 x1) (h2 : w.ownsRow B2 e2 s2 v2 n2 x2) (hne : e1 ≠ e2) : v2.ownBlock = none ∨ v2.ownBlock ≠ v1.ownBlock := by
  cases hb : v2.ownBlock with
  | none => exact .inl rfl
  | some b =>
    refine .inr fun e => ?_
    rcases h2.2 with ⟨e3, _⟩ | ⟨g, _, cu, e3, _, e5, _⟩
    · rw [e3] at hb; simp [Value.ownBlock] at hb
    · rw [e3] at hb
      simp [Value.ownBlock] at hb
      subst hb
      exact own_ne h1 e5 hne e.symm

/-- A row of another type than the two that turn. -/
theorem own_rturn {w w' : World} {B e size n : Nat} {v : Value} {xs : List Value} {V U : Value} {B1 B2 n1 n2 : Nat} {x1 x2 : List Value} (hl : RTurn V.ownBlock U.ownBlock w w') (hV : w.ownsRow B1 47 5 V n1 x1) (hU : w.ownsRow B2 69 1 U n2 x2) (ho : w.ownsRow B e size v n xs) (h1 : 47 ≠ e) (h2 : 69 ≠ e) : w'.ownsRow B e size v n xs := by
  refine ⟨ho.1, ?_⟩
  rcases ho.2 with h3 | ⟨g, cap, cur, hv, hg, hh, r3⟩
  · exact .inl h3
  · refine .inr ⟨g, cap, cur, hv, hg, ?_, r3⟩
    rw [hl.block g (Array.getElem?_eq_some_iff.1 hh).1 (fun e2 => own_ne hV hh h1 e2.symm) (fun e2 => own_ne hU hh h2 e2.symm)]
    exact hh

theorem Prog.rturn {F : Fo} {S : Nat → Prop} {nd : Nat → Nd} {B : Nat} {bl : Nat → Nat} {st : Nat → Dn} {w w' : World} (h : Prog F S nd B bl st w) {V U : Value} {B1 B2 n1 n2 : Nat} {x1 x2 : List Value} (hl : RTurn V.ownBlock U.ownBlock w w') (hV : w.ownsRow B1 47 5 V n1 x1) (hU : w.ownsRow B2 69 1 U n2 x2) : Prog F S nd B bl st w' := by
  refine ⟨⟨fun i hi => ?_, h.dom.inj⟩, h.fit, h.self⟩
  obtain ⟨hB, aa, ac, hh, ho⟩ := h.dom.node i hi
  refine ⟨hB, aa, ac, ?_, own_rturn hl hV hU ho (by decide) (by decide)⟩
  rw [hl.block _ (Array.getElem?_eq_some_iff.1 hh).1 (fun e2 => own_ne hV hh (by decide) e2.symm) (fun e2 => own_ne hU hh (by decide) e2.symm)]
  exact hh

/-- An entry's attributes are a row of one's own. -/
def OwnE (B : Nat) (w : World) (e : Nd) : Prop := w.ownsRow B 96 2 (.slice e.aa e.attrs.length e.ac) e.attrs.length (flat2 e.attrs)
theorem OwnE.rturn {B : Nat} {w w' : World} {e : Nd} (h : OwnE B w e) {V U : Value} {B1 B2 n1 n2 : Nat} {x1 x2 : List Value} (hl : RTurn V.ownBlock U.ownBlock w w') (hV : w.ownsRow B1 47 5 V n1 x1) (hU : w.ownsRow B2 69 1 U n2 x2) : OwnE B w' e :=
  own_rturn hl hV hU h (by decide) (by decide)

def strEnt (F : Fo) (h : Nat → Nat) (nd : Nat → Nd) (y : Nat) : Nd := strip { nd y with size := ((F.all h y).length : Int) }

def TakenPost (F : Fo) (h : Nat → Nat) (nd : Nat → Nd) (B : Nat) (bl : Nat → Nat) (x : Nat) (ds : List Nd) (L : List Nat) (v u : Value) (w : World) (e : Ending) (w' : World) : Prop :=
  ∃ es a c a2 c2, e = .returned (.tuple #[.slice a (ds ++ es).length c, .slice a2 (L ++ F.all h x).length c2]) ∧ es.map strip = (F.all h x).map (strEnt F h nd) ∧ (∀ e ∈ es, OwnE B w' e) ∧
    w'.ownsRow B 47 5 (.slice a (ds ++ es).length c) (ds ++ es).length (flat5 (ds ++ es)) ∧
    w'.ownsRow B 69 1 (.slice a2 (L ++ F.all h x).length c2) (L ++ F.all h x).length (ptrs bl (L ++ F.all h x)) ∧
    Same w.heap.size (Value.slice a (ds ++ es).length c).ownBlock v.ownBlock ∧ Same w.heap.size (Value.slice a2 (L ++ F.all h x).length c2).ownBlock u.ownBlock ∧ RTurn v.ownBlock u.ownBlock w w'

def TakenRel (F : Fo) (h : Nat → Nat) (nd : Nat → Nd) (B : Nat) (bl : Nat → Nat) (x : Nat) (ds : List Nd) (L : List Nat) (v u : Value) (w : World) (v1 v2 v9 : Value) (wr : World) : Prop :=
  ∃ j e0 es a c m a2 c2 m2, j ≤ (F.kids x).length ∧ v9 = ptrTo bl ((F.kids x)[j]?) ∧ v1 = .slice a m c ∧ v2 = .slice a2 m2 c2 ∧ m = (ds ++ e0 :: es).length ∧ m2 = (L ++ x :: soFar F h x j).length ∧
    strip e0 = strip { nd x with size := 0 } ∧ es.map strip = (soFar F h x j).map (strEnt F h nd) ∧ (∀ e ∈ e0 :: es, OwnE B wr e) ∧
    wr.ownsRow B 47 5 (.slice a m c) m (flat5 (ds ++ e0 :: es)) ∧
    wr.ownsRow B 69 1 (.slice a2 m2 c2) m2 (ptrs bl (L ++ x :: soFar F h x j)) ∧
    Same w.heap.size (Value.slice a m c).ownBlock v.ownBlock ∧ Same w.heap.size (Value.slice a2 m2 c2).ownBlock u.ownBlock ∧ RTurn v.ownBlock u.ownBlock w wr

def lenOf (v : Value) : Nat := match v with | .slice _ n _ => n | _ => 0

theorem nextIn_get {l : List Nat} (hn : l.Nodup) {j : Nat} (hj : j < l.length) : nextIn l l[j] = l[j + 1]? := by
  have e : l = l.take j ++ l[j] :: l.drop (j + 1) := by
    conv => lhs; rw [← List.take_append_drop j l, List.drop_eq_getElem_cons hj]
  have hn2 := hn
  rw [e] at hn2
  have h1 := nextIn_split (l.drop (j + 1)) l[j] (l.take j) (nodup_split hn2).1
  rw [← e] at h1
  rw [h1, List.head?_drop]
end Go.Proofs.Ytmhhfljbocbolaa

namespace Go.Proofs.Ytmhhfljbocbolaa
open Go.RowKit
set_option linter.unusedVariables false

theorem nd_reads (w : World) (T : TypeId) (x : Nd) : Reads (w.alloc (.cells #[.int .i64 x.kind, .string x.tag, .string x.text, .slice x.aa x.attrs.length x.ac, .int .i64 x.size] T)) (w.heap.size + 1) 5 (some ⟨w.heap.size, 0, none⟩) 1 (flat5 [x]) := by
  refine ⟨rfl, fun _ => ⟨_, rfl, by show w.heap.size < _; omega, fun j u hu => ?_⟩⟩
  rw [Addr.add_lit, World.cell?_alloc_mark]
  have e : flat5 [x] = [.int .i64 x.kind, .string x.tag, .string x.text, .slice x.aa x.attrs.length x.ac, .int .i64 x.size] := rfl
  rw [e] at hu
  rw [Nat.zero_add]
  simpa using hu

theorem own_block {w w' : World} {B e size n : Nat} {v : Value} {xs : List Value} (ho : w.ownsRow B e size v n xs) (hs : ∀ b, v.ownBlock = some b → b < w.heap.size → w'.heap[b]? = w.heap[b]?) : w'.ownsRow B e size v n xs := by
  refine ⟨ho.1, ?_⟩
  rcases ho.2 with h3 | ⟨g, cap, cur, hv, hg, hh, r3⟩
  · exact .inl h3
  · refine .inr ⟨g, cap, cur, hv, hg, ?_, r3⟩
    rw [hs g (by rw [hv]; rfl) (Array.getElem?_eq_some_iff.1 hh).1]
    exact hh
theorem Same.refl (B : Nat) (r : Option Nat) : Same B r r := .inl rfl

theorem own_grown {w w' : World} {r : Option Nat} (hg : w.grownBy w' r) {B e size n : Nat} {v : Value} {xs : List Value} (ho : w.ownsRow B e size v n xs) (hn : v.ownBlock = none ∨ v.ownBlock ≠ r) : w'.ownsRow B e size v n xs :=
  own_block ho fun b hb hlt => hg.block b hlt (by rw [← hb]; rcases hn with h | h; rw [hb] at h; cases h; exact h)

theorem pn_reads (w : World) (bl : Nat → Nat) (x : Nat) : RSl (w.alloc (.cells #[.pointer (some ⟨bl x, 0, none⟩)] 69)) (w.alloc (.cells #[.pointer (some ⟨bl x, 0, none⟩)] 69)).heap.size (some ⟨w.heap.size, 0, none⟩) (ptrs bl [x]) := by
  refine .inr ⟨_, 0, rfl, by rw [World.size_alloc]; omega, fun i hi => ?_⟩
  have e : i = 0 := by simp [ptrs] at hi; exact hi
  subst e
  rw [Nat.zero_add, World.cell?_alloc_mark]
  rfl

/-- What stands ahead of the first round. -/
theorem taken_start {F : Fo} {h : Nat → Nat} {nd : Nat → Nd} {C : Nat} {bl : Nat → Nat} {x : Nat} {ds : List Nd} {L : List Nat} {av au : Option Addr} {cv cu : Nat} {w w1 : World} (hb1 : Below w.heap.size w w1) (hC : C ≤ w.heap.size)
    (hV : w.ownsRow C 47 5 (.slice av ds.length cv) ds.length (flat5 ds)) (hU : w.ownsRow C 69 1 (.slice au L.length cu) L.length (ptrs bl L)) {e0 : Nd} (hE : OwnE w.heap.size w1 e0) (hs : strip e0 = strip { nd x with size := 0 }) (cs ps : Array Value)
    {a9 : Option Addr} {c9 : Nat} {w9 : World} (ho2 : w9.ownsRow C 47 5 (.slice a9 (ds ++ [e0]).length c9) (ds ++ [e0]).length (flat5 (ds ++ [e0]))) (hg2 : (w1.alloc (.cells cs 47)).grownBy w9 (Value.slice av ds.length cv).ownBlock)
    (hat2 : (Value.slice a9 (ds ++ [e0]).length c9).ownBlock = (Value.slice av ds.length cv).ownBlock ∨ (Value.slice a9 (ds ++ [e0]).length c9).ownBlock = some (w1.alloc (.cells cs 47)).heap.size)
    {a10 : Option Addr} {c10 : Nat} {w10 : World} (ho3 : w10.ownsRow C 69 1 (.slice a10 (L ++ [x]).length c10) (L ++ [x]).length (ptrs bl (L ++ [x]))) (hg3 : (w9.alloc (.cells ps 69)).grownBy w10 (Value.slice au L.length cu).ownBlock)
    (hat3 : (Value.slice a10 (L ++ [x]).length c10).ownBlock = (Value.slice au L.length cu).ownBlock ∨ (Value.slice a10 (L ++ [x]).length c10).ownBlock = some (w9.alloc (.cells ps 69)).heap.size) :
    TakenRel F h nd C bl x ds L (.slice av ds.length cv) (.slice au L.length cu) w (.slice a9 (ds ++ [e0]).length c9) (.slice a10 (L ++ [x]).length c10) (ptrTo bl ((F.kids x)[0]?)) w10 ∧ RTurn (Value.slice av ds.length cv).ownBlock (Value.slice au L.length cu).ownBlock w w10 := by
  have hV1 := own_kept hV (fun b _ h2 => hb1.block b h2)
  have hU1 := own_kept hU (fun b _ h2 => hb1.block b h2)
  have ba : Below w1.heap.size w1 (w1.alloc (.cells cs 47)) := (Below.refl _ _).alloc (Nat.le_refl _) _
  have bp : Below w9.heap.size w9 (w9.alloc (.cells ps 69)) := (Below.refl _ _).alloc (Nat.le_refl _) _
  have r0 : RTurn (Value.slice av ds.length cv).ownBlock (Value.slice au L.length cu).ownBlock w1 w9 := (RTurn.of_below ba).trans (RTurn.of_grown1 hg2) (Same.refl _ _) (Same.refl _ _)
  have r1 : RTurn (Value.slice av ds.length cv).ownBlock (Value.slice au L.length cu).ownBlock w1 w10 := (r0.trans (RTurn.of_below bp) (Same.refl _ _) (Same.refl _ _)).trans (RTurn.of_grown2 hg3) (Same.refl _ _) (Same.refl _ _)
  have r2 : RTurn (Value.slice av ds.length cv).ownBlock (Value.slice au L.length cu).ownBlock w w10 := (RTurn.of_below hb1).trans r1 (Same.refl _ _) (Same.refl _ _)
  have hUa := hU1.alloc (.cells cs 47)
  have hVa := hV1.alloc (.cells cs 47)
  have hU9 := own_grown hg2 hUa (own_two hVa hUa (by decide))
  have h2a := ho2.alloc (.cells ps 69)
  have hUp := hU9.alloc (.cells ps 69)
  have hN10 := own_grown hg3 h2a (own_two hUp h2a (by decide))
  have e1 : x :: soFar F h x 0 = [x] := by simp [soFar]
  have s1 : w1.heap.size ≤ w9.heap.size := r0.size
  have s0 := hb1.size
  refine ⟨⟨0, e0, [], a9, c9, _, a10, c10, _, Nat.zero_le _, rfl, rfl, rfl, rfl, by rw [e1], hs, by simp [soFar], ?_, hN10, by rw [e1]; exact ho3, ?_, ?_, r2⟩, r2⟩
  · intro e he
    have : e = e0 := by simpa using he
    subst this
    exact (show OwnE C w1 e from own_base hE hC).rturn r1 hV1 hU1
  · rcases hat2 with e | e
    · exact .inl e
    · exact .inr ⟨_, e, by rw [World.size_alloc]; omega⟩
  · rcases hat3 with e | e
    · exact .inl e
    · exact .inr ⟨_, e, by rw [World.size_alloc]; omega⟩

set_option maxRecDepth 100000 in
set_option maxHeartbeats 8000000 in
theorem taken_step {F : Fo} {S : Nat → Prop} {h : Nat → Nat} (o : F.Ok S h) {nd : Nat → Nd} {B : Nat} {bl : Nat → Nat} {st : Nat → Dn} (hnd : ∀ i, S i → NdG (nd i)) (C : Nat) (d : Nat)
    (ih : ∀ (x : Nat) (v u : Value) (ds : List Nd) (L : List Nat) (w : World), h x < d → S x →
    Prog F S nd B bl st w → C ≤ w.heap.size → w.ownsRow C 47 5 v ds.length (flat5 ds) → w.ownsRow C 69 1 u L.length (ptrs bl L) → ds.length + (F.all h x).length ≤ 100000 → L.length + (F.all h x).length ≤ 100000 → (∃ a c, v = .slice a ds.length c) → (∃ a c, u = .slice a L.length c) →
    Calls Try.prog 54 #[.pointer (some ⟨bl x, 0, none⟩), v, u] w (TakenPost F h nd C bl x ds L v u w)) :
    ∀ (x : Nat) (v u : Value) (ds : List Nd) (L : List Nat) (w : World), h x < d + 1 → S x →
    Prog F S nd B bl st w → C ≤ w.heap.size → w.ownsRow C 47 5 v ds.length (flat5 ds) → w.ownsRow C 69 1 u L.length (ptrs bl L) → ds.length + (F.all h x).length ≤ 100000 → L.length + (F.all h x).length ≤ 100000 → (∃ a c, v = .slice a ds.length c) → (∃ a c, u = .slice a L.length c) →
    Calls Try.prog 54 #[.pointer (some ⟨bl x, 0, none⟩), v, u] w (TakenPost F h nd C bl x ds L v u w) := by
  rintro x v u ds L w hx hSx hP hC hv hu hlen hlen2 ⟨av, cv, rfl⟩ ⟨au, cu, rfl⟩
  have HK := Lib.hid (kindOf_any hP.dom hSx (hP.self x hSx) (hnd x hSx))
  have hP0 := Lib.hid hP
  have hV0 := Lib.hid hv
  have hU0 := Lib.hid hu
  have HIh := Lib.hid ih
  have HO := Lib.hid o
  have HKid : Hid (∀ q (hq : q < (F.kids x).length), S (F.kids x)[q] ∧ h (F.kids x)[q] < h x ∧ F.par (F.kids x)[q] = some x) := fun q hq => by
    have := (o.mem x _).1 (List.getElem_mem hq)
    exact ⟨(o.dom _ _ this).2, o.ht _ _ this, this⟩
  have HAll : Hid (∀ q (hq : q < (F.kids x).length), (soFar F h x q).length + (F.all h (F.kids x)[q]).length + 1 ≤ (F.all h x).length) := fun q hq => by
    have := soFar_len o x (q + 1)
    rw [soFar_succ F h x q hq, List.length_append] at this
    omega
  have hal1 : 1 ≤ (F.all h x).length := by have := kids_len o x; omega
  have HLen := Lib.hid hlen
  have HLen2 := Lib.hid hlen2
  have hds : ds.length + 1 ≤ 100000 := by omega
  have hLs : L.length + 1 ≤ 100000 := by omega
  have HKn : Hid ((F.kids x).length ≤ 100000) := by have := kids_len o x; unfold Hid; omega
  clear hP hv hu ih o hlen hlen2
  go_enter Try.func54, Try.ntmps54
  go_wp2_with fail
  refine HK.out.mono ?_
  rintro e w1 ⟨a0, c0, rfl, hown0, hb1⟩
  obtain ⟨e0, he0⟩ : ∃ e0 : Nd, e0 = ⟨(nd x).kind, (nd x).tag, (nd x).text, a0, c0, (nd x).attrs, 0⟩ := ⟨_, rfl⟩
  have k1 : (nd x).kind = e0.kind := by rw [he0]
  have k2 : (nd x).tag = e0.tag := by rw [he0]
  have k3 : (nd x).text = e0.text := by rw [he0]
  have k4 : (nd x).attrs = e0.attrs := by rw [he0]
  have k5 : a0 = e0.aa := by rw [he0]
  have k6 : c0 = e0.ac := by rw [he0]
  have k7 : (0 : Int) = e0.size := by rw [he0]
  have HE0 : Hid (strip e0 = strip { nd x with size := 0 }) := by rw [he0]; rfl
  rw [k4, k5, k6] at hown0
  rw [k1, k2, k3, k4, k5, k6, k7]
  have HOwn0 := Lib.hid hown0
  have HB1 := Lib.hid hb1
  have hv1 := own_kept hV0.out (fun b _ h2 => hb1.block b h2)
  have hu1 := own_kept hU0.out (fun b _ h2 => hb1.block b h2)
  have HV1 := Lib.hid (hv1.alloc (.cells #[.int .i64 e0.kind, .string e0.tag, .string e0.text, .slice e0.aa e0.attrs.length e0.ac, .int .i64 e0.size] 47))
  have HR1 := Lib.hid (nd_reads w1 47 e0)
  have hs1 := hb1.size
  clear hown0 hb1 hv1 he0 k1 k2 k3 k4 k5 k6 k7
  go_wp2_with (at_builtin; refine wpList_append_nd rfl (.tmp 12) (.tmp 15) rfl C (.slice av ds.length cv) ds rfl HV1.out (some ⟨w1.heap.size, 0, none⟩) 1 1 [e0] rfl rfl (by simpa using HR1.out) (by simp; omega) (by simp; omega) ?_)
  intro a9 c9 w9 hown2 hg2 hat2
  have HN2 := Lib.hid hown2
  have HG2 := Lib.hid hg2
  have HA2 := Lib.hid hat2
  have hU9 : w9.ownsRow C 69 1 (.slice au L.length cu) L.length (ptrs bl L) := own_grown hg2 (hu1.alloc _) (own_two HV1.out (hu1.alloc _) (by decide))
  have HUp := Lib.hid (hU9.alloc (.cells #[.pointer (some ⟨bl x, 0, none⟩)] 69))
  have hs9 : w1.heap.size + 1 ≤ w9.heap.size := by have := hg2.size; rw [World.size_alloc] at this; exact this
  clear hown2 hg2 hat2 hu1 hU9 HV1 HR1
  go_wp2_with (at_builtin; refine wpList_append_pn _ rfl (.tmp 17) (.tmp 19) rfl bl C (.slice au L.length cu) L rfl HUp.out (some ⟨w9.heap.size, 0, none⟩) 1 1 [x] rfl rfl ?c1 (by simp; omega) (by simp; omega) ?_)
  case c1 => exact pn_reads w9 bl x
  intro a10 c10 w10 hown3 hg3 hat3
  obtain ⟨hRel0, hT0⟩ := taken_start (F := F) (h := h) (nd := nd) HB1.out hC hV0.out hU0.out HOwn0.out HE0.out _ _ (by simpa using HN2.out) HG2.out (by simpa using HA2.out) (by simpa using hown3) hg3 (by simpa using hat3)
  have HRel0 := Lib.hid hRel0
  have hP10 := hP0.out.rturn hT0 hV0.out hU0.out
  have c1 := (hP10.dom.cells hSx).2.2.1
  rw [(hP10.fit x hSx).fst, List.head?_eq_getElem?] at c1
  clear hown3 hg3 hat3 hRel0 hT0 hP10 HUp
  go_wp2_with fail
  go_loopw [1, 2, 9] (fun v1 v2 v9 wr => TakenRel F h nd C bl x ds L (.slice av ds.length cv) (.slice au L.length cu) w v1 v2 v9 wr) (fun v1 _ _ _ => ds.length + (F.all h x).length - lenOf v1)
  case atStart => have := HRel0.out; simpa using this
  case round =>
    clear HRel0 c1
    obtain ⟨j, e1, es, a, c, m, a2, c2, m2, hj, rfl, rfl, rfl, hm, hm2, hse, hss, hown, hV, hU, hat, hat2, hl⟩ := hrel
    obtain ⟨E, hE⟩ : ∃ E, E = ds ++ e1 :: es := ⟨_, rfl⟩
    obtain ⟨M, hM⟩ : ∃ M, M = L ++ x :: soFar F h x j := ⟨_, rfl⟩
    rw [← hE] at hm hV
    rw [← hM] at hm2 hU
    subst hm hm2
    have hPr := hP0.out.rturn hl hV0.out hU0.out
    have hes : es.length = (soFar F h x j).length := by have := congrArg List.length hss; simpa using this
    have hEl : E.length = ds.length + 1 + (soFar F h x j).length := by rw [hE]; simp; omega
    have hMl : M.length = L.length + 1 + (soFar F h x j).length := by rw [hM]; simp; omega
    have hsf := soFar_len HO.out x j
    have HEl := Lib.hid hEl
    have HE := Lib.hid hE
    have HM := Lib.hid hM
    have HSe := Lib.hid hse
    have HSs := Lib.hid hss
    have HOw := Lib.hid hown
    have HV := Lib.hid hV
    have HU := Lib.hid hU
    have HAt := Lib.hid hat
    have HAt2 := Lib.hid hat2
    have HL := Lib.hid hl
    have HPr := Lib.hid hPr
    have hE100 : E.length ≤ 100000 := by have := HLen.out; omega
    have hEd : ds.length < E.length := by omega
    have hwr : w.heap.size ≤ wr.heap.size := hl.size
    by_cases hlt : j < (F.kids x).length
    · obtain ⟨y, hy⟩ : ∃ y, y = (F.kids x)[j] := ⟨_, rfl⟩
      have hky := HKid.out j hlt
      have hal := HAll.out j hlt
      rw [← hy] at hky hal
      have HI := Lib.hid (HIh.out y (.slice a E.length c) (.slice a2 M.length c2) E M wr (by omega) hky.1 HPr.out (Nat.le_trans hC hwr) HV.out HU.out (by have := HLen.out; omega) (by have := HLen2.out; omega) ⟨a, c, rfl⟩ ⟨a2, c2, rfl⟩)
      have HY := Lib.hid hy
      have hsy := hky.1
      have hpy := hky.2.2
      have ey : (F.kids x)[j]? = some y := by rw [List.getElem?_eq_getElem hlt, hy]
      rw [ey]
      simp only [ptrTo, Option.map_some]
      clear hE hM hse hss hown hV hU hat hat2 hl hPr hes hEl hMl hky hy ey
      go_wp2_with fail
      refine HI.out.mono ?_
      rintro e w3 ⟨es3, a3, c3, a4, c4, rfl, hs3, how3, hV3, hU3, hat3, hat4, hl3⟩
      have hP3 := HPr.out.rturn hl3 HV.out HU.out
      have c4' := (hP3.dom.cells hsy).2.2.2.2.2.1
      have hnx : (st y).nxt = (F.kids x)[j + 1]? := by
        rw [((hP3.fit y hsy).sib x hpy).2, HY.out]
        exact nextIn_get (HO.out.nodup x) hlt
      rw [hnx] at c4'
      have e1' : E ++ es3 = ds ++ e1 :: (es ++ es3) := by rw [HE.out]; simp
      have e2' : M ++ F.all h y = L ++ x :: soFar F h x (j + 1) := by
        rw [HM.out, soFar_succ F h x j hlt, ← HY.out]; simp
      rw [e1'] at hV3 hat3
      rw [e2'] at hU3 hat4
      have hlen3 : es3.length = (F.all h y).length := by have := congrArg List.length hs3; simpa using this
      have hy1 : 1 ≤ (F.all h y).length := by have := kids_len HO.out y; omega
      have HRel : Hid (TakenRel F h nd C bl x ds L (.slice av ds.length cv) (.slice au L.length cu) w (.slice a3 (ds ++ e1 :: (es ++ es3)).length c3) (.slice a4 (L ++ x :: soFar F h x (j + 1)).length c4) (ptrTo bl ((F.kids x)[j + 1]?)) w3) := by
        refine ⟨j + 1, e1, es ++ es3, a3, c3, _, a4, c4, _, by omega, rfl, rfl, rfl, rfl, rfl, HSe.out, ?_, ?_, hV3, hU3, HAt.out.trans hat3 HL.out.size, HAt2.out.trans hat4 HL.out.size, HL.out.trans hl3 HAt.out HAt2.out⟩
        · rw [List.map_append, HSs.out, hs3, soFar_succ F h x j hlt, ← HY.out, List.map_append]
        · intro e he
          rw [← List.cons_append] at he
          rcases List.mem_append.1 he with he | he
          · exact (HOw.out e he).rturn hl3 HV.out HU.out
          · exact how3 e he
      have hEl3 : (ds ++ e1 :: (es ++ es3)).length = E.length + es3.length := by rw [← e1', List.length_append]
      rw [e1', e2']
      obtain ⟨m3, hm3⟩ : ∃ m3, (ds ++ e1 :: (es ++ es3)).length = m3 := ⟨_, rfl⟩
      obtain ⟨m4, hm4⟩ : ∃ m4, (L ++ x :: soFar F h x (j + 1)).length = m4 := ⟨_, rfl⟩
      rw [hm3] at hEl3
      rw [hm3, hm4] at HRel
      rw [hm3, hm4]
      have hEb : E.length < m3 := by omega
      have hEb2 : E.length < ds.length + (F.all h x).length := by have := HEl.out; omega
      clear hs3 how3 hV3 hU3 hat3 hat4 hl3 hP3 hnx e1' e2' hlen3 hEl3 hm3 hm4
      go_wp2_with fail
      go_roundw
      case rel => exact HRel.out
      case measure => simp only [lenOf]; omega
    · have e : j = (F.kids x).length := by omega
      subst e
      have ey : (F.kids x)[(F.kids x).length]? = none := by simp
      rw [ey]
      simp only [ptrTo, Option.map_none]
      obtain ⟨g, c', hgv⟩ := own_some hV (by omega)
      cases hgv
      obtain ⟨cu3, hcu⟩ := own_type hV
      have hix : (flat5 E)[ds.length * 5 + 4]? = some (.int .i64 e1.size) := by
        rw [hE, flat5_append, List.getElem?_append_right (by rw [flat5_len]; omega), flat5_len]
        have e3 : ds.length * 5 + 4 - ds.length * 5 = 4 := by omega
        rw [e3]; rfl
      have hgc : wr.cell? ⟨g, ds.length * 5 + 4, none⟩ = some (.int .i64 e1.size) := by
        have := hV.cells (g := g) rfl _ _ hix
        rw [Addr.add_lit, Nat.zero_add] at this
        exact this
      have hgf := frozen_of_row wr g (ds.length * 5 + 4) _ _ hcu
      have hend := soFar_end HO.out x
      have hsz : ((E.length : Int) - (ds.length : Int)) = ((F.all h x).length : Int) := by
        rw [← hend, List.length_cons]; omega
      have hgo := hV.lt g rfl
      have HFin : Hid (TakenPost F h nd C bl x ds L (.slice av ds.length cv) (.slice au L.length cu) w (.returned (.tuple #[.slice (some ⟨g, 0, none⟩) E.length c, .slice a2 M.length c2])) (wr.setCell ⟨g, ds.length * 5 + 4, none⟩ (.int .i64 ((E.length : Int) - (ds.length : Int))))) := by
        have h1 := own_set hV (ds.length * 5 + 4) (by rw [flat5_len]; omega) (.int .i64 ((E.length : Int) - (ds.length : Int)))
        have hel : E.length = (ds ++ { e1 with size := ((F.all h x).length : Int) } :: es).length := by rw [hE]; simp
        have hml : M = L ++ F.all h x := by rw [hM, hend]
        have hU2 := own_block (w' := wr.setCell ⟨g, ds.length * 5 + 4, none⟩ (.int .i64 ((E.length : Int) - (ds.length : Int)))) hU (fun b hb hlt2 => Below.heap_setCell _ _ _ _ (fun e => own_ne hU hcu (by decide) (by rw [hb, e])))
        have hO2 : ∀ e ∈ e1 :: es, OwnE C (wr.setCell ⟨g, ds.length * 5 + 4, none⟩ (.int .i64 ((E.length : Int) - (ds.length : Int)))) e := fun e he =>
          own_block (hown e he) (fun b hb hlt2 => Below.heap_setCell _ _ _ _ (fun e4 => own_ne (hown e he) hcu (by decide) (by rw [hb, e4])))
        rw [hsz] at h1 hU2 hO2 ⊢
        have h2 : (flat5 E).set (ds.length * 5 + 4) (.int .i64 ((F.all h x).length : Int)) = flat5 (ds ++ { e1 with size := ((F.all h x).length : Int) } :: es) := by rw [hE, flat5_set]
        rw [h2, hel] at h1
        rw [hel] at hat
        rw [hml] at hU2 hat2
        refine ⟨{ e1 with size := ((F.all h x).length : Int) } :: es, some ⟨g, 0, none⟩, c, a2, c2, by rw [hel, hml], ?_, ?_, h1, hU2, hat, hat2, hl.set (p := ⟨g, ds.length * 5 + 4, none⟩) hat _⟩
        · rw [← hend, List.map_cons, List.map_cons, hss]
          congr 1
          have e5 : (F.all h x).length = (x :: soFar F h x (F.kids x).length).length := by rw [hend]
          unfold strEnt
          show { strip e1 with size := ((x :: soFar F h x (F.kids x).length).length : Int) } = _
          rw [hse, ← e5]; rfl
        · intro e he
          rcases List.mem_cons.1 he with rfl | he
          · exact hO2 e1 (List.mem_cons_self ..)
          · exact hO2 e (List.mem_cons_of_mem _ he)
      clear hE hM hse hss hown hV hU hat hat2 hl hPr hes hEl hMl hcu hix hend hsz hgo ey
      go_wp2_with fail
      go_ret2
      exact HFin.out

theorem taken_any {F : Fo} {S : Nat → Prop} {h : Nat → Nat} (o : F.Ok S h) {nd : Nat → Nd} {B : Nat} {bl : Nat → Nat} {st : Nat → Dn} (hnd : ∀ i, S i → NdG (nd i)) (C : Nat) (d : Nat) :
    ∀ (x : Nat) (v u : Value) (ds : List Nd) (L : List Nat) (w : World), h x < d → S x →
    Prog F S nd B bl st w → C ≤ w.heap.size → w.ownsRow C 47 5 v ds.length (flat5 ds) → w.ownsRow C 69 1 u L.length (ptrs bl L) → ds.length + (F.all h x).length ≤ 100000 → L.length + (F.all h x).length ≤ 100000 → (∃ a c, v = .slice a ds.length c) → (∃ a c, u = .slice a L.length c) →
    Calls Try.prog 54 #[.pointer (some ⟨bl x, 0, none⟩), v, u] w (TakenPost F h nd C bl x ds L v u w) := by
  induction d with
  | zero => intro x v u ds L w hx; omega
  | succ d ih => exact taken_step o hnd C d ih
end Go.Proofs.Ytmhhfljbocbolaa

namespace Go.Proofs.Ytmhhfljbocbolaa
open Go.RowKit
set_option linter.unusedVariables false

def placeIn (ms : List Nat) (x : Nat) : Int := atF ms 0 (fun _ => -1) x

set_option maxRecDepth 100000 in
set_option maxHeartbeats 1000000 in
theorem placeAt_any {B : Nat} {S : Nat → Prop} {bl : Nat → Nat} {st : Nat → Dn} {w : World} (hD : Dom w B S bl st) (ms : List Nat) (hms : ∀ m ∈ ms, S m) (hl : ms.length ≤ 100000) (a : Option Addr) (c : Nat) (h : RSl w w.heap.size a (ptrs bl ms)) (x : Nat) (hx : S x) :
    Calls Try.prog 83 #[.slice a ms.length c, .pointer (some ⟨bl x, 0, none⟩)] w (fun e w' => e = .returned (.int .i64 (placeIn ms x)) ∧ w = w') := by
  have HD := Lib.hid hD
  have HH := Lib.hid h
  have HM := Lib.hid hms
  clear hD h hms
  go_enter Try.func83, Try.ntmps83
  go_wp2_with fail
  go_loopw [8] (fun y wr => ∃ k : Nat, k ≤ ms.length ∧ y = .int .i64 k ∧ Hid (∀ q, q < k → ms[q]? ≠ some x) ∧ w = wr) (fun y _ => ms.length - (intOf y).toNat)
  case atStart => exact ⟨0, by omega, rfl, (fun q hq => by omega), rfl⟩
  case round =>
    obtain ⟨k, hk, rfl, hno, rfl⟩ := hrel
    by_cases hlt : k < ms.length
    · obtain ⟨b, o, rfl, hbB, hcc⟩ := HH.out.at_ (by rw [ptrs_length]; omega)
      have g1 := hcc k (by rw [ptrs_length]; exact hlt)
      rw [ptrs_at hlt] at g1
      have hi := HM.out ms[k] (List.getElem_mem hlt)
      obtain ⟨j, hj⟩ : ∃ j, j = ms[k] := ⟨_, rfl⟩
      rw [← hj] at g1 hi
      have HJ : Hid (ms[k]? = some j) := by rw [Hid, List.getElem?_eq_getElem hlt, hj]
      clear hcc hj
      by_cases e : j = x
      · subst e
        have heq := ptr_same j bl w
        have HFin : Hid (placeIn ms j = (k : Int)) := by
          have hm : j ∈ ms := List.mem_of_getElem? HJ.out
          unfold placeIn atF
          rw [Hid, if_pos hm]
          have e1 : ms.idxOf j = k := by
            have h1 := List.idxOf_lt_length_of_mem hm
            have h2 : ms[ms.idxOf j]? = some j := by rw [List.getElem?_eq_getElem h1, List.getElem_idxOf h1]
            rcases Nat.lt_trichotomy (ms.idxOf j) k with h3 | h3 | h3
            · exact absurd h2 (hno.out _ h3)
            · exact h3
            · have h4 := List.not_of_lt_findIdx (p := (· == j)) (xs := ms) (i := k) h3
              have h5 : ms[k] = j := by have := HJ.out; rw [List.getElem?_eq_getElem hlt] at this; injection this
              rw [h5] at h4
              simp at h4
          rw [e1]; omega
        go_wp2_with fail
        go_ret
        rw [HFin.out]
        exact ⟨rfl, rfl⟩
      · have heq := HD.out.other hx hi e
        obtain ⟨bk, hbk⟩ : ∃ bk, bk = bl j := ⟨_, rfl⟩
        rw [← hbk] at g1 heq
        clear hbk
        go_wp2_with fail
        go_roundw
        case rel =>
          refine ⟨k + 1, by omega, by go_num, fun q hq => ?_, by trivial⟩
          rcases Nat.lt_succ_iff_lt_or_eq.1 hq with h3 | rfl
          · exact hno.out q h3
          · rw [HJ.out]; intro e2; injection e2 with e2; exact e e2
        case measure => simp [intOf]; omega
    · have e : k = ms.length := by omega
      subst e
      have HFin : Hid (placeIn ms x = -1) := by
        unfold placeIn atF
        rw [Hid, if_neg (fun hm => by
          obtain ⟨q, hq, e2⟩ := List.getElem_of_mem hm
          exact hno.out q hq (by rw [List.getElem?_eq_getElem hq, e2]))]
      go_wp2_with fail
      go_ret
      rw [HFin.out]
      exact ⟨rfl, rfl⟩

def PlacesAtPost (ms ns : List Nat) (w : World) (e : Ending) (w' : World) : Prop := ∃ a c, e = .returned (.slice a ns.length c) ∧ w'.ownsRow w.heap.size 3 1 (.slice a ns.length c) ns.length (ivs (ns.map (placeIn ms))) ∧ Below w.heap.size w w'

set_option maxRecDepth 100000 in
set_option maxHeartbeats 2000000 in
theorem placesAt_any {B : Nat} {S : Nat → Prop} {bl : Nat → Nat} {st : Nat → Dn} {w : World} (hD : Dom w B S bl st) (ms : List Nat) (hms : ∀ m ∈ ms, S m) (hl : ms.length ≤ 100000) (a : Option Addr) (c : Nat) (h : RSl w w.heap.size a (ptrs bl ms))
    (ns : List Nat) (hns : ∀ m ∈ ns, S m) (hlen : ns.length ≤ 100000) (a5 : Option Addr) (c5 : Nat) (h5 : RSl w w.heap.size a5 (ptrs bl ns)) :
    Calls Try.prog 55 #[.slice a ms.length c, .slice a5 ns.length c5] w (PlacesAtPost ms ns w) := by
  obtain ⟨i0, hinf, hz0, hz1, hz2⟩ := info_parts Try.info3
  have HD := Lib.hid hD
  have HM := Lib.hid hms
  have HR := Lib.hid h
  have HH := Lib.hid h5
  have HNs := Lib.hid hns
  clear hD hms h h5 hns
  go_enter Try.func55, Try.ntmps55
  go_wp2_with fail
  go_loopw [5, 10] (fun v x wr => ∃ k a1 c1, k ≤ ns.length ∧ x = .int .i64 (k : Nat) ∧ v = .slice a1 k c1 ∧ wr.ownsRow w.heap.size 3 1 (.slice a1 k c1) k (ivs ((ns.take k).map (placeIn ms))) ∧ Below w.heap.size w wr) (fun _ x _ => ns.length - (intOf x).toNat)
  case atStart => exact ⟨0, none, 0, by omega, rfl, rfl, World.ownsRow_nil _ _ _ _, Below.refl _ _⟩
  case round =>
    obtain ⟨k, a1, c1, hk, rfl, rfl, hown, hb⟩ := hrel
    by_cases hlt : k < ns.length
    · obtain ⟨b, o, rfl, hbB, hcc⟩ := HH.out.at_ (by rw [ptrs_length]; omega)
      have g1 := hcc k (by rw [ptrs_length]; exact hlt)
      rw [ptrs_at hlt] at g1
      replace g1 := (hb.cell (p := ⟨b, _, none⟩) hbB).trans g1
      have hi := HNs.out ns[k] (List.getElem_mem hlt)
      obtain ⟨j, hj⟩ : ∃ j, j = ns[k] := ⟨_, rfl⟩
      rw [← hj] at g1 hi
      have HJ : Hid ((ns.take (k + 1)).map (placeIn ms) = (ns.take k).map (placeIn ms) ++ [placeIn ms j]) := by
        rw [Hid, List.take_succ_eq_append_getElem hlt, hj, List.map_append]; rfl
      have HP := Lib.hid (placeAt_any (HD.out.kept (fun b _ h2 => hb.block b h2)) ms HM.out hl a c (HR.out.up hb) j hi)
      have HW := Lib.hid hown
      have hsz := hb.size
      clear hcc hj hown
      go_wp2_with fail
      refine HP.out.mono ?_
      rintro e w1 ⟨rfl, rfl⟩
      obtain ⟨z, hz⟩ : ∃ z, z = placeIn ms j := ⟨_, rfl⟩
      rw [← hz] at HJ ⊢
      clear hz
      go_wp2_with (at_builtin; refine wpList_append_own _ rfl _ _ 23 rfl w.heap.size 3 i0 (.int .i64 0) 1 8 Try.underlying23 hinf hz0 hz1 hz2 rfl (by decide) _ _ _ rfl (HW.out.alloc _) ⟨wr.heap.size, 0, none⟩ 1 1 [.int .i64 z] rfl rfl ?c1 ?c2 ?c3 ?c4 ?c5 ?_)
      case c1 =>
        intro q u hq
        match q, hq with
        | 0, hq => simp at hq; subst hq; simp [Addr.add]
      case c2 => intro u hu; simp at hu; subst hu; rfl
      case c3 => unfold maxLen; omega
      case c4 => omega
      case c5 => simp; omega
      · intro v' w1 hown' hgrow _
        obtain ⟨a2, c2, hv2⟩ := own_slice hown'
        rw [hv2] at hown' ⊢
        have hb1 : Below w.heap.size w w1 := (hb.alloc hb.size _).grown hgrow (by simp; omega) (fun q hq => (HW.out.lt q hq).1)
        have HO1 : Hid (w1.ownsRow w.heap.size 3 1 (.slice a2 (k + 1) c2) (k + 1) (ivs ((ns.take (k + 1)).map (placeIn ms)))) := by
          rw [Hid, HJ.out, ivs_snoc, List.map_take]; exact hown'
        clear hown' hgrow hv2
        go_wp2_with fail
        go_roundw
        case rel => exact ⟨k + 1, a2, c2, by omega, by go_num, rfl, HO1.out, hb1⟩
        case measure => simp [intOf]; omega
    · go_wp2_with fail
      go_ret
      have e : k = ns.length := by omega
      subst e
      rw [List.take_length] at hown
      exact ⟨_, _, rfl, hown, hb⟩
end Go.Proofs.Ytmhhfljbocbolaa

namespace Go.Proofs.Ytmhhfljbocbolaa
open Go.RowKit
set_option linter.unusedVariables false

/-- A world in memory: all nodes, a selection of none. -/
def WorldB (w : World) (gw L n g0 : Nat) : Prop := w.heap[gw]? = some (.cells #[.slice (some ⟨L, 0, none⟩) n n, .pointer (some ⟨g0, 0, none⟩)] 64 (0, 0))

def BegunPost (t : List Nd) (w : World) (e : Ending) (w' : World) : Prop :=
  ∃ L bl st gw g0 gd, e = .returned (.tuple #[.pointer (some ⟨gw, 0, none⟩), .bool true]) ∧ L < w'.heap.size ∧ Tree t w' w.heap.size L bl st ∧ WorldB w' gw L t.length g0 ∧ SelB w' g0 none 0 0 (some ⟨gd, 0, none⟩) none ∧ w.heap.size ≤ gw ∧ Below w.heap.size w w'

set_option maxRecDepth 100000 in
set_option maxHeartbeats 2000000 in
theorem begun_any (a : Option Addr) (c : Nat) (t : List Nd) (hR : RightP t) (w : World) (h : NSl w w.heap.size a t) :
    Calls Try.prog 50 #[.slice a t.length c] w (BegunPost t w) := by
  have HR := Lib.hid hR
  have HH := Lib.hid h
  have hpos := hR.pos
  have p0 : (0 : Int) < (t.length : Int) := by omega
  clear hR h
  go_enter Try.func50, Try.ntmps50
  go_wp2_with fail
  refine (grown_any _ c t w HH.out HR.out).mono ?_
  rintro e w1 ⟨L, bl, st, rfl, hb1, hL, hT⟩
  have g0 := hT.cell 0 hpos
  have HT := Lib.hid hT
  have HB1 := Lib.hid hb1
  clear hT hb1
  go_wp2_with fail
  refine (newDoc_any ⟨bl 0, 0, none⟩ w1).mono ?_
  rintro e w2 ⟨gd, gs, gn, rfl, hc, hs, hb2⟩
  have HS := Lib.hid hs
  have HB2 := Lib.hid hb2
  clear hs hb2
  go_wp2_with fail
  refine (eq1_any gs gn gd w2 HS.out).mono ?_
  rintro e w3 ⟨rfl, hs3, hb3⟩
  have HS3 := Lib.hid hs3
  have HB3 := Lib.hid (bnext HB2.out hb3)
  have hw13 : w1.heap.size ≤ w3.heap.size := HB3.out.size
  have hw1 := HB1.out.size
  clear hs3 hb3
  go_wp2_with fail
  go_ret2
  have hal : Below w3.heap.size w3 (w3.alloc (.cells #[.slice (some ⟨L, 0, none⟩) t.length t.length, .pointer (some ⟨w2.heap.size, 0, none⟩)] 64)) := (Below.refl _ _).alloc (Nat.le_refl _) _
  refine ⟨L, bl, st, w3.heap.size, w2.heap.size, gd, rfl, by rw [World.size_alloc]; omega, (HT.out.kept HB3.out).kept hal, heap_alloc_new _ _, HS3.out.below hal HS3.out.lt, by omega, bnext (bnext HB1.out HB3.out) hal⟩

def SelectedPost (t : List Nd) (ns : List Nat) (w : World) (e : Ending) (w' : World) : Prop :=
  ∃ L bl st gw g0 g doc, e = .returned (.tuple #[.pointer (some ⟨gw, 0, none⟩), .pointer (some ⟨g, 0, none⟩), .bool true]) ∧ L < w'.heap.size ∧ Tree t w' w.heap.size L bl st ∧ WorldB w' gw L t.length g0 ∧ SelOf bl ns w.heap.size g doc w' ∧ w.heap.size ≤ gw ∧ Below w.heap.size w w'

set_option maxRecDepth 100000 in
set_option maxHeartbeats 2000000 in
theorem selected_any (a : Option Addr) (c : Nat) (t : List Nd) (hR : RightP t) (ad : Option Addr) (c2 : Nat) (l : List Int) (ns : List Nat) (ho : OrdP t.length l ns) (hl : l.length ≤ 2147483647) (w : World) (h : NSl w w.heap.size a t) (hi : ISl w w.heap.size ad l) :
    Calls Try.prog 31 #[.slice a t.length c, .slice ad l.length c2] w (SelectedPost t ns w) := by
  have HBg := Lib.hid (begun_any a c t hR w h)
  have HR := Lib.hid hR
  have HO := Lib.hid ho
  have HI := Lib.hid hi
  have hlen := ho.len
  have HLen := Lib.hid (show ns.length ≤ 200 by have := hR.le; omega)
  clear hR ho h hi hlen
  go_enter Try.func31, Try.ntmps31
  go_wp2_with fail
  refine HBg.out.mono ?_
  rintro e w1 ⟨L, bl, st, gw, g0, gd, rfl, hL, hT, hW, hs, hgw, hb1⟩
  have hgl : gw < w1.heap.size := (Array.getElem?_eq_some_iff.1 hW).1
  have z0 : w1.cell? ⟨gw, 0, none⟩ = some (.slice (some ⟨L, 0, none⟩) t.length t.length) := cell_of_row w1 gw 0 _ _ _ hW
  have z1 : w1.cell? ⟨gw, 1, none⟩ = some (.pointer (some ⟨g0, 0, none⟩)) := cell_of_row w1 gw 1 _ _ _ hW
  have HT := Lib.hid hT
  have HB1 := Lib.hid hb1
  have HS := Lib.hid hs
  have HW := Lib.hid hW
  have HThese := Lib.hid (these_any t HR.out.le _ L bl st ad c2 l ns HO.out hl w1 hL hT (HI.out.up hb1))
  clear hT hb1 hs hW
  go_wp2_with fail
  refine HThese.out.mono ?_
  rintro e w2 ⟨a1, c1, rfl, hown, hb2⟩
  have HB2 := Lib.hid hb2
  have hrs : RSl w2 w2.heap.size a1 (ptrs bl ns) := by
    obtain ⟨a2, c2, hv, _, hrs⟩ := RSl.own hown
    cases hv
    exact hrs
  have HAdd := Lib.hid (addNodes_any bl t.length ns HO.out.lt HO.out.nodup HLen.out a1 c1 g0 _ _ w2 hrs (HT.out.nodes.kept hb2) (HS.out.below hb2 HS.out.lt))
  replace z0 := (hb2.cell (p := ⟨gw, 0, none⟩) hgl).trans z0
  replace z1 := (hb2.cell (p := ⟨gw, 1, none⟩) hgl).trans z1
  clear hown hb2 hrs
  go_wp2_with fail
  refine HAdd.out.mono ?_
  rintro e w3 ⟨g, rfl, hsel, hb3⟩
  have HSel := Lib.hid hsel
  have HB3 := Lib.hid (bnext HB2.out hb3)
  clear hsel hb3 z0 z1
  go_wp2_with fail
  go_ret3
  exact ⟨L, bl, st, gw, g0, g, _, rfl, Nat.lt_of_lt_of_le hL HB3.out.size, HT.out.kept HB3.out, (HB3.out.block gw hgl).trans HW.out, HSel.out.base (Nat.le_trans HB1.out.size HB2.out.size), hgw, bnext HB1.out HB3.out⟩
end Go.Proofs.Ytmhhfljbocbolaa

namespace Go.Proofs.Ytmhhfljbocbolaa
open Go.RowKit
set_option linter.unusedVariables false

/-- Places of nodes but the first one, each once. -/
structure ChoP (n : Nat) (l : List Int) (ms : List Nat) : Prop where
  eq : l = toI ms
  rng : ∀ m ∈ ms, 1 ≤ m ∧ m < n
  nodup : ms.Nodup

def ChoPost (n : Nat) (kb : Nat → Nat) (l : List Int) (w : World) (e : Ending) (w' : World) : Prop :=
  ∃ a c m b, e = .returned (.tuple #[.slice a m c, .bool b]) ∧ (b = true → ∃ ms, ChoP n l ms ∧ m = ms.length ∧ w'.ownsRow w.heap.size 77 1 (.slice a m c) m (ptrs kb ms)) ∧ Below w.heap.size w w'

def ChoRel (n : Nat) (kb : Nat → Nat) (l : List Int) (w : World) (v x : Value) (wr : World) : Prop :=
  ∃ (ms : List Nat) (a : Option Addr) (c : Nat), ms.length ≤ l.length ∧ x = .int .i64 ms.length ∧ v = .slice a ms.length c ∧ Hid (ChoP n (l.take ms.length) ms) ∧ wr.ownsRow w.heap.size 77 1 (.slice a ms.length c) ms.length (ptrs kb ms) ∧ Below w.heap.size w wr

theorem toI_mem_len {l : List Int} {ms : List Nat} {n : Nat} (h : ChoP n (l.take ms.length) ms) {i : Nat} (hi : i < ms.length) (hl : ms.length ≤ l.length) : l[i]'(by omega) = (ms[i] : Int) := by
  have h1 := h.eq
  have h2 : (l.take ms.length)[i]'(by rw [List.length_take]; omega) = (toI ms)[i]'(by rw [toI_length]; exact hi) := by simp only [h1]
  rw [toI_at hi] at h2
  rw [← h2, List.getElem_take]

set_option maxRecDepth 100000 in
set_option maxHeartbeats 4000000 in
theorem kchosen_any (n fb g fc : Nat) (kb : Nat → Nat) (hn : n ≤ 200) (w : World) (hf : w.cell? ⟨fb, 0, none⟩ = some (.slice (some ⟨g, 0, none⟩) n fc)) (hrow : ∀ j, j < n → w.cell? ⟨g, j, none⟩ = some (.pointer (some ⟨kb j, 0, none⟩))) (ad : Option Addr) (c : Nat) (l : List Int) (hl : l.length ≤ 2147483647) (hi : ISl w w.heap.size ad l) :
    Calls Try.prog 71 #[.pointer (some ⟨fb, 0, none⟩), .slice ad l.length c] w (ChoPost n kb l w) := by
  have HRow := Lib.hid hrow
  have HI := Lib.hid hi
  have hfl := World.block_lt_of_cell? w _ hf
  have HF := Lib.hid hf
  clear hrow hi hf
  go_enter Try.func71, Try.ntmps71
  go_wp2_with fail
  go_loopw [6, 7] (fun v x wr => ChoRel n kb l w v x wr) (fun _ x _ => l.length - (intOf x).toNat)
  case atStart => exact ⟨[], none, 0, by simp, rfl, rfl, ⟨by simp [toI], by simp, List.nodup_nil⟩, World.ownsRow_nil _ _ _ _, Below.refl _ _⟩
  case round =>
    obtain ⟨ms, a1, c1, hml, rfl, rfl, hC, hown, hb⟩ := hrel
    obtain ⟨i, hie⟩ : ∃ i, i = ms.length := ⟨_, rfl⟩
    have hMn : ms.length ≤ n := by
      refine nodup_len hC.out.nodup (fun x hx => (hC.out.rng x hx).2)
    by_cases hlt : ms.length < l.length
    · obtain ⟨b, o, rfl, hbB, hc⟩ := HI.out.at_ (by omega)
      have hcw : ∀ q (hq : q < l.length), wr.cell? ⟨b, o + q, none⟩ = some (.int .i64 l[q]) := fun q hq => (hb.cell (p := ⟨b, o + q, none⟩) hbB).trans (hc q hq)
      have HCw := Lib.hid hcw
      obtain ⟨z, hz⟩ : ∃ z, z = l[ms.length] := ⟨_, rfl⟩
      have l0 := hcw ms.length hlt
      rw [← hz] at l0
      have HZ : Hid (l[i]? = some z) := by unfold Hid; rw [hie, List.getElem?_eq_getElem hlt, hz]
      have hwz := HI.out.rng z (by rw [hz]; exact List.getElem_mem _)
      have f0 := (hb.cell (p := ⟨fb, 0, none⟩) hfl).trans HF.out
      have hbw : b < wr.heap.size := by have := hb.size; omega
      have hfw : fb < wr.heap.size := by have := hb.size; omega
      have hgw : n = 0 ∨ g < wr.heap.size := by
        rcases Nat.eq_zero_or_pos n with e | e
        · exact .inl e
        · have : g < w.heap.size := World.block_lt_of_cell? w _ (HRow.out 0 e)
          have := hb.size
          exact .inr (by omega)
      have HOwn := Lib.hid hown
      have HB := Lib.hid hb
      rw [← hie] at hlt l0 hml hMn ⊢
      have HIe := Lib.hid hie
      clear hcw hc hown hb hie hz
      by_cases h1 : z < 1
      · have hd : decide (z < 1) = true := by simpa using h1
        go_wp2_with fail
        go_quiet (fail)
        go_wp2_with fail
        go_ret2
        exact ⟨_, _, _, false, rfl, by simp, below_drewN HB.out _⟩
      have hd : decide (z < 1) = false := by simpa using h1
      by_cases h2 : (n : Int) ≤ z
      · go_wp2_with fail
        go_quiet (fail)
        go_wp2_with fail
        go_ret2
        exact ⟨_, _, _, false, rfl, by simp, below_drewN HB.out _⟩
      obtain ⟨y, rfl⟩ : ∃ y : Nat, z = (y : Int) := ⟨z.toNat, by omega⟩
      have hyn : y < n := by omega
      have hy1 : 1 ≤ y := by omega
      have HLi : Hid (∀ q (hq : q < ms.length), l[q]? = some ((ms[q] : Nat) : Int)) := fun q hq => by
        have hml2 : ms.length ≤ l.length := by rw [← HIe.out]; exact hml
        rw [List.getElem?_eq_getElem (by omega), toI_mem_len hC.out hq hml2]
      have HC2 := Lib.hid hC.out
      have hin : i ≤ n := hMn
      clear hC
      go_wp2_with fail
      go_quiet (fail)
      go_wp2_with fail
      clear l0 f0
      have HBq := Lib.hid (below_drewN HB.out nq)
      have HOq : Hid ((wr.drewN nq).ownsRow w.heap.size 77 1 (.slice a1 ms.length c1) ms.length (ptrs kb ms)) := own_kept HOwn.out (fun _ _ _ => rfl)
      generalize wr.drewN nq = wq at HBq HOq ⊢
      go_loopw [8] (fun x wr => ∃ q : Nat, q ≤ i ∧ x = .int .i64 q ∧ Hid (∀ r, r < q → ms[r]? ≠ some y) ∧ Below w.heap.size w wr ∧ wr.ownsRow w.heap.size 77 1 (.slice a1 ms.length c1) ms.length (ptrs kb ms)) (fun x _ => i - (intOf x).toNat)
      case atStart => exact ⟨0, by omega, rfl, (fun r hr => by omega), HBq.out, HOq.out⟩
      case round =>
        obtain ⟨q, hq, rfl, hno, hbi, howni⟩ := hrel
        obtain ⟨wi, rfl⟩ : ∃ wi : World, wi = wr := ⟨_, rfl⟩
        have l0 : wi.cell? ⟨b, o + i, none⟩ = some (.int .i64 (y : Int)) := by
          have h1 := HI.out.at_ (by omega)
          obtain ⟨b', o', hbo, _, hc⟩ := h1
          cases hbo
          have h2 := hc i hlt
          have h3 := HZ.out
          rw [List.getElem?_eq_getElem hlt] at h3
          injection h3 with h3
          rw [h3] at h2
          exact (hbi.cell (p := ⟨b, o + i, none⟩) hbB).trans h2
        by_cases hlk : q < i
        · have hqm : q < ms.length := by rw [← HIe.out]; exact hlk
          obtain ⟨zq, hzq⟩ : ∃ zq, zq = ms[q] := ⟨_, rfl⟩
          have lq : wi.cell? ⟨b, o + q, none⟩ = some (.int .i64 (zq : Int)) := by
            have h1 := HI.out.at_ (by omega)
            obtain ⟨b', o', hbo, _, hc⟩ := h1
            cases hbo
            have hql : q < l.length := by omega
            have h2 := hc q hql
            have h3 := HLi.out q hqm
            rw [List.getElem?_eq_getElem hql] at h3
            injection h3 with h3
            rw [h3, ← hzq] at h2
            exact (hbi.cell (p := ⟨b, o + q, none⟩) hbB).trans h2
          have HZq : Hid (ms[q]? = some zq) := by unfold Hid; rw [List.getElem?_eq_getElem hqm, hzq]
          have HBi := Lib.hid hbi
          have HOi := Lib.hid howni
          clear hzq hbi howni
          by_cases e : zq = y
          · have ez : ((zq : Int) == (y : Int)) = true := beq_iff_eq.2 (by omega)
            clear e
            go_wp2_with fail
            go_quiet (fail)
            go_wp2_with fail
            go_ret2
            exact ⟨_, _, _, false, rfl, by simp, below_drewN HBi.out _⟩
          · have ez : ((zq : Int) == (y : Int)) = false := beq_eq_false_iff_ne.2 (by omega)
            have HNe : Hid (∀ r, r < q + 1 → ms[r]? ≠ some y) := fun r hr => by
              by_cases e2 : r = q
              · subst e2; rw [HZq.out]; intro e3; injection e3 with e3; exact e e3
              · exact hno.out r (by omega)
            clear e
            go_wp2_with fail
            go_quiet (fail)
            go_wp2_with fail
            go_roundw
            case rel => exact ⟨q + 1, by omega, by go_num, HNe, below_drewN HBi.out _, own_kept HOi.out (fun _ _ _ => rfl)⟩
            case measure => simp [intOf]; omega
        · have hqe : q = i := by omega
          have f0 := (hbi.cell (p := ⟨fb, 0, none⟩) hfl).trans HF.out
          have hg0 : g < w.heap.size := World.block_lt_of_cell? w _ (HRow.out y hyn)
          have e0 := (hbi.cell (p := ⟨g, y, none⟩) hg0).trans (HRow.out y hyn)
          have hbal : Below wi.heap.size wi (wi.drew.alloc (.cells #[.pointer (some ⟨kb y, 0, none⟩)] 77)) := ((Below.refl _ _).drew).alloc (Nat.le_refl _) _
          have hx : ∀ {p : Addr} {v : Value}, wi.cell? p = some v → (wi.drew.alloc (.cells #[.pointer (some ⟨kb y, 0, none⟩)] 77)).cell? p = some v := fun hp => (hbal.cell (World.block_lt_of_cell? wi _ hp)).trans hp
          have HA1 := Lib.hid (And.intro (hx f0) (And.intro (hx l0) (hx e0)))
          have hO1 : (wi.drew.alloc (.cells #[.pointer (some ⟨kb y, 0, none⟩)] 77)).ownsRow w.heap.size 77 1 (.slice a1 ms.length c1) ms.length (ptrs kb ms) := own_kept howni (fun b _ h2 => hbal.block b h2)
          have HO1 : Hid ((wi.drew.alloc (.cells #[.pointer (some ⟨kb y, 0, none⟩)] 77)).ownsRow w.heap.size 77 1 (.slice a1 i c1) ms.length (ptrs kb ms)) := by rw [HIe.out]; exact hO1
          have HR1 : Hid (RSl (wi.drew.alloc (.cells #[.pointer (some ⟨kb y, 0, none⟩)] 77)) (wi.drew.alloc (.cells #[.pointer (some ⟨kb y, 0, none⟩)] 77)).heap.size (some ⟨wi.heap.size, 0, none⟩) (ptrs kb [y])) := by
            refine .inr ⟨wi.heap.size, 0, rfl, by simp, fun q hq => ?_⟩
            have e : q = 0 := by simp [ptrs] at hq; omega
            subst e
            show World.cell? _ ⟨wi.drew.heap.size, 0, none⟩ = _
            rw [World.cell?_alloc_mark]
            rfl
          have hbW : Below w.heap.size w (wi.drew.alloc (.cells #[.pointer (some ⟨kb y, 0, none⟩)] 77)) := hbi.trans (hbal.mono hbi.size)
          have HBs : Hid (w.heap.size ≤ (wi.drew.alloc (.cells #[.pointer (some ⟨kb y, 0, none⟩)] 77)).heap.size) := hbW.size
          have HN : Hid (∀ w2, (wi.drew.alloc (.cells #[.pointer (some ⟨kb y, 0, none⟩)] 77)).grownBy w2 (Value.slice a1 i c1).ownBlock → (w2.cell? ⟨fb, 0, none⟩ = some (.slice (some ⟨g, 0, none⟩) n fc) ∧ w2.cell? ⟨b, o + i, none⟩ = some (.int .i64 (y : Int)) ∧ w2.cell? ⟨g, y, none⟩ = some (.pointer (some ⟨kb y, 0, none⟩))) ∧ Below w.heap.size w w2) := by
            intro w2 hg
            have hb2 : Below w.heap.size w w2 := hbW.grown hg hbW.size (fun k e => (HO1.out.lt k e).1)
            have hb3 : Below w.heap.size (wi.drew.alloc (.cells #[.pointer (some ⟨kb y, 0, none⟩)] 77)) w2 := (Below.refl _ _).grown hg hbW.size (fun k e => (HO1.out.lt k e).1)
            exact ⟨⟨(hb3.cell (p := ⟨fb, 0, none⟩) hfl).trans HA1.out.1, (hb3.cell (p := ⟨b, o + i, none⟩) hbB).trans HA1.out.2.1, (hb3.cell (p := ⟨g, y, none⟩) hg0).trans HA1.out.2.2⟩, hb2⟩
          have HC3 : Hid (ChoP n (l.take (i + 1)) (ms ++ [y])) := by
            have hC := HC2.out
            rw [← HIe.out] at hC
            have h3 := HZ.out
            rw [List.getElem?_eq_getElem hlt] at h3
            injection h3 with h3
            refine ⟨?_, fun m hm => ?_, ?_⟩
            · rw [List.take_succ_eq_append_getElem hlt, toI_snoc, ← hC.eq, h3]
            · rcases List.mem_append.1 hm with hm | hm
              · exact hC.rng m hm
              · rw [List.mem_singleton] at hm; subst hm; exact ⟨hy1, hyn⟩
            · rw [List.nodup_append]
              refine ⟨hC.nodup, by simp, fun u hu z hz e => ?_⟩
              rw [List.mem_singleton] at hz
              subst hz
              subst e
              obtain ⟨r, hr, he⟩ := List.getElem_of_mem hu
              exact hno.out r (by rw [hqe, HIe.out]; exact hr) (by rw [List.getElem?_eq_getElem hr, he])
          have hms : ms.length ≤ 200 := by rw [← HIe.out]; omega
          clear hno hbi howni hx hO1 hbal hbW
          go_wp2_with fail
          refine wp_region_G (G3 13 13 13 (fun w' => w'.cell? ⟨fb, 0, none⟩ = some (.slice (some ⟨g, 0, none⟩) n fc) ∧ w'.cell? ⟨b, o + i, none⟩ = some (.int .i64 (y : Int)) ∧ w'.cell? ⟨g, y, none⟩ = some (.pointer (some ⟨kb y, 0, none⟩))) (fun _ => True) (fun _ => True)) (by kernel_rfl) ?_
          have hG0 : G3 13 13 13 (fun w' => w'.cell? ⟨fb, 0, none⟩ = some (.slice (some ⟨g, 0, none⟩) n fc) ∧ w'.cell? ⟨b, o + i, none⟩ = some (.int .i64 (y : Int)) ∧ w'.cell? ⟨g, y, none⟩ = some (.pointer (some ⟨kb y, 0, none⟩))) (fun _ => True) (fun _ => True) (Array.replicate 14 false) wi.drew := ⟨fun _ => ⟨f0, l0, e0⟩, fun _ => trivial, fun _ => trivial⟩
          refine wpAnyG_take0 (i := 0) (v := ?v0) rfl (by decide +kernel) (by decide +kernel) (by decide +kernel) (fun _ _ _ h => h) (fun l w => G3.set (by decide) (by decide) (by decide) l w) (Or.inl ⟨by rfl, ?hy0⟩) hG0 (fun hG1 => ?rest0)
          case hy0 => intro W' _; go_simp <;> with_reducible rfl
          clear hG0
          simp only [Act.put, List.setIfInBounds_toArray]
          refine wpAnyG_take0 (i := 1) (v := ?v1) rfl (by decide +kernel) (by decide +kernel) (by decide +kernel) (fun _ _ _ h => h) (fun l w => G3.set (by decide) (by decide) (by decide) l w) (Or.inl ⟨by rfl, ?hy1⟩) hG1 (fun hG2 => ?rest1)
          case hy1 => intro W' _; go_simp <;> with_reducible rfl
          clear hG1
          simp only [Act.put]
          refine wpAnyG_take0 (i := 2) (v := ?v2) rfl (by decide +kernel) (by decide +kernel) (by decide +kernel) (fun _ _ _ h => h) (fun l w => G3.set (by decide) (by decide) (by decide) l w) (Or.inl ⟨by rfl, ?hy2⟩) hG2 (fun hG3 => ?rest2)
          case hy2 => intro W' _; go_simp <;> with_reducible rfl
          clear hG2
          simp only [Act.put]
          refine wpAnyG_take0 (i := 3) (v := ?v3) rfl (by decide +kernel) (by decide +kernel) (by decide +kernel) (fun _ _ _ h => h) (fun l w => G3.set (by decide) (by decide) (by decide) l w) (Or.inl ⟨by rfl, ?hy3⟩) hG3 (fun hG4 => ?rest3)
          case hy3 => intro W' _; go_simp <;> with_reducible rfl
          clear hG3
          simp only [Act.put]
          refine wpAnyG_take (i := 4) (f := 13) (v := ?v4) rfl (by decide +kernel) (by decide +kernel) (by decide +kernel) (by decide +kernel) rfl rfl (fun _ _ _ h => h) (fun _ _ h g => g.1 h) (fun l w => G3.set (by decide) (by decide) (by decide) l w) (Or.inl ⟨by rfl, ?hy4⟩) hG4 (fun hG5 => ?rest4)
          case hy4 => intro W' hS; (try dsimp only at hS); go_simp <;> with_reducible rfl
          clear hG4
          simp only [Act.put]
          refine wpAnyG_take0 (i := 5) (v := ?v5) rfl (by decide +kernel) (by decide +kernel) (by decide +kernel) (fun _ _ _ h => h) (fun l w => G3.set (by decide) (by decide) (by decide) l w) (Or.inl ⟨by rfl, ?hy5⟩) hG5 (fun hG6 => ?rest5)
          case hy5 => intro W' _; go_simp <;> with_reducible rfl
          clear hG5
          simp only [Act.put]
          refine wpAnyG_take0 (i := 6) (v := ?v6) rfl (by decide +kernel) (by decide +kernel) (by decide +kernel) (fun _ _ _ h => h) (fun l w => G3.set (by decide) (by decide) (by decide) l w) (Or.inl ⟨by rfl, ?hy6⟩) hG6 (fun hG7 => ?rest6)
          case hy6 => intro W' _; go_simp <;> with_reducible rfl
          clear hG6
          simp only [Act.put]
          refine wpAnyG_take0 (i := 7) (v := ?v7) rfl (by decide +kernel) (by decide +kernel) (by decide +kernel) (fun _ _ _ h => h) (fun l w => G3.set (by decide) (by decide) (by decide) l w) (Or.inl ⟨by rfl, ?hy7⟩) hG7 (fun hG8 => ?rest7)
          case hy7 => intro W' _; go_simp <;> with_reducible rfl
          clear hG7
          simp only [Act.put]
          refine wpAnyG_take (i := 8) (f := 13) (v := ?v8) rfl (by decide +kernel) (by decide +kernel) (by decide +kernel) (by decide +kernel) rfl rfl (fun _ _ _ h => h) (fun _ _ h g => g.1 h) (fun l w => G3.set (by decide) (by decide) (by decide) l w) (Or.inl ⟨by rfl, ?hy8⟩) hG8 (fun hG9 => ?rest8)
          case hy8 => intro W' hS; (try dsimp only at hS); go_simp <;> with_reducible rfl
          clear hG8
          simp only [Act.put]
          refine wpAnyG_take0 (i := 9) (v := ?v9) rfl (by decide +kernel) (by decide +kernel) (by decide +kernel) (fun _ _ _ h => h) (fun l w => G3.set (by decide) (by decide) (by decide) l w) (Or.inl ⟨by rfl, ?hy9⟩) hG9 (fun hG10 => ?rest9)
          case hy9 => intro W' _; go_simp <;> with_reducible rfl
          clear hG9
          simp only [Act.put]
          refine wpAnyG_take (i := 10) (f := 13) (v := ?v10) rfl (by decide +kernel) (by decide +kernel) (by decide +kernel) (by decide +kernel) rfl rfl (fun _ _ _ h => h) (fun _ _ h g => g.1 h) (fun l w => G3.set (by decide) (by decide) (by decide) l w) (Or.inl ⟨by rfl, ?hy10⟩) hG10 (fun hG11 => ?rest10)
          case hy10 => intro W' hS; (try dsimp only at hS); go_simp <;> with_reducible rfl
          clear hG10
          simp only [Act.put]
          clear hG11
          refine wpAnyG_one (i := 11) (by decide +kernel) rfl (fun K' hK => ?_)
          go_simp
          refine hK.out _ _ ⟨fun _ => HA1.out, fun _ => trivial, fun _ => trivial⟩ (fun hG9 => ?_); clear hK K' hG9
          refine wpAnyG_one (i := 12) (by decide +kernel) rfl (fun K' hK => ?_)
          refine step_append_kn _ rfl (.tmp 46) (.tmp 57) rfl kb w.heap.size (.slice a1 i c1) ms rfl HO1.out (some ⟨wi.heap.size, 0, none⟩) 1 1 [y] rfl rfl HR1.out (by simp; omega) HBs.out ?_
          intro a2 c2 w2 hown2 hg2 hat2
          obtain ⟨hc2, hb2⟩ := HN.out w2 hg2
          have HO2 := Lib.hid hown2
          have HB2 := Lib.hid hb2
          clear hown2 hg2 hat2 hb2
          refine hK.out _ _ ⟨fun _ => hc2, fun _ => trivial, fun _ => trivial⟩ (fun hG9 => ?_); clear hK K' hG9
          refine wpAnyG_one (i := 13) (by decide +kernel) rfl (fun K' hK => ?_)
          go_simp
          refine hK.out _ _ ⟨fun h => absurd h (by decide), fun h => absurd h (by decide), fun h => absurd h (by decide)⟩ (fun hG9 => ?_); clear hK K' hG9
          refine wpAnyG_done (by decide +kernel) ?_ _
          have HRel : Hid (ChoRel n kb l w (.slice a2 (ms ++ [y]).length c2) (.int .i64 ((i + 1 : Nat) : Int)) w2) := by
            have e : (ms ++ [y]).length = i + 1 := by rw [List.length_append, ← HIe.out]; rfl
            refine ⟨ms ++ [y], a2, c2, by omega, by rw [e], rfl, by rw [e]; exact HC3, HO2.out, HB2.out⟩
          clear hc2 f0 l0 e0
          go_wp2_with fail
          go_roundw
          case rel => have := HRel.out; simpa using this
          case measure => simp [intOf]; omega
    · go_wp2_with fail
      go_ret2
      have e : ms.length = l.length := by omega
      have hC2 := hC.out
      rw [e, List.take_length] at hC2
      exact ⟨_, _, _, true, rfl, fun _ => ⟨ms, hC2, rfl, hown⟩, hb⟩
end Go.Proofs.Ytmhhfljbocbolaa

namespace Go.Proofs.Ytmhhfljbocbolaa
open Go.RowKit
set_option linter.unusedVariables false

theorem Fo.Ok.kids_le {F : Fo} {S : Nat → Prop} {h : Nat → Nat} (o : F.Ok S h) {N : Nat} (hN : ∀ i, S i → i < N) (p : Nat) : (F.kids p).length ≤ N :=
  nodup_len (o.nodup p) fun x hx => hN x (o.dom p x ((o.mem p x).1 hx)).2

theorem Kno.kind {F : Fo} {S : Nat → Prop} {nd : Nat → Nd} {pl : Nat → Int} {B : Nat} {kb : Nat → Nat} {w : World} (h : Kno F S nd pl B kb w) {i : Nat} (hi : S i) : w.cell? ⟨kb i, 1, none⟩ = some (.int .i64 (nd i).kind) := (h.cells hi).2.2.1

set_option maxRecDepth 100000 in
set_option maxHeartbeats 1000000 in
theorem are_any {F : Fo} {S : Nat → Prop} {nd : Nat → Nd} {pl : Nat → Int} {B : Nat} {kb : Nat → Nat} (ms : List Nat) (hms : ∀ m ∈ ms, S m) (hl : ms.length ≤ 100000) (a : Option Addr) (c : Nat) (w : World) (hK : Kno F S nd pl B kb w) (h : RSl w w.heap.size a (ptrs kb ms)) :
    Calls Try.prog 74 #[.slice a ms.length c] w fun e w' => ∃ b, e = .returned (.bool b) ∧ (b = true → ∀ m ∈ ms, (nd m).kind = 3) ∧ w = w' := by
  have HK := Lib.hid hK
  have HH := Lib.hid h
  have HM := Lib.hid hms
  clear hK h hms
  go_enter Try.func74, Try.ntmps74
  go_wp2_with fail
  go_loopw [3] (fun x wr => ∃ k : Nat, k ≤ ms.length ∧ x = .int .i64 k ∧ Hid (∀ i (hi : i < ms.length), i < k → (nd ms[i]).kind = 3) ∧ w = wr) (fun x _ => ms.length - (intOf x).toNat)
  case atStart => exact ⟨0, by omega, rfl, (fun i _ h => by omega), rfl⟩
  case round =>
    obtain ⟨k, hk, rfl, hyes, rfl⟩ := hrel
    by_cases hlt : k < ms.length
    · obtain ⟨b, o, rfl, hbB, hc⟩ := HH.out.at_ (by rw [ptrs_length]; omega)
      have g1 := hc k (by rw [ptrs_length]; exact hlt)
      rw [ptrs_at hlt] at g1
      have g2 := HK.out.kind (HM.out ms[k] (List.getElem_mem hlt))
      obtain ⟨m, hm⟩ : ∃ m, m = ms[k] := ⟨_, rfl⟩
      rw [← hm] at g1 g2
      have HMk := Lib.hid hm
      clear hc hm
      by_cases e : (nd m).kind = 3
      · have ez : ((nd m).kind != 3) = false := by rw [e]; rfl
        have HY : Hid (∀ i (hi : i < ms.length), i < k + 1 → (nd ms[i]).kind = 3) := fun i hi hik => by
          by_cases e2 : i = k
          · subst e2; rw [← HMk.out]; exact e
          · exact hyes.out i hi (by omega)
        clear e
        go_wp2_with fail
        go_roundw
        case rel => exact ⟨k + 1, by omega, by go_num, HY, by trivial⟩
        case measure => simp [intOf]; omega
      · have ez : ((nd m).kind != 3) = true := by simpa using e
        clear e
        go_wp2_with fail
        go_ret
        exact ⟨false, rfl, by simp, rfl⟩
    · go_wp2_with fail
      go_ret
      refine ⟨true, rfl, fun _ m hm => ?_, rfl⟩
      obtain ⟨i, hi, rfl⟩ := List.getElem_of_mem hm
      exact hyes.out i hi (by omega)

def clearAll (F : Fo) (ms : List Nat) : Fo := ms.foldl Fo.clear F
theorem clearAll_snoc (F : Fo) (ms : List Nat) (m : Nat) : clearAll F (ms ++ [m]) = (clearAll F ms).clear m := by simp [clearAll]
theorem clearAll_ok {F : Fo} {S : Nat → Prop} {h : Nat → Nat} (o : F.Ok S h) (ms : List Nat) : (clearAll F ms).Ok S h := by
  unfold clearAll
  induction ms generalizing F with
  | nil => exact o
  | cons m ms ih => exact ih (o.clear m)

/-- How many kids a knot has, read off memory. -/
def kidsOf (kb : Nat → Nat) (m : Nat) (w : World) : Nat := match w.cell? ⟨kb m, 7, none⟩ with | some (.slice _ n _) => n | _ => 0
theorem Kno.kidsOf {F : Fo} {S : Nat → Prop} {nd : Nat → Nd} {pl : Nat → Int} {B : Nat} {kb : Nat → Nat} {w : World} (h : Kno F S nd pl B kb w) {i : Nat} (hi : S i) : kidsOf kb i w = (F.kids i).length := by
  obtain ⟨_, _, _, ka, kc, c7, _⟩ := h.cells hi
  unfold Go.Proofs.Ytmhhfljbocbolaa.kidsOf
  rw [c7]

def StepPost (S : Nat → Prop) (kb : Nat → Nat) (n : Nat) (l : List Int) (R : List Nat → World → Prop) (w : World) (e : Ending) (w' : World) : Prop :=
  ∃ b, e = .returned (.bool b) ∧ (b = true → ∃ ms, ChoP n l ms ∧ ms ≠ [] ∧ R ms w') ∧ KTurn S kb w w'

set_option maxRecDepth 100000 in
set_option maxHeartbeats 4000000 in
theorem step_empty {F : Fo} {ht : Nat → Nat} {n : Nat} (o : F.Ok (fun i => i < n) ht) {nd : Nat → Nd} {pl : Nat → Int} {B : Nat} {kb : Nat → Nat} (fb g fc : Nat) (hn : n ≤ 200) (w : World) (hBw : B ≤ w.heap.size) (hK : Kno F (fun i => i < n) nd pl B kb w) (hf : w.cell? ⟨fb, 0, none⟩ = some (.slice (some ⟨g, 0, none⟩) n fc)) (hrow : ∀ j, j < n → w.cell? ⟨g, j, none⟩ = some (.pointer (some ⟨kb j, 0, none⟩))) (ad : Option Addr) (c : Nat) (l : List Int) (hl : l.length ≤ 2147483647) (hi : ISl w w.heap.size ad l) :
    Calls Try.prog 48 #[.pointer (some ⟨fb, 0, none⟩), .agg #[.int .i64 7, .slice ad l.length c, .slice none 0 0, .string ⟨#[]⟩, .string ⟨#[]⟩, .slice none 0 0]] w
      (StepPost (fun i => i < n) kb n l (fun ms w' => (∀ m ∈ ms, (nd m).kind = 3) ∧ Kno (clearAll F ms) (fun i => i < n) nd pl B kb w') w) := by
  obtain ⟨W0, hW0⟩ : ∃ W0, W0 = w.alloc (.cells #[.int .i64 7, .slice ad l.length c, .slice none 0 0, .string ⟨#[]⟩, .string ⟨#[]⟩, .slice none 0 0] 27) := ⟨_, rfl⟩
  have hb0 : Below w.heap.size w W0 := by rw [hW0]; exact (Below.refl _ _).alloc (Nat.le_refl _) _
  have hx : ∀ {p : Addr} {v : Value}, w.cell? p = some v → W0.cell? p = some v := fun hp => (hb0.cell (World.block_lt_of_cell? w _ hp)).trans hp
  have HC := Lib.hid (kchosen_any n fb g fc kb hn W0 (hx hf) (fun j hj => hx (hrow j hj)) ad c l hl (hi.up hb0))
  have HC2 := Lib.hid (fun W (hb : Below W0.heap.size W0 W) => kchosen_any n fb g fc kb hn W ((hb.cell (p := ⟨fb, 0, none⟩) (World.block_lt_of_cell? W0 _ (hx hf))).trans (hx hf)) (fun j hj => (hb.cell (p := ⟨g, j, none⟩) (World.block_lt_of_cell? W0 _ (hx (hrow j hj)))).trans (hx (hrow j hj))) none 0 [] (by simp) ⟨.inl rfl, by simp, by simp⟩)
  have HO := Lib.hid o
  have HK := Lib.hid hK
  have HB0 := Lib.hid hb0
  have hs0 : W0.heap.size = w.heap.size + 1 := by rw [hW0]; simp
  have q0 : ∀ W, Below W0.heap.size W0 W → W.cell? ⟨w.heap.size, 0, none⟩ = some (.int .i64 7) ∧ W.cell? ⟨w.heap.size, 1, none⟩ = some (.slice ad l.length c) ∧ W.cell? ⟨w.heap.size, 2, none⟩ = some (.slice none 0 0) := by
    intro W hb
    have : W.heap[w.heap.size]? = some (.cells #[.int .i64 7, .slice ad l.length c, .slice none 0 0, .string ⟨#[]⟩, .string ⟨#[]⟩, .slice none 0 0] 27 (0, 0)) := by
      rw [hb.block _ (by omega), hW0]; exact heap_alloc_new w _
    exact ⟨by rw [cell_of_row W _ _ _ _ _ this]; rfl, by rw [cell_of_row W _ _ _ _ _ this]; rfl, by rw [cell_of_row W _ _ _ _ _ this]; rfl⟩
  have HQ := Lib.hid q0
  clear hb0 hx hK hf hrow hi o q0
  go_enter Try.func48, Try.ntmps48
  go_wp2_with fail
  rw [← hW0]
  clear hW0
  refine HC.out.mono ?_
  rintro e w1 ⟨a1, c1, m1, b1, rfl, hyes1, hb1⟩
  obtain ⟨z0, z1, z2⟩ := HQ.out w1 hb1
  have HB1 := Lib.hid hb1
  have HY1 := Lib.hid hyes1
  clear hb1 hyes1
  go_wp2_with fail
  refine (show Calls Try.prog _ #[_, .slice none 0 0] _ _ from HC2.out w1 HB1.out).mono ?_
  rintro e w2 ⟨a2, c2, m2, b2, rfl, hyes2, hb2⟩
  have HB2 := Lib.hid (bnext HB1.out hb2)
  have HB12 := Lib.hid hb2
  have HKT : Hid (KTurn (fun i => i < n) kb w w2) := KTurn.of_below (bnext HB0.out HB2.out)
  clear hb2 hyes2 z0 z1 z2
  obtain ⟨z0, z1, z2⟩ := HQ.out w2 HB2.out
  cases b1
  · go_wp2_with fail
    go_ret
    exact ⟨false, rfl, by simp, HKT.out⟩
  obtain ⟨ms, hC, rfl, hown⟩ := HY1.out rfl
  cases b2
  · clear hC hown
    go_wp2_with fail
    go_ret
    exact ⟨false, rfl, by simp, HKT.out⟩
  have hown2 : w2.ownsRow W0.heap.size 77 1 (.slice a1 ms.length c1) ms.length (ptrs kb ms) := own_kept hown (fun b _ h2 => HB12.out.block b h2)
  have HC1 := Lib.hid hC
  have HOwn := Lib.hid hown2
  have hml : ms.length ≤ n := nodup_len hC.nodup (fun x hx => (hC.rng x hx).2)
  clear hC hown hown2
  rcases Nat.eq_zero_or_pos ms.length with h0 | h0
  · have ez : ((ms.length : Int) == 0) = true := beq_iff_eq.2 (by omega)
    clear h0
    go_wp2_with fail
    go_ret
    exact ⟨false, rfl, by simp, HKT.out⟩
  have ez : ((ms.length : Int) == 0) = false := beq_eq_false_iff_ne.2 (by omega)
  have HNe : Hid (ms ≠ []) := fun e => by rw [e] at h0; simp at h0
  have HK2 := Lib.hid (HK.out.up (bnext HB0.out HB2.out))
  have HBw2 : Hid (B ≤ w2.heap.size) := by have := (bnext HB0.out HB2.out).size; unfold Hid; omega
  have HRowW : Hid (∀ W, KTurn (fun i => i < n) kb w2 W → W.ownsRow W0.heap.size 77 1 (.slice a1 ms.length c1) ms.length (ptrs kb ms)) := fun W hW => hW.own HOwn.out (fun i hi e => by
    have h1 := (HOwn.out.lt _ e).1
    have h2 := HK.out.lt hi
    omega)
  go_wp2_with fail
  go_loopw [10] (fun x wr => ∃ i : Nat, i ≤ ms.length ∧ x = .int .i64 i ∧ Kno (clearAll F (ms.take i)) (fun i => i < n) nd pl B kb wr ∧ KTurn (fun i => i < n) kb w2 wr) (fun x _ => ms.length - (intOf x).toNat)
  case atStart => exact ⟨0, by omega, rfl, HK2.out, KTurn.refl _ _ _⟩
  case round =>
    obtain ⟨i, hi, rfl, hKi, hTi⟩ := hrel
    obtain ⟨wo, rfl⟩ : ∃ wo : World, wo = wr := ⟨_, rfl⟩
    have HKi := Lib.hid hKi
    have HTi := Lib.hid hTi
    clear hKi hTi
    by_cases hlt : i < ms.length
    · obtain ⟨m, hm⟩ : ∃ m, m = ms[i] := ⟨_, rfl⟩
      have hmn : m < n := by rw [hm]; exact (HC1.out.rng _ (List.getElem_mem hlt)).2
      have HTake : Hid (clearAll F (ms.take (i + 1)) = (clearAll F (ms.take i)).clear m) := by rw [Hid, List.take_succ_eq_append_getElem hlt, clearAll_snoc, hm]
      have HPtr : Hid (∀ W, KTurn (fun i => i < n) kb w2 W → ∃ b o, a1 = some ⟨b, o, none⟩ ∧ W.cell? ⟨b, o + i, none⟩ = some (.pointer (some ⟨kb m, 0, none⟩))) := fun W hW => by
        obtain ⟨_, _, hv, _, hr⟩ := RSl.own (HRowW.out W hW)
        cases hv
        obtain ⟨b, o, rfl, _, hc⟩ := hr.at_ (by rw [ptrs_length]; omega)
        have g1 := hc i (by rw [ptrs_length]; exact hlt)
        rw [ptrs_at hlt, ← hm] at g1
        exact ⟨b, o, rfl, g1⟩
      obtain ⟨b, o, rfl, -⟩ := HPtr.out wo HTi.out
      clear hm
      go_wp2_with fail
      go_loopw [79] (fun _ wr => ∃ F', F'.Ok (fun i => i < n) ht ∧ Kno F' (fun i => i < n) nd pl B kb wr ∧ F'.clear m = clearAll F (ms.take (i + 1)) ∧ KTurn (fun i => i < n) kb w2 wr) (fun _ wr => kidsOf kb m wr)
      case atStart => exact ⟨_, clearAll_ok HO.out _, HKi.out, HTake.out.symm, HTi.out⟩
      case round =>
        obtain ⟨F', hO', hK', hcl, hT'⟩ := hrel
        obtain ⟨b', o', hbo, g1⟩ := HPtr.out wr hT'
        cases hbo
        obtain ⟨-, -, -, ka, kc, c7, hkc, hkr⟩ := hK'.cells hmn
        have HO' := Lib.hid hO'
        have HK' := Lib.hid hK'
        have HCl := Lib.hid hcl
        have HT' := Lib.hid hT'
        have hk100 : (F'.kids m).length ≤ 100000 := by have := hO'.kids_le (N := n) (fun i hi => hi) m; omega
        cases hk : F'.kids m with
        | nil =>
          rw [hk] at c7
          have HD : Hid (F' = clearAll F (ms.take (i + 1))) := by rw [Hid, ← hcl, Fo.clear_done hO' hk]
          clear hO' hK' hcl hT' hkr hkc hk100 hk
          go_wp2_with fail
          go_roundw
          case rel => exact ⟨i + 1, by omega, by go_num, by rw [← HD.out]; exact HK'.out, HT'.out⟩
          case measure => simp [intOf]; omega
        | cons x l' =>
          have hpx : F'.par x = some m := (hO'.mem m x).1 (by rw [hk]; exact List.mem_cons_self)
          have hxn : x < n := (hO'.dom m x hpx).2
          have hpos : 0 < (F'.kids m).length := by rw [hk]; simp
          obtain ⟨_, _, hv, _, hr⟩ := RSl.own hkr
          cases hv
          obtain ⟨bk, ok, rfl, _, hck⟩ := hr.at_ (by rw [ptrs_length]; exact hpos)
          have gk := hck 0 (by rw [ptrs_length]; exact hpos)
          rw [ptrs_at hpos] at gk
          simp only [hk, List.getElem_cons_zero, Nat.add_zero] at gk
          have HCut := Lib.hid (cut_any hO' hK' (by have := hT'.size; have := HBw2.out; omega) x hxn (fun p => by have := hO'.kids_le (N := n) (fun i hi => hi) p; omega))
          have HKid : Hid (kidsOf kb m wr = (F'.kids m).length) := hK'.kidsOf hmn
          have HFst : Hid ((F'.cut x).kids m = l') := Fo.cut_first hO' hk
          have HCl2 : Hid ((F'.cut x).clear m = clearAll F (ms.take (i + 1))) := by rw [Hid, ← hcl]; exact Fo.clear_cut hO' hpx
          have HLen : Hid ((F'.kids m).length = l'.length + 1) := by rw [Hid, hk]; rfl
          clear hO' hK' hcl hT' hkr hk hpx hr hck
          go_wp2_with fail
          refine HCut.out.mono ?_
          rintro e w3 ⟨rfl, hK3, hT3⟩
          have HK3 := Lib.hid hK3
          have HT3 := Lib.hid hT3
          clear hK3 hT3
          go_wp2_with fail
          go_roundw
          case rel => exact ⟨F'.cut x, HO'.out.cut x, HK3.out, HCl2.out, HT'.out.trans HT3.out⟩
          case measure => rw [HK3.out.kidsOf hmn, HKid.out, HFst.out, HLen.out]; omega
    · have e : i = ms.length := by omega
      subst e
      have hKe := HKi.out
      rw [List.take_length] at hKe
      have HKe := Lib.hid hKe
      obtain ⟨_, _, hv, _, hr⟩ := RSl.own (HRowW.out wo HTi.out)
      cases hv
      have HAre := Lib.hid (are_any ms (fun m hm => (HC1.out.rng m hm).2) (by omega) a1 c1 wo HKe.out hr)
      clear hKe hr HKi
      go_wp2_with fail
      refine HAre.out.mono ?_
      rintro e w3 ⟨b3, rfl, hb3, rfl⟩
      have HB3 := Lib.hid hb3
      clear hb3
      go_wp2_with fail
      go_ret
      exact ⟨b3, rfl, fun h => ⟨ms, HC1.out, HNe.out, HB3.out h, HKe.out⟩, HKT.out.trans HTi.out⟩
end Go.Proofs.Ytmhhfljbocbolaa

namespace Go.Proofs.Ytmhhfljbocbolaa
open Go.RowKit
set_option linter.unusedVariables false

theorem Turn.own {S : Nat → Prop} {bl : Nat → Nat} {B : Nat} {a b : World} (h : Turn S bl B a b) {base e size n : Nat} {v : Value} {xs : List Value} (ho : a.ownsRow base e size v n xs) (hB : ∀ g, v.ownBlock = some g → g < B) (hn : ∀ i, S i → v.ownBlock ≠ some (bl i)) : b.ownsRow base e size v n xs :=
  own_block ho fun g hg _ => h.block g (hB g hg) (fun i hi e => hn i hi (by rw [hg, e]))

theorem Prog.own_ne {F : Fo} {S : Nat → Prop} {nd : Nat → Nd} {B : Nat} {bl : Nat → Nat} {st : Nat → Dn} {w : World} (h : Prog F S nd B bl st w) {base e size n : Nat} {v : Value} {xs : List Value} (ho : w.ownsRow base e size v n xs) (he : e ≠ 89) : ∀ i, S i → v.ownBlock ≠ some (bl i) := fun i hi => by
  obtain ⟨_, _, _, hh, _⟩ := h.dom.node i hi
  exact Go.Proofs.Ytmhhfljbocbolaa.own_ne ho hh he

/-- Nodes are kept where a row of pointers grows. -/
theorem Prog.grown {F : Fo} {S : Nat → Prop} {nd : Nat → Nd} {B : Nat} {bl : Nat → Nat} {st : Nat → Dn} {w w' : World} (h : Prog F S nd B bl st w) {U : Value} {B2 n2 : Nat} {x2 : List Value} (hU : w.ownsRow B2 69 1 U n2 x2) (hg : w.grownBy w' U.ownBlock) : Prog F S nd B bl st w' :=
  h.rturn (V := .slice none 0 0) (RTurn.of_grown2 hg) (World.ownsRow_nil w B2 47 5) hU

def EmptyPost (F : Fo) (S : Nat → Prop) (nd : Nat → Nd) (B : Nat) (bl : Nat → Nat) (w : World) (e : Ending) (w' : World) : Prop :=
  ∃ g, e = .returned (.pointer (some ⟨g, 0, none⟩)) ∧ (∃ st, Prog F S nd B bl st w') ∧ Turn S bl w.heap.size w w'

set_option maxRecDepth 100000 in
set_option maxHeartbeats 8000000 in
theorem empty_any {F : Fo} {S : Nat → Prop} {ht : Nat → Nat} (o : F.Ok S ht) {nd : Nat → Nd} {B : Nat} {bl : Nat → Nat} {st : Nat → Dn} {N : Nat} (hN : N ≤ 1000) (hS : ∀ i, S i → i < N) (ms : List Nat) (hms : ∀ m ∈ ms, S m) (hml : ms.length ≤ 1000) (w : World) (hP : Prog F S nd B bl st w)
    (C g : Nat) (doc : Option Addr) (hsel : SelOf bl ms C g doc w) :
    Calls Try.prog 32 #[.pointer (some ⟨g, 0, none⟩)] w (EmptyPost (clearAll F ms) S nd B bl w) := by
  obtain ⟨i0, hinf, hz0, hz1, hz2⟩ := info_parts Try.infoP
  have hmk := fun (n : Nat) (hn : n ≤ 1000000) => run_make_rowN (P := Try.prog) 60 69 i0 (.pointer none) Try.underlying60 hinf hz0 .i64 .i64 0 n (by omega) (by rw [hz2]; omega) (by omega)
  have HMk := Lib.hid hmk
  obtain ⟨a1, c1, prev, hsb, hCg, hown, -⟩ := hsel
  obtain ⟨z0, -, -⟩ := hsb.cells
  have hgl := hsb.lt
  have HO := Lib.hid o
  have HP := Lib.hid hP
  have HSb := Lib.hid hsb
  have HOwn := Lib.hid hown
  have HMs := Lib.hid hms
  have HKl : Hid (∀ {F' : Fo}, F'.Ok S ht → ∀ p, (F'.kids p).length ≤ 1000) := fun o' p => by have := o'.kids_le hS p; omega
  have HRow : Hid (∀ W, Turn S bl w.heap.size w W → W.ownsRow C 69 1 (.slice a1 ms.length c1) ms.length (ptrs bl ms)) := fun W hW =>
    hW.own hown (fun q hq => (hown.lt q hq).2) (hP.own_ne hown (by decide))
  have HSel : Hid (∀ W, Turn S bl w.heap.size w W → SelB W g a1 ms.length c1 doc prev) := fun W hW => by
    refine (hW.block g hgl fun i hi e => ?_).trans hsb
    obtain ⟨_, _, _, hh, _⟩ := hP.dom.node i hi
    exact types_ne hsb hh (by decide) e
  have HPtr : Hid (∀ i (hi : i < ms.length) W, Turn S bl w.heap.size w W → ∃ b o, a1 = some ⟨b, o, none⟩ ∧ W.cell? ⟨b, o + i, none⟩ = some (.pointer (some ⟨bl ms[i], 0, none⟩))) := fun i hi W hW => by
    obtain ⟨_, _, hv, _, hr⟩ := RSl.own (HRow.out W hW)
    cases hv
    obtain ⟨b, o, rfl, _, hc⟩ := hr.at_ (by rw [ptrs_length]; omega)
    have g1 := hc i (by rw [ptrs_length]; exact hi)
    rw [ptrs_at hi] at g1
    exact ⟨b, o, rfl, g1⟩
  clear o hP hsb hown hms hmk
  go_enter Try.func32, Try.ntmps32
  go_wp2_with fail
  go_loopw [3, 16] (fun v x wr => ∃ i cn : Nat, i ≤ ms.length ∧ x = .int .i64 i ∧ v = .int .i64 cn ∧ cn ≤ i * 1000 ∧ wr = w) (fun _ x _ => ms.length - (intOf x).toNat)
  case atStart => exact ⟨0, 0, by omega, rfl, rfl, by omega, rfl⟩
  case round =>
    obtain ⟨i, cn, hi, rfl, rfl, hcn, rfl⟩ := hrel
    by_cases hlt : i < ms.length
    · obtain ⟨b, og, rfl, g1⟩ := HPtr.out i hlt wr (Turn.refl _ _ _ _)
      have hSm := HMs.out ms[i] (List.getElem_mem hlt)
      obtain ⟨m, hm⟩ : ∃ m, m = ms[i] := ⟨_, rfl⟩
      rw [← hm] at g1 hSm
      have f1 := (HP.out.dom.cells hSm).2.2.1
      rw [(HP.out.fit m hSm).fst, List.head?_eq_getElem?] at f1
      have hkl := HKl.out HO.out m
      clear hm
      go_wp2_with fail
      go_loopw [3, 6] (fun v y wi => ∃ j : Nat, j ≤ (F.kids m).length ∧ y = ptrTo bl ((F.kids m)[j]?) ∧ v = .int .i64 ((cn + j : Nat) : Int) ∧ wi = wr) (fun v _ _ => cn + (F.kids m).length - (intOf v).toNat)
      case atStart => exact ⟨0, Nat.zero_le _, rfl, rfl, rfl⟩
      case round =>
        obtain ⟨j, hj, rfl, rfl, rfl⟩ := hrel
        clear f1
        by_cases hlj : j < (F.kids m).length
        · obtain ⟨y, hy⟩ : ∃ y, y = (F.kids m)[j] := ⟨_, rfl⟩
          have hpy : F.par y = some m := (HO.out.mem m _).1 (by rw [hy]; exact List.getElem_mem hlj)
          have hSy := (HO.out.dom _ _ hpy).2
          have ey : (F.kids m)[j]? = some y := by rw [List.getElem?_eq_getElem hlj, hy]
          have f4 := (HP.out.dom.cells hSy).2.2.2.2.2.1
          have hnx : (st y).nxt = (F.kids m)[j + 1]? := by
            rw [((HP.out.fit y hSy).sib m hpy).2, hy]
            exact nextIn_get (HO.out.nodup m) hlj
          rw [hnx] at f4
          rw [ey]
          simp only [ptrTo, Option.map_some] at f4 ⊢
          obtain ⟨nx, hnx2⟩ : ∃ nx : Option Addr, ((F.kids m)[j + 1]?).map (fun q => (⟨bl q, 0, none⟩ : Addr)) = nx := ⟨_, rfl⟩
          rw [hnx2] at f4
          have HNx := Lib.hid hnx2
          clear hy ey hnx hnx2
          go_wp2_with fail
          go_roundw
          case rel => exact ⟨j + 1, by omega, by rw [← HNx.out], by go_num, by trivial⟩
          case measure => simp [intOf]; omega
        · have ej : j = (F.kids m).length := by omega
          subst ej
          have ey : (F.kids m)[(F.kids m).length]? = none := by simp
          rw [ey]
          simp only [ptrTo, Option.map_none]
          go_wp2_with fail
          go_roundw
          case rel => exact ⟨i + 1, cn + (F.kids m).length, by omega, by go_num, rfl, by omega, by trivial⟩
          case measure => simp [intOf]; omega
    · have e : i = ms.length := by omega
      subst e
      obtain ⟨W0, rfl⟩ : ∃ W0 : World, W0 = wr := ⟨_, rfl⟩
      have hmkn : ∀ w : World, (Instr.makeSlice 60 (.int .i64 0) (.int .i64 (cn : Int))).run Try.prog w = .ok (.slice (some ⟨w.heap.size, 0, none⟩) 0 cn) (w.alloc (.cells (madeCells #[.pointer none] cn) 69)) := fun w => by
        have h := HMk.out cn (by omega) w
        rw [hz1, Nat.mul_one] at h
        exact h
      have hb1 : Below W0.heap.size W0 (W0.alloc (.cells (madeCells #[.pointer none] cn) 69)) := (Below.refl _ _).alloc (Nat.le_refl _) _
      have HB1 := Lib.hid hb1
      have HRow0 : Hid ((W0.alloc (.cells (madeCells #[.pointer none] cn) 69)).ownsRow W0.heap.size 69 1 (.slice (some ⟨W0.heap.size, 0, none⟩) 0 cn) 0 []) := by
        refine ⟨rfl, .inr ⟨W0.heap.size, cn, _, rfl, Nat.le_refl _, heap_alloc_new W0 _, Nat.zero_le _, by unfold maxLen; omega, ?_, rfl⟩⟩
        show (madeCells #[.pointer none] cn).size = _
        rw [size_madeCells]; omega
      obtain ⟨z0', -, -⟩ := (HSel.out _ (Turn.of_below hb1)).cells
      clear hb1
      go_wp2_with fail
      go_loopw [7, 40] (fun v x wr => ∃ (i : Nat) (rs : List Nat) (a : Option Addr) (c m : Nat), i ≤ ms.length ∧ x = .int .i64 i ∧ v = .slice a m c ∧ m = rs.length ∧ m ≤ i * 1000 ∧ wr.ownsRow W0.heap.size 69 1 (.slice a m c) m (ptrs bl rs) ∧ (∃ st, Prog (clearAll F (ms.take i)) S nd B bl st wr) ∧ Turn S bl W0.heap.size W0 wr) (fun _ x _ => ms.length - (intOf x).toNat)
      case atStart => exact ⟨0, [], _, _, 0, by omega, rfl, rfl, rfl, by omega, HRow0.out, ⟨st, HP.out.kept HB1.out⟩, Turn.of_below HB1.out⟩
      case round =>
        clear z0'
        obtain ⟨i, rs, a, c, k, hi, rfl, rfl, hk, hk2, hrow, ⟨st1, hP1⟩, hT⟩ := hrel
        subst hk
        obtain ⟨wa, rfl⟩ : ∃ wa : World, wa = wr := ⟨_, rfl⟩
        by_cases hlt : i < ms.length
        · have hT0 := Lib.hid hT
          obtain ⟨b, og, rfl, g1⟩ := HPtr.out i hlt _ hT
          have hSm := HMs.out ms[i] (List.getElem_mem hlt)
          have HTake : Hid (clearAll F (ms.take (i + 1)) = (clearAll F (ms.take i)).clear ms[i]) := by rw [Hid, List.take_succ_eq_append_getElem hlt, clearAll_snoc]
          obtain ⟨m, hm⟩ : ∃ m, m = ms[i] := ⟨_, rfl⟩
          rw [← hm] at g1 hSm HTake
          have f1 := (hP1.dom.cells hSm).2.2.1
          rw [(hP1.fit m hSm).fst, List.head?_eq_getElem?] at f1
          have hO1 := clearAll_ok HO.out (ms.take i)
          have hkl := HKl.out hO1 m
          have HO1 := Lib.hid hO1
          have HP1 := Lib.hid hP1
          have HR1 := Lib.hid hrow
          obtain ⟨K0, hK0⟩ : ∃ K0, K0 = ((clearAll F (ms.take i)).kids m).length := ⟨_, rfl⟩
          have HK0 := Lib.hid hK0
          rw [← hK0] at hkl
          clear hm hT hP1 hrow hO1 hK0
          go_wp2_with fail
          clear f1
          go_loopw [7, 10] (fun v y wr => ∃ (F' : Fo) (rs' : List Nat) (a : Option Addr) (c m' : Nat), F'.Ok S ht ∧ F'.clear m = clearAll F (ms.take (i + 1)) ∧ y = ptrTo bl ((F'.kids m)[0]?) ∧ v = .slice a m' c ∧ m' = rs'.length ∧ m' + (F'.kids m).length ≤ rs.length + K0 ∧ wr.ownsRow W0.heap.size 69 1 (.slice a m' c) m' (ptrs bl rs') ∧ (∃ st, Prog F' S nd B bl st wr) ∧ Turn S bl W0.heap.size W0 wr) (fun v _ _ => rs.length + K0 - lenOf v)
          case atStart => exact ⟨_, rs, _, _, _, HO1.out, HTake.out.symm, rfl, rfl, rfl, by rw [HK0.out]; exact Nat.le_refl _, HR1.out, ⟨st1, HP1.out⟩, hT0.out⟩
          case round =>
            obtain ⟨F', rs', a', c', m', hO', hcl, rfl, rfl, hm', hle, hrow, ⟨st', hP'⟩, hT⟩ := hrel
            subst hm'
            obtain ⟨wi, rfl⟩ : ∃ wi : World, wi = wr := ⟨_, rfl⟩
            have HO' := Lib.hid hO'
            have HP' := Lib.hid hP'
            have HCl := Lib.hid hcl
            have HT := Lib.hid hT
            have HR := Lib.hid hrow
            have hwi : W0.heap.size ≤ wi.heap.size := hT.size
            cases hk : F'.kids m with
            | nil =>
              have HD : Hid (F' = clearAll F (ms.take (i + 1))) := by rw [Hid, ← hcl, Fo.clear_done hO' hk]
              have ey : ([] : List Nat)[0]? = none := rfl
              rw [hk, List.length_nil] at hle
              simp only [ey, ptrTo, Option.map_none]
              clear hO' hcl hT hP' hrow hk ey
              go_wp2_with fail
              go_roundw
              case rel => exact ⟨i + 1, rs', a', c', _, by omega, by go_num, rfl, rfl, by omega, HR.out, ⟨st', by rw [← HD.out]; exact HP'.out⟩, HT.out⟩
              case measure => simp [intOf]; omega
            | cons x l' =>
              have hpx : F'.par x = some m := (hO'.mem m x).1 (by rw [hk]; exact List.mem_cons_self)
              have hSx : S x := (hO'.dom m x hpx).2
              have hle2 : rs'.length + l'.length + 1 ≤ rs.length + K0 := by rw [hk, List.length_cons] at hle; omega
              have HRem := Lib.hid (removeP_any hO' wi B bl st' hP' m x hpx)
              have HFst : Hid ((F'.cut x).kids m = l') := Fo.cut_first hO' hk
              have HCl2 : Hid ((F'.cut x).clear m = clearAll F (ms.take (i + 1))) := by rw [Hid, ← hcl]; exact Fo.clear_cut hO' hpx
              have ey : (x :: l')[0]? = some x := rfl
              simp only [ey, ptrTo, Option.map_some]
              clear hO' hcl hT hP' hrow hk hpx ey hle
              go_wp2_with fail
              refine HRem.out.mono ?_
              rintro e w3 ⟨rfl, ⟨st3, hP3⟩, hO3⟩
              have hr3 := own_block HR.out (w' := w3) (fun b hb _ => hO3.block b (fun q hq e => HP'.out.own_ne HR.out (by decide) q hq (by rw [hb, e])))
              have HR3 := Lib.hid (hr3.alloc (.cells #[.pointer (some ⟨bl x, 0, none⟩)] 69))
              have hs3 : wi.heap.size ≤ w3.heap.size := Nat.le_of_eq hO3.size.symm
              have HP3 := Lib.hid hP3
              have HO3 := Lib.hid hO3
              clear hr3 hP3 hO3
              go_wp2_with (at_builtin; refine wpList_append_pn _ rfl (.tmp 57) (.tmp 59) rfl bl W0.heap.size (.slice a' rs'.length c') rs' rfl HR3.out (some ⟨w3.heap.size, 0, none⟩) 1 1 [x] rfl rfl ?c1 (by simp; omega) (by simp; omega) ?_)
              case c1 => exact pn_reads w3 bl x
              intro a4 c4 w4 hown4 hg4 hat4
              have hbA : Below w3.heap.size w3 (w3.alloc (.cells #[.pointer (some ⟨bl x, 0, none⟩)] 69)) := (Below.refl _ _).alloc (Nat.le_refl _) _
              have hP4 := (HP3.out.kept hbA).grown HR3.out hg4
              have hT4 : Turn S bl W0.heap.size W0 w4 := HT.out.trans ((Turn.of_only HO3.out).trans (Turn.of_below (((Below.refl _ _).alloc (by omega) _).grown hg4 (by simp; omega) (fun q hq => (HR3.out.lt q hq).1))))
              have f1 := (hP4.dom.cells hSm).2.2.1
              rw [(hP4.fit m hSm).fst, List.head?_eq_getElem?] at f1
              have HP4 := Lib.hid hP4
              have HT4 := Lib.hid hT4
              have HR4 := Lib.hid hown4
              clear hP4 hT4 hown4 hg4 hat4 hbA
              go_wp2_with fail
              go_roundw
              case rel =>
                refine ⟨F'.cut x, rs' ++ [x], a4, c4, _, HO'.out.cut x, HCl2.out, rfl, rfl, by simp, ?_, by simpa using HR4.out, ⟨st3, HP4.out⟩, HT4.out⟩
                rw [HFst.out]; omega
              case measure => simp only [lenOf]; omega
        · have e : i = ms.length := by omega
          subst e
          rw [List.take_length] at hP1
          have HPe := Lib.hid hP1
          have HTe := Lib.hid hT
          have HSe := Lib.hid (HSel.out _ hT)
          have hwa : W0.heap.size ≤ wa.heap.size := hT.size
          clear hP1 hT hrow
          go_wp2_with fail
          refine (push_any g a1 ms.length c1 doc prev a rs.length c wa HSe.out).mono ?_
          rintro e w5 ⟨rfl, _, hb5⟩
          have HB5 := Lib.hid hb5
          clear hb5
          go_wp2_with fail
          go_ret
          exact ⟨_, rfl, ⟨st1, HPe.out.kept HB5.out⟩, HTe.out.trans (Turn.of_below (HB5.out.mono hwa))⟩
end Go.Proofs.Ytmhhfljbocbolaa

namespace Go.Proofs.Ytmhhfljbocbolaa
open Go.RowKit
set_option linter.unusedVariables false

/-- A step that neither makes nor loses knots keeps the reference's forest. -/
theorem KF.turn {n g fc fb : Nat} {F F' : Fo} {S : Nat → Prop} {h h' : Nat → Nat} {nd : Nat → Nd} {kb : Nat → Nat} {op : Bool} {w w' : World} (H : KF n g fc fb F S h nd kb op w) (k : KTurn S kb w w') (ok : F'.Ok S h') (hK : Kno F' S nd (fun i => if i < n then (i : Int) else -1) fb kb w') (hl : (F'.all h' 0).length ≤ 100000) : KF n g fc fb F' S h' nd kb op w' := by
  obtain ⟨m, hm⟩ := H.fst
  refine ⟨ok, hK, H.ndb, H.sub, ⟨m, ?_⟩, k.own H.row fun i hi => ?_, hl⟩
  · rw [k.block _ (Array.getElem?_eq_some_iff.1 hm).1 (fun i hi => ?_)]
    · exact hm
    · obtain ⟨_, aa, ac, ka, kc, h1, _⟩ := H.kno.node i hi
      exact types_ne hm h1 (by decide)
  · obtain ⟨_, aa, ac, ka, kc, h1, _⟩ := H.kno.node i hi
    exact own_ne H.row h1 (by decide)

theorem all_bound {F : Fo} {S : Nat → Prop} {h : Nat → Nat} (o : F.Ok S h) {n x : Nat} (hS : ∀ i, S i → i < n) (hx : S x) : (F.all h x).length ≤ n :=
  nodup_len (F.all_nodup o _ x (Nat.le_refl _)) (fun y hy => hS y (o.all_mem hx hy))

def EmptyG (t : List Nd) (l : List Int) (F : Fo) (S : Nat → Prop) (h : Nat → Nat) (nd : Nat → Nd) : Prop :=
  ∃ ms, ChoP t.length l ms ∧ ms ≠ [] ∧ (∀ m ∈ ms, (ndT t m).kind = 3) ∧ F = clearAll (fo0 t) ms ∧ h = sz t ∧ nd = ndT t

theorem changedEmpty_any (ad : Option Addr) (c : Nat) (t : List Nd) (hf : fits1 t = true) (w : World) (h : NSl w w.heap.size ad t) (sb : Nat) (oa : Option Addr) (oc : Nat) (l : List Int) (hl : l.length ≤ 2147483647) (hi : ISl w w.heap.size oa l)
    (hs : w.heap[sb]? = some (.cells #[.int .i64 7, .slice oa l.length oc, .slice none 0 0, .string ⟨#[]⟩, .string ⟨#[]⟩, .slice none 0 0] 27 (0, 0))) :
    Calls Try.prog 30 #[.slice ad t.length c, .slice (some ⟨sb, 0, none⟩) 1 1] w (ChangedPost t (EmptyG t l) w) := by
  refine changed_any ad c t hf w h sb 7 oa l.length oc none 0 0 hs (EmptyG t l) ?_
  intro hR W kb g fc fb hb hfb hfb2 hKF
  obtain ⟨m, hm⟩ := hKF.fst
  have f0 : W.cell? ⟨fb, 0, none⟩ = some (.slice (some ⟨g, 0, none⟩) t.length fc) := by rw [cell_of_row W _ 0 _ _ _ hm]; rfl
  refine (step_empty hKF.ok fb g fc hR.le W (Nat.le_of_lt hfb2) hKF.kno f0 (fun j hj => hKF.elem hj) oa oc l hl (hi.up hb)).mono ?_
  rintro e W' ⟨b, rfl, hyes, hk⟩
  refine ⟨b, rfl, fun e => ?_, hk.below (Nat.le_of_lt hfb2) (fun i hi => (hKF.kno.node i hi).1)⟩
  obtain ⟨ms, hC, hne, hkind, hK⟩ := hyes e
  have o' := clearAll_ok hKF.ok ms
  have hlen : ((clearAll (fo0 t) ms).all (sz t) 0).length ≤ t.length := all_bound o' (fun i hi => hi) hR.pos
  refine ⟨clearAll (fo0 t) ms, _, sz t, ndT t, kb, false, hKF.turn hk o' hK (by have := hR.le; omega), fun _ => ⟨ms, hC, hne, hkind, rfl, rfl, rfl⟩⟩
end Go.Proofs.Ytmhhfljbocbolaa

namespace Go.Proofs.Ytmhhfljbocbolaa
open Go.RowKit
set_option linter.unusedVariables false

theorem ba_nil {b : ByteArray} (h : b.size = 0) : b = ⟨#[]⟩ := by
  cases b with | mk d => have : d.size = 0 := h; rw [Array.eq_empty_of_size_eq_zero this]

theorem ndG_of {t : List Nd} (hR : RightP t) {i : Nat} (hi : i < t.length) : NdG (ndT t i) := by
  have e : ndT t i = t[i] := getD_at hi
  have n := hR.node i hi
  rw [e]
  refine ⟨?_, fun h => ba_nil (n.text h), fun h => ⟨ba_nil (n.tag h).1, List.eq_nil_of_length_eq_zero (n.tag h).2⟩, ?_⟩
  · rcases n.kinds with h | h | h | h
    · exact .inl h.1
    · exact .inr (.inl h.1)
    · exact .inr (.inr (.inr (.inr h.1)))
    · rcases h.1 with h | h
      · exact .inr (.inr (.inl h))
      · exact .inr (.inr (.inr (.inl h)))
  · by_cases hk : t[i].kind = 3
    · rcases n.kinds with h | h | h | h
      · omega
      · omega
      · have := h.2.len; omega
      · omega
    · have := (n.tag hk).2; omega

theorem Tree.prog {t : List Nd} (hR : RightP t) {w : World} {B L : Nat} {bl : Nat → Nat} {st : Nat → Dn} (h : Tree t w B L bl st) : Prog (fo0 t) (fun i => i < t.length) (ndT t) B bl st w :=
  ⟨h.dom, fun i hi => fo0_fit hR h.kin i hi, fun i hi => by
    have e : ndT t i = t[i] := getD_at hi
    rw [e]; exact (h.kin i hi).2⟩

/-- Entries of which the bare parts are known. -/
theorem ent_ok {F : Fo} {h : Nat → Nat} {nd : Nat → Nd} {L : List Nat} {es : List Nd} (he : es.map strip = L.map (strEnt F h nd)) (hb : ∀ y ∈ L, NdB (nd y) ∧ (F.all h y).length ≤ 100000) {w : World} {B : Nat} (ho : ∀ e ∈ es, OwnE B w e) : ∀ e ∈ es, e.Ok w w.heap.size := by
  intro e hm
  have h1 : strip e ∈ es.map strip := List.mem_map_of_mem hm
  rw [he] at h1
  obtain ⟨y, hy, e1⟩ := List.mem_map.1 h1
  obtain ⟨b, hl⟩ := hb y hy
  have k1 : (nd y).kind = e.kind := show (strEnt F h nd y).kind = (strip e).kind by rw [e1]
  have k2 : (nd y).tag = e.tag := show (strEnt F h nd y).tag = (strip e).tag by rw [e1]
  have k3 : (nd y).text = e.text := show (strEnt F h nd y).text = (strip e).text by rw [e1]
  have k4 : (nd y).attrs = e.attrs := show (strEnt F h nd y).attrs = (strip e).attrs by rw [e1]
  have k5 : ((F.all h y).length : Int) = e.size := show (strEnt F h nd y).size = (strip e).size by rw [e1]
  refine ⟨?_, ⟨by omega, by omega⟩, ?_, ?_, asl_own2 (ho e hm) ?_ ?_⟩
  · rw [← k1]; exact b.kind
  · rw [← k2]; exact b.tag
  · rw [← k3]; exact b.text
  · rw [← k4]; exact b.len
  · rw [← k4]; exact b.ats

def EndsPost (F : Fo) (h : Nat → Nat) (nd : Nat → Nd) (n : Nat) (w : World) (e : Ending) (w' : World) : Prop :=
  ∃ a m c a2 m2 c2, e = .returned (.tuple #[.slice a m c, .slice a2 m2 c2]) ∧ OutP F h nd n a m a2 m2 w' ∧ Below w.heap.size w w'

set_option maxRecDepth 100000 in
set_option maxHeartbeats 4000000 in
theorem ends_any {F : Fo} {S : Nat → Prop} {h : Nat → Nat} (o : F.Ok S h) {nd : Nat → Nd} {B : Nat} {bl : Nat → Nat} {st : Nat → Dn} (hnd : ∀ i, S i → NdG (nd i)) (hnb : ∀ i, S i → NdB (nd i)) {n : Nat} (hpos : 0 < n) (hn : n ≤ 200) (hS : ∀ i, i < n → S i) (hlen : (F.all h 0).length ≤ 100000)
    (w : World) (hP : Prog F S nd B bl st w) (gw L g0 : Nat) (hW : WorldB w gw L n g0) (hL : ∀ j, j < n → w.cell? ⟨L, j, none⟩ = some (.pointer (some ⟨bl j, 0, none⟩))) :
    Calls Try.prog 33 #[.pointer (some ⟨gw, 0, none⟩)] w (EndsPost F h nd n w) := by
  have HTk := Lib.hid (taken_any o hnd w.heap.size (h 0 + 1) 0 (.slice none 0 0) (.slice none 0 0) [] [] w (by omega) (hS 0 hpos) hP (Nat.le_refl _) (World.ownsRow_nil _ _ _ _) (World.ownsRow_nil _ _ _ _) (by simpa using hlen) (by simpa using hlen) ⟨_, _, rfl⟩ ⟨_, _, rfl⟩)
  have z0 : w.cell? ⟨gw, 0, none⟩ = some (.slice (some ⟨L, 0, none⟩) n n) := cell_of_row w gw 0 _ _ _ hW
  have hgl : gw < w.heap.size := (Array.getElem?_eq_some_iff.1 hW).1
  have g1 := hL 0 hpos
  have hLl : L < w.heap.size := World.block_lt_of_cell? w _ g1
  have HP := Lib.hid hP
  have HO := Lib.hid o
  have HL := Lib.hid hL
  have HMem : Hid (∀ y ∈ F.all h 0, S y) := fun y hy => o.all_mem (hS 0 hpos) hy
  have HS := Lib.hid hS
  have HNb := Lib.hid hnb
  clear hP o hL hW hS hnb hnd
  go_enter Try.func33, Try.ntmps33
  go_wp2_with fail
  refine HTk.out.mono ?_
  rintro e w1 ⟨es, a, c, a2, c2, rfl, hes, hoe, hV, hU, -, -, hT⟩
  simp only [List.nil_append] at hes hoe hV hU ⊢
  have hb1 : Below w.heap.size w w1 := hT.below (Nat.le_refl _) (by intro x hx; simp [Value.ownBlock] at hx) (by intro x hx; simp [Value.ownBlock] at hx)
  have hlr : (List.range n).length = n := List.length_range
  have HPl : Hid (Calls Try.prog 55 #[.slice a2 (F.all h 0).length c2, .slice (some ⟨L, 0, none⟩) n n] w1 (PlacesAtPost (F.all h 0) (List.range n) w1)) := by
    obtain ⟨_, _, hv, _, hr⟩ := RSl.own hU
    cases hv
    have h5 : RSl w1 w1.heap.size (some ⟨L, 0, none⟩) (ptrs bl (List.range n)) := by
      refine .inr ⟨L, 0, rfl, by have := hb1.size; omega, fun i hi => ?_⟩
      have hi2 : i < n := by simpa [ptrs] using hi
      rw [Nat.zero_add, hb1.cell (p := ⟨L, i, none⟩) hLl, HL.out i hi2]
      simp [ptrs]
    have := placesAt_any (HP.out.kept hb1).dom (F.all h 0) HMem.out hlen a2 c2 hr (List.range n) (fun m hm => HS.out m (List.mem_range.1 hm)) (by rw [hlr]; omega) (some ⟨L, 0, none⟩) n h5
    rw [hlr] at this
    exact this
  replace z0 := (hb1.cell (p := ⟨gw, 0, none⟩) hgl).trans z0
  have HB1 := Lib.hid hb1
  have HV := Lib.hid hV
  have HEs := Lib.hid hes
  have HOe := Lib.hid hoe
  have hel : es.length = (F.all h 0).length := by have := congrArg List.length hes; simpa using this
  have HEl := Lib.hid hel
  clear hb1 hV hU hes hoe hT g1 hlr hel
  go_wp2_with fail
  refine HPl.out.mono ?_
  rintro e w2 ⟨a5, c5, rfl, hown, hb2⟩
  have HFin : Hid (EndsPost F h nd n w (.returned (.tuple #[.slice a es.length c, .slice a5 (List.range n).length c5])) w2) := by
    have hV2 := own_kept HV.out (fun b _ h2 => hb2.block b h2)
    have hO2 : ∀ e ∈ es, OwnE w.heap.size w2 e := fun e he => own_kept (HOe.out e he) (fun b _ h2 => hb2.block b h2)
    obtain ⟨_, _, hv, _, hr⟩ := RSl.own hown
    cases hv
    refine ⟨_, _, _, _, _, _, rfl, ⟨⟨es, rfl, nsl_own hV2 (by have := HEl.out; unfold maxLen; omega) (ent_ok HEs.out (fun y hy => ⟨HNb.out y (HMem.out y hy), Nat.le_trans (all_sub_len HO.out _ (Nat.le_refl _) hy) hlen⟩) hO2), HEs.out⟩, List.length_range, hr⟩, bnext HB1.out hb2⟩
  clear hown hb2
  go_wp2_with fail
  go_ret2
  have := HFin.out
  simpa using this

def OfPost (F : Fo) (h : Nat → Nat) (nd : Nat → Nd) (n : Nat) (w : World) (e : Ending) (w' : World) : Prop :=
  ∃ a m c a2 m2 c2, e = .returned (.tuple #[.slice a m c, .slice a2 m2 c2, .bool true]) ∧ OutP F h nd n a m a2 m2 w' ∧ Below w.heap.size w w'

theorem ChoP.ord {n : Nat} {l : List Int} {ms : List Nat} (h : ChoP n l ms) : OrdP n l ms := ⟨h.eq, fun k hk => (h.rng k hk).2, h.nodup⟩

set_option maxRecDepth 100000 in
set_option maxHeartbeats 4000000 in
theorem emptyOf_any (a : Option Addr) (c : Nat) (t : List Nd) (hR : RightP t) (ad : Option Addr) (c2 : Nat) (l : List Int) (ms : List Nat) (ho : OrdP t.length l ms) (hl : l.length ≤ 2147483647) (w : World) (h : NSl w w.heap.size a t) (hi : ISl w w.heap.size ad l) :
    Calls Try.prog 15 #[.slice a t.length c, .slice ad l.length c2] w (OfPost (clearAll (fo0 t) ms) (sz t) (ndT t) t.length w) := by
  have HSl := Lib.hid (selected_any a c t hR ad c2 l ms ho hl w h hi)
  have HR := Lib.hid hR
  have HO := Lib.hid ho
  have HNb : Hid (∀ i, i < t.length → NdB (ndT t i)) := fun i hi => by
    unfold ndT; rw [getD_at hi]
    exact (h.2.1 _ (List.getElem_mem hi)).ndb
  have hml : ms.length ≤ 200 := by have := ho.len; have := hR.le; omega
  have hpos := hR.pos
  have hle := hR.le
  clear hR ho h hi
  go_enter Try.func15, Try.ntmps15
  go_wp2_with fail
  refine HSl.out.mono ?_
  rintro e w1 ⟨L, bl, st, gw, g0, g, doc, rfl, hL, hT, hW, hsel, hgw, hb1⟩
  have hP := hT.prog HR.out
  have HP := Lib.hid hP
  have HT := Lib.hid hT
  have HW := Lib.hid hW
  have HB1 := Lib.hid hb1
  have HEm := Lib.hid (empty_any (fo0_ok HR.out) (N := t.length) (by omega) (fun i hi => hi) ms HO.out.lt (by omega) w1 hP _ g doc hsel)
  clear hP hT hW hb1 hsel
  go_wp2_with fail
  refine HEm.out.mono ?_
  rintro e w2 ⟨g2, rfl, ⟨st2, hP2⟩, hT2⟩
  have o' := clearAll_ok (fo0_ok HR.out) ms
  have hlen : ((clearAll (fo0 t) ms).all (sz t) 0).length ≤ t.length := all_bound o' (fun i hi => hi) hpos
  have hW2 : WorldB w2 gw L t.length g0 := (hT2.block gw (Array.getElem?_eq_some_iff.1 HW.out).1 (fun i hi e => by
    obtain ⟨_, _, _, hh, _⟩ := HP.out.dom.node i hi
    exact types_ne HW.out hh (by decide) e)).trans HW.out
  have hL2 : ∀ j, j < t.length → w2.cell? ⟨L, j, none⟩ = some (.pointer (some ⟨bl j, 0, none⟩)) := fun j hj => by
    obtain ⟨cur, h1, h2, h3⟩ := HT.out.row
    have h4 := hT2.block L (Array.getElem?_eq_some_iff.1 h1).1 (fun i hi e => by
      obtain ⟨_, _, _, hh, _⟩ := HP.out.dom.node i hi
      exact types_ne h1 hh (by decide) e)
    rw [cell_of_row w2 L j _ _ _ (h4.trans h1), h3 j hj]; rfl
  have HB2 : Hid (Below w.heap.size w w2) := by
    have h5 := hT2.below (C := w.heap.size) HB1.out.size (fun i hi => (HT.out.dom.node i hi).1)
    exact HB1.out.trans h5
  have HEn := Lib.hid (ends_any o' (fun i hi => ndG_of HR.out hi) HNb.out hpos hle (fun i hi => hi) (by omega) w2 hP2 gw L g0 hW2 hL2)
  clear hP2 hT2 o' hW2 hL2 hlen
  go_wp2_with fail
  refine HEn.out.mono ?_
  rintro e w3 ⟨a3, m3, c3, a4, m4, c4, rfl, hOut, hb3⟩
  have HFin : Hid (OfPost (clearAll (fo0 t) ms) (sz t) (ndT t) t.length w (.returned (.tuple #[.slice a3 m3 c3, .slice a4 m4 c4, .bool true])) w3) :=
    ⟨_, _, _, _, _, _, rfl, hOut, bnext HB2.out hb3⟩
  clear hOut hb3
  go_wp2_with fail
  go_ret3
  exact HFin.out
end Go.Proofs.Ytmhhfljbocbolaa
