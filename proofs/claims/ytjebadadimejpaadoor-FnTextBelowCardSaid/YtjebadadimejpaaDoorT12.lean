/- A right tree grows: each node in a block of its own, with its kin. -/
import Derived.Test.YtjebadadimejpaaDoorT10
import Derived.Test.YtjebadadimejpaaDoorT11
import Derived.StillTailTactics
namespace Go.Proofs.YtjebadadimejpaaDoor
open Go.RowKit
set_option linter.unusedVariables false

theorem own_base {w : World} {base base' e size n : Nat} {v : Value} {xs : List Value} (h : w.ownsRow base e size v n xs) (hb : base' ≤ base) : w.ownsRow base' e size v n xs := by
  refine ⟨h.1, ?_⟩
  rcases h.2 with h2 | ⟨g, cap, cur, hv, hg, r⟩
  · exact .inl h2
  · exact .inr ⟨g, cap, cur, hv, by omega, r⟩

theorem own_kept {w w' : World} {base e size n : Nat} {v : Value} {xs : List Value} (h : w.ownsRow base e size v n xs) (hs : ∀ b, base ≤ b → b < w.heap.size → w'.heap[b]? = w.heap[b]?) : w'.ownsRow base e size v n xs := by
  refine ⟨h.1, ?_⟩
  rcases h.2 with h2 | ⟨g, cap, cur, hv, hg, hh, r⟩
  · exact .inl h2
  · refine .inr ⟨g, cap, cur, hv, hg, ?_, r⟩
    rw [hs g hg (Array.getElem?_eq_some_iff.1 hh).1]; exact hh

theorem Dom.kept {w w' : World} {B : Nat} {S : Nat → Prop} {bl : Nat → Nat} {st : Nat → Dn} (h : Dom w B S bl st) (hs : ∀ b, B ≤ b → b < w.heap.size → w'.heap[b]? = w.heap[b]?) : Dom w' B S bl st := by
  refine ⟨fun i hi => ?_, h.inj⟩
  obtain ⟨hB, aa, ac, hh, hown⟩ := h.node i hi
  exact ⟨hB, aa, ac, by rw [hs _ hB (Array.getElem?_eq_some_iff.1 hh).1]; exact hh, own_kept hown hs⟩

theorem Dom.lt {w : World} {B : Nat} {S : Nat → Prop} {bl : Nat → Nat} {st : Nat → Dn} (h : Dom w B S bl st) {i : Nat} (hi : S i) : bl i < w.heap.size := by
  obtain ⟨hB, aa, ac, hh, hown⟩ := h.node i hi
  exact (Array.getElem?_eq_some_iff.1 hh).1

/-- All five pointers lead to nodes of a stretch. -/
structure Dn.In (lo hi : Nat) (d : Dn) : Prop where
  par : ∀ j, d.par = some j → lo ≤ j ∧ j < hi
  fst : ∀ j, d.fst = some j → lo ≤ j ∧ j < hi
  lst : ∀ j, d.lst = some j → lo ≤ j ∧ j < hi
  prv : ∀ j, d.prv = some j → lo ≤ j ∧ j < hi
  nxt : ∀ j, d.nxt = some j → lo ≤ j ∧ j < hi

theorem ptrTo_congr {bl bl' : Nat → Nat} {o : Option Nat} (h : ∀ j, o = some j → bl' j = bl j) : ptrTo bl' o = ptrTo bl o := by
  cases o with
  | none => rfl
  | some j => simp [ptrTo, h j rfl]

theorem dnCells_congr {bl bl' : Nat → Nat} {lo hi : Nat} {d : Dn} (hd : d.In lo hi) (h : ∀ j, lo ≤ j → j < hi → bl' j = bl j) (aa : Option Addr) (ac : Nat) : dnCells bl' d aa ac = dnCells bl d aa ac := by
  unfold dnCells
  rw [ptrTo_congr (fun j e => h j (hd.par j e).1 (hd.par j e).2), ptrTo_congr (fun j e => h j (hd.fst j e).1 (hd.fst j e).2), ptrTo_congr (fun j e => h j (hd.lst j e).1 (hd.lst j e).2),
    ptrTo_congr (fun j e => h j (hd.prv j e).1 (hd.prv j e).2), ptrTo_congr (fun j e => h j (hd.nxt j e).1 (hd.nxt j e).2)]

theorem kin_in {t : List Nd} {a k : Nat} {st : Nat → Dn} (hl : Lam t (a + 1) k) (hk : Kin t a k st) : ∀ i, a ≤ i → i < k → (st i).In a k := by
  intro i hi1 hi2
  have hn := (hk i hi1 hi2).1
  have top : ∀ p, a ≤ p → p < k → p + extK t a k p ≤ k := by
    intro p hp1 hp2
    by_cases e : p = a
    · subst e; rw [extK_root]; omega
    · rw [extK_ne _ _ _ _ e]; exact (hl p (by omega) hp2).2.2.1
  have pos : ∀ p, a < p → p < k → 1 ≤ extK t a k p := by
    intro p hp1 hp2
    rw [extK_ne _ _ _ _ (by omega)]; exact (hl p (by omega) hp2).2.1
  have hi3 := top i hi1 hi2
  refine ⟨?_, ?_, ?_, ?_, ?_⟩
  · intro j e
    by_cases h : i = a
    · rw [(hn.root h).1] at e; cases e
    · obtain ⟨p, p1, p2, _⟩ := hn.kin h
      rw [p2] at e; cases e
      exact ⟨p1.1, by have := p1.2.1; omega⟩
  · intro j e
    rw [hn.fst] at e
    by_cases h : 1 < extK t a k i
    · rw [if_pos h] at e; cases e; omega
    · rw [if_neg h] at e; cases e
  · intro j e
    by_cases h : 1 < extK t a k i
    · obtain ⟨m, m1, m2, m3⟩ := hn.lst1 h
      rw [m1] at e; cases e
      obtain ⟨m4, m5, m6, _⟩ := m2
      exact ⟨by omega, by omega⟩
    · rw [hn.lst0 h] at e; cases e
  · intro j e
    by_cases h : i = a
    · rw [(hn.root h).2.1] at e; cases e
    · obtain ⟨p, p1, p2, p3, p4, p5⟩ := hn.kin h
      by_cases h2 : i = p + 1
      · rw [p4 h2] at e; cases e
      · obtain ⟨q, q1, q2, q3⟩ := p5 h2
        rw [q1] at e; cases e
        have hq1 := q2.1
        have hq2 := q2.2.1
        rcases Nat.lt_or_ge j k with h3 | h3
        · exact ⟨by omega, h3⟩
        · omega
  · intro j e
    by_cases h : i = a
    · rw [(hn.root h).2.2] at e; cases e
    · obtain ⟨p, p1, p2, p3, p4, p5⟩ := hn.kin h
      rw [p3] at e
      by_cases h2 : i + extK t a k i < p + extK t a k p
      · rw [if_pos h2] at e; cases e
        have := top p p1.1 (by have := p1.2.1; omega)
        omega
      · rw [if_neg h2] at e; cases e

theorem Dom.join {w : World} {B B2 a k k' : Nat} {bl bl2 : Nat → Nat} {st st2 : Nat → Dn} (hak : a ≤ k) (h1 : Dom w B (fun i => a ≤ i ∧ i < k) bl st) (h2 : Dom w B2 (fun i => k ≤ i ∧ i < k') bl2 st2) (hB : B ≤ B2)
    (hlt : ∀ i, a ≤ i → i < k → bl i < B2) (in1 : ∀ i, a ≤ i → i < k → (st i).In a k) (in2 : ∀ i, k ≤ i → i < k' → (st2 i).In k k') :
    Dom w B (fun i => a ≤ i ∧ i < k') (joinF k bl bl2) (joinF k st st2) := by
  refine ⟨fun i hi => ?_, fun i j hi hj e => ?_⟩
  · by_cases e : i < k
    · obtain ⟨hB1, aa, ac, hh, hown⟩ := h1.node i ⟨hi.1, e⟩
      rw [joinF_lo e, joinF_lo e]
      exact ⟨hB1, aa, ac, by rw [dnCells_congr (in1 i hi.1 e) (fun j _ hj => joinF_lo hj)]; exact hh, hown⟩
    · obtain ⟨hB1, aa, ac, hh, hown⟩ := h2.node i ⟨by omega, hi.2⟩
      rw [joinF_hi (by omega), joinF_hi (by omega)]
      exact ⟨by omega, aa, ac, by rw [dnCells_congr (in2 i (by omega) hi.2) (fun j hj _ => joinF_hi hj)]; exact hh, own_base hown hB⟩
  · by_cases e1 : i < k
    · by_cases e2 : j < k
      · rw [joinF_lo e1, joinF_lo e2] at e
        exact h1.inj i j ⟨hi.1, e1⟩ ⟨hj.1, e2⟩ e
      · rw [joinF_lo e1, joinF_hi (by omega)] at e
        have g1 := hlt i hi.1 e1
        have g2 := (h2.node j ⟨by omega, hj.2⟩).1
        omega
    · by_cases e2 : j < k
      · rw [joinF_hi (by omega), joinF_lo e2] at e
        have g1 := hlt j hj.1 e2
        have g2 := (h2.node i ⟨by omega, hi.2⟩).1
        omega
      · rw [joinF_hi (by omega), joinF_hi (by omega)] at e
        exact h2.inj i j ⟨by omega, hi.2⟩ ⟨by omega, hj.2⟩ e

theorem append_any (w : World) (B : Nat) (S : Nat → Prop) (bl : Nat → Nat) (st : Nat → Dn) (h : Dom w B S bl st) (p c : Nat) (hp : S p) (hc : S c) (hpc : p ≠ c)
    (h1 : (st c).par = none) (h2 : (st c).prv = none) (h3 : (st c).nxt = none) (hl : ∀ q, (st p).lst = some q → S q ∧ q ≠ c ∧ q ≠ p) :
    Calls Tryd.prog 32 #[.pointer (some ⟨bl p, 0, none⟩), .pointer (some ⟨bl c, 0, none⟩)] w (AppPost S B bl (appSt st p c) w) := by
  cases e : (st p).lst with
  | none => exact append_none w B S bl st h p c hp hc hpc h1 h2 h3 e
  | some q => exact append_some w B S bl st h p c q hp hc (hl q e).1 hpc (hl q e).2.1 (hl q e).2.2 h1 h2 h3 e

theorem alone_any (t : List Nd) (i : Nat) (hi : i < t.length) (hR : RightP t) (w : World) (hx : t[i].Ok w w.heap.size) (s : Int) (hs : s = t[i].size) :
    Calls Tryd.prog 31 #[.agg #[.int .i64 t[i].kind, .string t[i].tag, .string t[i].text, .slice t[i].aa t[i].attrs.length t[i].ac, .int .i64 s]] w (AlonePost t[i] w) := by
  subst hs
  rcases (hR.node i hi).kinds with ⟨hk, _⟩ | ⟨hk, _⟩ | ⟨hk, ha⟩ | ⟨hk | hk, _⟩
  · exact alone_plain _ _ hx (.inl hk)
  · exact alone_plain _ _ hx (.inr (.inl hk))
  · exact alone_el _ _ hx hk ha.len
  · exact alone_plain _ _ hx (.inr (.inr (.inl hk)))
  · exact alone_plain _ _ hx (.inr (.inr (.inr hk)))
end Go.Proofs.YtjebadadimejpaaDoor
