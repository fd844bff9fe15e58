/- The arguments of the laws, opened: what their reading says of the memory. (The first theorem is the guide's own, copied as its page allows.) -/
import Derived.Test.YtjebadadimejpaaDoorT1
import Derived.Deep.Slices
import Derived.Deep.Fields
import Derived.ChangeSame
import Derived.ProofKit
namespace Go.Proofs.YtjebadadimejpaaDoor
open Go.ChangeShapes Go.WideShapes Go.Deep Go.RowKit
set_option linter.unusedVariables false

section
variable {H : Type} {enc : TypeId × Value → H} {P : Program} {w : World} {base : Nat} {spare : Nat → Bool} {held : Bool}
theorem open_slice_fields {t e : TypeId} {fs : Array Field} {fuel : Nat} {cs : List Value} {x : DataW H × List MemPlace} (ht : P.underlying t = some (.slice e)) (he : P.underlying e = some (.struct fs))
    (hone : oneCellFields P fs = true) (hC : P.cellsOf e = fs.size) (h : DataW.trod enc P w base spare held fuel t cs = some x) :
    (cs = [.slice none 0 0] ∧ x = (.nil, [])) ∨
    ∃ (a : Addr) (len cap m : Nat) (D : Nat → DataW H) (Pl : Nat → List MemPlace), cs = [.slice (some a) len cap] ∧ base ≤ a.block ∧ len ≤ cap ∧ cap ≤ maxLen ∧ m = (if spare a.block then cap else len) ∧
      x = (.slice ((List.range len).map D) ((List.range (m - len)).map fun j => D (len + j)), MemPlace.row a (m * fs.size) ++ (List.range m).flatMap Pl) ∧
      ∀ i, i < m → ∃ (ys : List (DataW H × List MemPlace)) (n : Nat), D i = .agg (ys.map (·.1)) ∧ Pl i = ys.flatMap (·.2) ∧ ys.length = fs.size ∧
        ∀ (j : Nat) (f : Field), fs[j]? = some f → ∃ (v : Value) (y : DataW H × List MemPlace), w.cell? (a.add (i * fs.size + j)) = some v ∧ ys[j]? = some y ∧ DataW.trod enc P w base spare held n f.type [v] = some y := by
  rcases open_slice ht h with h0 | ⟨a, len, cap, m, n, D, Pl, hcs, hb, hl, hm, hmm, hx, hi⟩
  · exact .inl h0
  · refine .inr ⟨a, len, cap, m, D, Pl, hcs, hb, hl, hm, hmm, by rw [hC] at hx; exact hx, fun i him => ?_⟩
    obtain ⟨cs', hc, ht'⟩ := hi i him
    rw [hC] at hc
    obtain ⟨ys, n', hn', hy, hlen, hyl, hf⟩ := DataW.trod_struct he ht'
    obtain ⟨_, hcl, hat⟩ := World.cells?_some hc
    simp only [Prod.mk.injEq] at hy
    refine ⟨ys, n', hy.1, hy.2, hyl, fun j f hj => ?_⟩
    obtain ⟨ho, hk⟩ := hone_of hone j f hj
    have hjl : j < fs.size := (Array.getElem?_eq_some_iff.1 hj).1
    have hcell := hat j hjl
    have hv : cs'[j]? = some (cs'[j]'(by omega)) := List.getElem?_eq_getElem (by omega)
    have h1 := hf j f hj
    rw [ho, hk] at h1
    have hone' : (cs'.drop j).take 1 = [cs'[j]'(by omega)] := by
      rw [List.drop_eq_getElem_cons (by omega)]
      rfl
    rw [hone'] at h1
    have hys : ys[j]? = some (ys[j]'(by omega)) := List.getElem?_eq_getElem (by omega)
    refine ⟨_, _, ?_, hys, h1.trans hys⟩
    rw [← Go.Deep.add_add, hcell, hv]
end

theorem list_of {X : Type} (n : Nat) (P : Nat → X → Prop) (h : ∀ i, i < n → ∃ x, P i x) : ∃ l : List X, l.length = n ∧ ∀ i (hi : i < l.length), P i l[i] := by
  induction n with
  | zero => exact ⟨[], rfl, fun i hi => by simp at hi⟩
  | succ n ih =>
    obtain ⟨l, hl, hp⟩ := ih (fun i hi => h i (by omega))
    obtain ⟨x, hx⟩ := h n (by omega)
    refine ⟨l ++ [x], by simp [hl], fun i hi => ?_⟩
    by_cases e : i < l.length
    · rw [List.getElem_append_left e]; exact hp i e
    · have e2 : i = n := by simp at hi; omega
      subst e2
      rw [List.getElem_append_right (by omega)]
      simpa using hx

theorem addr_plain {w : World} {a : Addr} {k : Nat} {v : Value} (h0 : w.cell? (a.add 0) = some v) : ∃ b o, a = ⟨b, o, none⟩ ∧ b < w.heap.size := by
  obtain ⟨b, o, spot⟩ := a
  have hspot : spot = none := by simpa [Addr.add] using World.cell?_spot h0
  subst hspot
  have := World.block_lt_of_cell? w _ h0
  exact ⟨b, o, rfl, this⟩

section
variable {H : Type} {enc : TypeId × Value → H} {w : World} {base : Nat} {spare : Nat → Bool} {held : Bool}

theorem open_attrs {fuel : Nat} {v : Value} {y : DataW H × List MemPlace} (h : DataW.trod enc Tryd.prog w base spare held fuel 25 [v] = some y) :
    ∃ (aa : Option Addr) (ac : Nat) (l : List At2), v = .slice aa l.length ac ∧ ASl w w.heap.size aa l := by
  rcases open_slice_fields Tryd.underlying25 Tryd.underlying34 (by kernel_rfl) (by kernel_rfl) h with ⟨hcs, _⟩ | ⟨a, len, cap, m, D, Pl, hcs, _, hl, hm, hmm, hx, hi⟩
  · simp at hcs
    exact ⟨none, 0, [], hcs, by simp, by simp, .inl rfl⟩
  · simp at hcs
    have hlm : len ≤ m := by rw [hmm]; split <;> omega
    obtain ⟨l, hll, hp⟩ := list_of len (fun i (x : At2) => w.cell? (a.add (i * 2)) = some (.string x.key) ∧ w.cell? (a.add (i * 2 + 1)) = some (.string x.val) ∧ x.key.size ≤ maxLen ∧ x.val.size ≤ maxLen) (fun i hil => by
      obtain ⟨ys, n, _, _, _, hf⟩ := hi i (by omega)
      obtain ⟨v0, y0, c0, _, t0⟩ := hf 0 _ rfl
      obtain ⟨v1, y1, c1, _, t1⟩ := hf 1 _ rfl
      obtain ⟨s0, e0, _, z0⟩ := DataW.trod_string Tryd.underlying9 t0
      obtain ⟨s1, e1, _, z1⟩ := DataW.trod_string Tryd.underlying9 t1
      simp at e0 e1
      subst e0 e1
      exact ⟨⟨s0, s1⟩, c0, c1, z0, z1⟩)
    subst hll
    refine ⟨some a, cap, l, hcs, by omega, fun x hx => ?_, ?_⟩
    · obtain ⟨i, hi2, rfl⟩ := List.getElem_of_mem hx
      exact (hp i hi2).2.2
    · rcases Nat.eq_zero_or_pos l.length with h0 | h0
      · exact .inl (List.eq_nil_of_length_eq_zero h0)
      · obtain ⟨b, o, rfl, hb⟩ := addr_plain (k := 0) (by have := (hp 0 h0).1; simpa using this)
        refine .inr ⟨b, o, rfl, hb, fun i hi2 => ?_⟩
        have := hp i hi2
        rw [Addr.add_lit, Addr.add_lit] at this
        rw [List.getD_eq_getElem?_getD, List.getElem?_eq_getElem hi2, Option.getD_some, Nat.add_assoc]
        exact ⟨this.1, this.2.1⟩

theorem wf_bounds {n : Int} (h : (Lit.int .i64 n).wf = true) : -9223372036854775808 ≤ n ∧ n ≤ 9223372036854775807 := by
  simpa [Lit.wf, IntKind.min, IntKind.max, IntKind.signed, IntKind.bits] using h

theorem open_nodes {a : Option Addr} {len cap : Nat} {d : DataW H} {p : List MemPlace} (h : DataW.Trod enc Tryd.prog w base spare held 22 (.slice a len cap) d p) :
    ∃ t : List Nd, NSl w w.heap.size a t ∧ len = t.length := by
  obtain ⟨fuel, h⟩ := h
  rcases open_slice_fields Tryd.underlying22 Tryd.underlying27 (by kernel_rfl) (by kernel_rfl) h with ⟨hcs, _⟩ | ⟨a', len', cap', m, D, Pl, hcs, _, hl, hm, hmm, hx, hi⟩
  · simp [Value.cells] at hcs
    exact ⟨[], ⟨by simp, by simp, .inl rfl⟩, by simp [hcs.2.1]⟩
  · simp [Value.cells] at hcs
    obtain ⟨rfl, rfl, rfl⟩ := hcs
    have hlm : len ≤ m := by rw [hmm]; split <;> omega
    obtain ⟨l, hll, hp⟩ := list_of len (fun i (x : Nd) => w.cell? (a'.add (i * 5)) = some (.int .i64 x.kind) ∧ w.cell? (a'.add (i * 5 + 1)) = some (.string x.tag) ∧ w.cell? (a'.add (i * 5 + 2)) = some (.string x.text) ∧
        w.cell? (a'.add (i * 5 + 3)) = some (.slice x.aa x.attrs.length x.ac) ∧ w.cell? (a'.add (i * 5 + 4)) = some (.int .i64 x.size) ∧ x.Ok w w.heap.size) (fun i hil => by
      obtain ⟨ys, n, _, _, _, hf⟩ := hi i (by omega)
      obtain ⟨v0, y0, c0, _, t0⟩ := hf 0 _ rfl
      obtain ⟨v1, y1, c1, _, t1⟩ := hf 1 _ rfl
      obtain ⟨v2, y2, c2, _, t2⟩ := hf 2 _ rfl
      obtain ⟨v3, y3, c3, _, t3⟩ := hf 3 _ rfl
      obtain ⟨v4, y4, c4, _, t4⟩ := hf 4 _ rfl
      obtain ⟨n0, e0, _, z0⟩ := DataW.trod_int Tryd.underlying3 t0
      obtain ⟨s1, e1, _, z1⟩ := DataW.trod_string Tryd.underlying9 t1
      obtain ⟨s2, e2, _, z2⟩ := DataW.trod_string Tryd.underlying9 t2
      obtain ⟨aa, ac, l3, e3, z3⟩ := open_attrs t3
      obtain ⟨n4, e4, _, z4⟩ := DataW.trod_int Tryd.underlying3 t4
      simp at e0 e1 e2 e4
      subst e0 e1 e2 e3 e4
      exact ⟨⟨n0, s1, s2, aa, ac, l3, n4⟩, c0, c1, c2, c3, c4, wf_bounds z0, wf_bounds z4, z1, z2, z3⟩)
    subst hll
    refine ⟨l, ⟨by omega, fun x hx => ?_, ?_⟩, rfl⟩
    · obtain ⟨i, hi2, rfl⟩ := List.getElem_of_mem hx
      exact (hp i hi2).2.2.2.2.2
    · rcases Nat.eq_zero_or_pos l.length with h0 | h0
      · exact .inl (List.eq_nil_of_length_eq_zero h0)
      · obtain ⟨b, o, rfl, hb⟩ := addr_plain (k := 0) (by have := (hp 0 h0).1; simpa using this)
        refine .inr ⟨b, o, rfl, hb, fun i hi2 => ?_⟩
        obtain ⟨q0, q1, q2, q3, q4, _⟩ := hp i hi2
        rw [Addr.add_lit] at q0 q1 q2 q3 q4
        rw [List.getD_eq_getElem?_getD, List.getElem?_eq_getElem hi2, Option.getD_some, Nat.add_assoc, Nat.add_assoc, Nat.add_assoc, Nat.add_assoc]
        exact ⟨q0, q1, q2, q3, q4⟩
end
end Go.Proofs.YtjebadadimejpaaDoor
