/- FnSpecificWhole: texts joined (joinf.py) -/
import Derived.Test.YtnibpdmbccfgoaaGreatDoorJ1
import Derived.Deep.Slices
import Derived.Deep.Fields
import Derived.ChangeSame
import Derived.ProofKit
namespace Go.Proofs.YtnibpdmbccfgoaaGreatDoor
open Go.ChangeShapes Go.WideShapes Go.Deep Go.RowKit
set_option linter.unusedVariables false

section
variable {H : Type} {enc : TypeId × Value → H} {P : Program} {w : World} {base : Nat} {spare : Nat → Bool} {held : Bool}
theorem open_slice_fields {t e : TypeId} {fs : Array Field} {fuel : Nat} {cs : List Value} {x : DataW H × List MemPlace} (ht : P.underlying t = some (.slice e)) (he : P.underlying e = some (.struct fs))
    (hone : oneCellFields P fs = true) (hC : P.cellsOf e = fs.size) (h : DataW.trod enc P w base spare held fuel t cs = some x) :
    (cs = [.slice none 0 0] ∧ x = (.nil, [])) ∨
    ∃ (a : Addr) (len cap m : Nat) (D : Nat → DataW H) (Pl : Nat → List MemPlace), cs = [.slice (some a) len cap] ∧ base ≤ a.block ∧ len ≤ cap ∧ cap ≤ maxLen ∧ m = (if spare a.block then cap else len) ∧
      x = (.slice ((List.range len).map D) ((List.range (m - len)).map fun j => D (len + j)), MemPlace.row a (m * fs.size) ++ (List.range m).flatMap Pl) ∧
      ∀ i, i < m → ∃ (ys : List (DataW H × List MemPlace)) (n : Nat), D i = .agg (ys.map (·.1)) ∧ Pl i = ys.flatMap (·.2) ∧ ys.length = fs.size ∧
        ∀ (j : Nat) (f : Field), fs[j]? = some f → ∃ (v : Value) (y : DataW H × List MemPlace), w.cell? (a.add (i * fs.size + j)) = some v ∧ ys[j]? = some y ∧ DataW.trod enc P w base spare held n f.type [v] = some y := by
  rcases open_slice ht h with h0 | ⟨a, len, cap, m, n, D, Pl, hcs, hb, hl, hm, hmm, hx, hi⟩
  · exact .inl h0
  · refine .inr ⟨a, len, cap, m, D, Pl, hcs, hb, hl, hm, hmm, by rw [hC] at hx; exact hx, fun i him => ?_⟩
    obtain ⟨cs', hc, ht'⟩ := hi i him
    rw [hC] at hc
    obtain ⟨ys, n', hn', hy, hlen, hyl, hf⟩ := DataW.trod_struct he ht'
    obtain ⟨_, hcl, hat⟩ := World.cells?_some hc
    simp only [Prod.mk.injEq] at hy
    refine ⟨ys, n', hy.1, hy.2, hyl, fun j f hj => ?_⟩
    obtain ⟨ho, hk⟩ := hone_of hone j f hj
    have hjl : j < fs.size := (Array.getElem?_eq_some_iff.1 hj).1
    have hcell := hat j hjl
    have hv : cs'[j]? = some (cs'[j]'(by omega)) := List.getElem?_eq_getElem (by omega)
    have h1 := hf j f hj
    rw [ho, hk] at h1
    have hone' : (cs'.drop j).take 1 = [cs'[j]'(by omega)] := by
      rw [List.drop_eq_getElem_cons (by omega)]
      rfl
    rw [hone'] at h1
    have hys : ys[j]? = some (ys[j]'(by omega)) := List.getElem?_eq_getElem (by omega)
    refine ⟨_, _, ?_, hys, h1.trans hys⟩
    rw [← Go.Deep.add_add, hcell, hv]
end

theorem list_of {X : Type} (n : Nat) (P : Nat → X → Prop) (h : ∀ i, i < n → ∃ x, P i x) : ∃ l : List X, l.length = n ∧ ∀ i (hi : i < l.length), P i l[i] := by
  induction n with
  | zero => exact ⟨[], rfl, fun i hi => by simp at hi⟩
  | succ n ih =>
    obtain ⟨l, hl, hp⟩ := ih (fun i hi => h i (by omega))
    obtain ⟨x, hx⟩ := h n (by omega)
    refine ⟨l ++ [x], by simp [hl], fun i hi => ?_⟩
    by_cases e : i < l.length
    · rw [List.getElem_append_left e]; exact hp i e
    · have e2 : i = n := by simp at hi; omega
      subst e2
      rw [List.getElem_append_right (by omega)]
      simpa using hx

theorem addr_plain {w : World} {a : Addr} {k : Nat} {v : Value} (h0 : w.cell? (a.add 0) = some v) : ∃ b o, a = ⟨b, o, none⟩ ∧ b < w.heap.size := by
  obtain ⟨b, o, spot⟩ := a
  have hspot : spot = none := by simpa [Addr.add] using World.cell?_spot h0
  subst hspot
  have := World.block_lt_of_cell? w _ h0
  exact ⟨b, o, rfl, this⟩

section
variable {H : Type} {enc : TypeId × Value → H} {w : World} {base : Nat} {spare : Nat → Bool} {held : Bool}

theorem wf_bounds {n : Int} (h : (Lit.int .i64 n).wf = true) : -9223372036854775808 ≤ n ∧ n ≤ 9223372036854775807 := by
  simpa [Lit.wf, IntKind.min, IntKind.max, IntKind.signed, IntKind.bits] using h

end
end Go.Proofs.YtnibpdmbccfgoaaGreatDoor

namespace Go.Proofs.YtnibpdmbccfgoaaGreatDoor
open Go.ChangeShapes Go.WideShapes Go.Deep Go.RowKit
set_option linter.unusedVariables false

theorem open_sels {H : Type} {enc : TypeId × Value → H} {w : World} {base : Nat} {spare : Nat → Bool} {held : Bool} {a : Option Addr} {len cap : Nat} {d : DataW H} {p : List MemPlace} (h : DataW.Trod enc Tryz.prog w base spare held 22 (.slice a len cap) d p) :
    ∃ l : List Sn, SSl w w.heap.size a l ∧ len = l.length ∧ len ≤ cap := by
  obtain ⟨fuel, h⟩ := h
  rcases open_slice_fields Tryz.underlying22 Tryz.underlying25 (by kernel_rfl) (by kernel_rfl) h with ⟨hcs, _⟩ | ⟨a', len', cap', m, D, Pl, hcs, _, hl, hm, hmm, hx, hi⟩
  · simp [Value.cells] at hcs
    exact ⟨[], ⟨by simp, by simp, .inl rfl⟩, by simp [hcs.2.1], by omega⟩
  · simp [Value.cells] at hcs
    obtain ⟨rfl, rfl, rfl⟩ := hcs
    have hlm : len ≤ m := by rw [hmm]; split <;> omega
    obtain ⟨l, hll, hp⟩ := list_of len (fun i (x : Sn) => (w.cell? (a'.add (i * 8)) = some (.int .i64 x.kind) ∧ w.cell? (a'.add (i * 8 + 1)) = some (.int .i64 x.op) ∧ w.cell? (a'.add (i * 8 + 2)) = some (.string x.key) ∧
        w.cell? (a'.add (i * 8 + 3)) = some (.string x.val) ∧ w.cell? (a'.add (i * 8 + 4)) = some (.int .i64 x.a) ∧ w.cell? (a'.add (i * 8 + 5)) = some (.int .i64 x.b) ∧ w.cell? (a'.add (i * 8 + 6)) = some (.int .i64 x.flag) ∧
        w.cell? (a'.add (i * 8 + 7)) = some (.int .i64 x.size)) ∧ SnR x) (fun i hil => by
      obtain ⟨ys, n, _, _, _, hf⟩ := hi i (by omega)
      obtain ⟨v0, y0, c0, _, t0⟩ := hf 0 _ rfl
      obtain ⟨v1, y1, c1, _, t1⟩ := hf 1 _ rfl
      obtain ⟨v2, y2, c2, _, t2⟩ := hf 2 _ rfl
      obtain ⟨v3, y3, c3, _, t3⟩ := hf 3 _ rfl
      obtain ⟨v4, y4, c4, _, t4⟩ := hf 4 _ rfl
      obtain ⟨v5, y5, c5, _, t5⟩ := hf 5 _ rfl
      obtain ⟨v6, y6, c6, _, t6⟩ := hf 6 _ rfl
      obtain ⟨v7, y7, c7, _, t7⟩ := hf 7 _ rfl
      obtain ⟨n0, e0, _, z0⟩ := DataW.trod_int Tryz.underlying3 t0
      obtain ⟨n1, e1, _, z1⟩ := DataW.trod_int Tryz.underlying3 t1
      obtain ⟨s2, e2, _, z2⟩ := DataW.trod_string Tryz.underlying9 t2
      obtain ⟨s3, e3, _, z3⟩ := DataW.trod_string Tryz.underlying9 t3
      obtain ⟨n4, e4, _, z4⟩ := DataW.trod_int Tryz.underlying3 t4
      obtain ⟨n5, e5, _, z5⟩ := DataW.trod_int Tryz.underlying3 t5
      obtain ⟨n6, e6, _, z6⟩ := DataW.trod_int Tryz.underlying3 t6
      obtain ⟨n7, e7, _, z7⟩ := DataW.trod_int Tryz.underlying3 t7
      simp at e0 e1 e2 e3 e4 e5 e6 e7
      subst e0 e1 e2 e3 e4 e5 e6 e7
      exact ⟨⟨n0, n1, s2, s3, n4, n5, n6, n7⟩, ⟨c0, c1, c2, c3, c4, c5, c6, c7⟩, ⟨wf_bounds z0, wf_bounds z1, z2, z3, wf_bounds z4, wf_bounds z5, wf_bounds z6, wf_bounds z7⟩⟩)
    subst hll
    refine ⟨l, ⟨by omega, fun x hx => ?_, ?_⟩, rfl, by first | exact hl | omega⟩
    · obtain ⟨i, hi2, rfl⟩ := List.getElem_of_mem hx
      exact (hp i hi2).2
    · rcases Nat.eq_zero_or_pos l.length with h0 | h0
      · exact .inl (List.eq_nil_of_length_eq_zero h0)
      · obtain ⟨b, o, rfl, hb⟩ := addr_plain (k := 0) (by have := (hp 0 h0).1.1; simpa using this)
        refine .inr ⟨b, o, rfl, hb, fun i hi2 => ?_⟩
        obtain ⟨q0, q1, q2, q3, q4, q5, q6, q7⟩ := (hp i hi2).1
        rw [Addr.add_lit] at q0 q1 q2 q3 q4 q5 q6 q7
        rw [← Nat.add_assoc] at q1 q2 q3 q4 q5 q6 q7
        exact ⟨q0, q1, q2, q3, q4, q5, q6, q7⟩
end Go.Proofs.YtnibpdmbccfgoaaGreatDoor
