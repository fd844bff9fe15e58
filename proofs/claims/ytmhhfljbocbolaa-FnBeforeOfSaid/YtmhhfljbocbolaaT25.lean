/- FnSize: the walk. -/
import Derived.Test.YtmhhfljbocbolaaT24
import Derived.Test.YtmhhfljbocbolaaT18
namespace Go.Proofs.Ytmhhfljbocbolaa
open Go.RowKit
set_option linter.unusedVariables false

open Go.WideShapes Go.Deep in
theorem open_ints {H : Type} {enc : TypeId × Value → H} {w : World} {base : Nat} {spare : Nat → Bool} {held : Bool} {a : Option Addr} {len cap : Nat} {d : DataW H} {p : List MemPlace} (h : DataW.Trod enc Try.prog w base spare held 23 (.slice a len cap) d p) :
    ∃ l : List Int, ISl w w.heap.size a l ∧ len = l.length := by
  obtain ⟨fuel, h⟩ := h
  have hC : Try.prog.cellsOf 3 = 1 := by kernel_rfl
  rcases open_slice Try.underlying23 h with ⟨hcs, _⟩ | ⟨a', len', cap', m, n, D, Pl, hcs, _, hl, hm, hmm, hx, hi⟩
  · simp [Value.cells] at hcs
    exact ⟨[], ⟨.inl rfl, by simp, by simp⟩, by simp [hcs.2.1]⟩
  · simp [Value.cells] at hcs
    obtain ⟨rfl, rfl, rfl⟩ := hcs
    have hlm : len ≤ m := by rw [hmm]; split <;> omega
    obtain ⟨l, hll, hp⟩ := list_of len (fun i (x : Int) => w.cell? (a'.add i) = some (.int .i64 x) ∧ (-9223372036854775808 ≤ x ∧ x ≤ 9223372036854775807)) (fun i hil => by
      obtain ⟨cs', hc, ht⟩ := hi i (by omega)
      rw [hC, Nat.mul_one] at hc
      obtain ⟨_, hcl, hat⟩ := World.cells?_some hc
      obtain ⟨v, rfl⟩ : ∃ v, cs' = [v] := by
        match cs', hcl with
        | [v], _ => exact ⟨v, rfl⟩
      obtain ⟨n0, e0, _, z0⟩ := DataW.trod_int Try.underlying3 ht
      simp at e0
      subst e0
      have := hat 0 (by omega)
      rw [Go.Deep.add_add, Nat.add_zero] at this
      exact ⟨n0, this, wf_bounds z0⟩)
    subst hll
    refine ⟨l, ⟨?_, by omega, fun x hx => ?_⟩, rfl⟩
    · rcases Nat.eq_zero_or_pos l.length with h0 | h0
      · exact .inl (by rw [List.eq_nil_of_length_eq_zero h0]; rfl)
      · obtain ⟨b, o, rfl, hb⟩ := addr_plain (k := 0) (hp 0 h0).1
        refine .inr ⟨b, o, rfl, hb, fun i hi2 => ?_⟩
        rw [ivs_length] at hi2
        have := (hp i hi2).1
        rw [Addr.add_lit] at this
        rw [ivs_at hi2]
        exact this
    · obtain ⟨i, hi2, rfl⟩ := List.getElem_of_mem hx
      exact (hp i hi2).2
end Go.Proofs.Ytmhhfljbocbolaa
