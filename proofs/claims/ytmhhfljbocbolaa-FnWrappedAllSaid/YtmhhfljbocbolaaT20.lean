/- Selections: the nodes at some places. -/
import Derived.Test.YtmhhfljbocbolaaT14
import Derived.Deep.QuietTactic
import Derived.BigQuiet
namespace Go.Proofs.Ytmhhfljbocbolaa
open Go.RowKit
set_option linter.unusedVariables false

/-- Places of a tree, each once. -/
structure OrdP (n : Nat) (l : List Int) (ns : List Nat) : Prop where
  eq : l = ns.map fun (k : Nat) => (k : Int)
  lt : ∀ k ∈ ns, k < n
  asc : ns.Nodup

def ivs (l : List Int) : List Value := l.map (Value.int .i64)
theorem ivs_length (l : List Int) : (ivs l).length = l.length := by simp [ivs]
theorem ivs_at {l : List Int} {i : Nat} (h : i < l.length) : (ivs l)[i]'(by rw [ivs_length]; exact h) = .int .i64 l[i] := by simp [ivs]

/-- An argument of numbers. -/
structure ISl (w : World) (B : Nat) (a : Option Addr) (l : List Int) : Prop where
  row : RSl w B a (ivs l)
  len : l.length ≤ maxLen
  rng : ∀ x ∈ l, -9223372036854775808 ≤ x ∧ x ≤ 9223372036854775807

theorem ISl.up {w w' : World} {a : Option Addr} {l : List Int} (h : ISl w w.heap.size a l) (hb : Below w.heap.size w w') : ISl w' w'.heap.size a l := ⟨h.row.up hb, h.len, h.rng⟩

theorem ISl.at_ {w : World} {B : Nat} {a : Option Addr} {l : List Int} (h : ISl w B a l) (h0 : 0 < l.length) :
    ∃ b o, a = some ⟨b, o, none⟩ ∧ b < B ∧ ∀ i (hi : i < l.length), w.cell? ⟨b, o + i, none⟩ = some (.int .i64 l[i]) := by
  obtain ⟨b, o, ha, hb, hc⟩ := h.row.at_ (by rw [ivs_length]; exact h0)
  refine ⟨b, o, ha, hb, fun i hi => ?_⟩
  have := hc i (by rw [ivs_length]; exact hi)
  rw [ivs_at hi] at this
  exact this

/-- What Order knows of the first k places. -/
def Asc (n : Nat) (l : List Int) (k : Nat) : Prop := ∀ i (h : i < l.length), i < k → 0 ≤ l[i] ∧ l[i] < n ∧ ∀ (hp : 0 < i), l[i - 1]'(by omega) < l[i]

theorem asc_ord {n : Nat} {l : List Int} (h : Asc n l l.length) : ∃ ns, OrdP n l ns := by
  refine ⟨l.map Int.toNat, ?_, ?_, ?_⟩
  · rw [List.map_map]
    apply List.ext_getElem
    · simp
    · intro i h1 h2
      have := (h i h1 h1).1
      simp
      omega
  · intro k hk
    obtain ⟨x, hx, rfl⟩ := List.mem_map.1 hk
    obtain ⟨i, hi, rfl⟩ := List.getElem_of_mem hx
    have := h i hi hi
    omega
  · refine List.Pairwise.imp (R := (· < ·)) (fun h => Nat.ne_of_lt h) ?_
    rw [List.pairwise_iff_getElem]
    intro i j hi hj hij
    rw [List.length_map] at hi hj
    have key : ∀ d i (hd : i + d + 1 < l.length), l[i]'(by omega) < l[i + d + 1]'hd := by
      intro d
      induction d with
      | zero => intro i hd; exact (h (i + 1) hd hd).2.2 (by omega)
      | succ d ih =>
        intro i hd
        have a1 := ih i (by omega)
        have a2 := (h (i + (d + 1) + 1) hd hd).2.2 (by omega)
        have e : i + (d + 1) + 1 - 1 = i + d + 1 := by omega
        simp only [e] at a2
        omega
    have := key (j - i - 1) i (by omega)
    have e : i + (j - i - 1) + 1 = j := by omega
    simp only [e] at this
    have p1 := (h i hi hi).1
    have p2 := (h j hj hj).1
    simp
    omega

def OrderPost (n : Nat) (l : List Int) (w : World) (e : Ending) (w' : World) : Prop := ∃ b q, e = .returned (.bool b) ∧ (b = true → ∃ ns, OrdP n l ns) ∧ w' = w.drewN q

end Go.Proofs.Ytmhhfljbocbolaa
