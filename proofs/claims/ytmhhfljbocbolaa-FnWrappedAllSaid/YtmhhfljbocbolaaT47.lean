/- mapNodes: what a closure gives for each node, each once. -/
import Derived.Test.YtmhhfljbocbolaaT46
import Derived.Laws.MakeOwn
import Derived.Laws.Entries
namespace Go.Proofs.Ytmhhfljbocbolaa
open Go.RowKit
set_option linter.unusedVariables false

theorem run_makeMap_hint {P : Program} (t k e : TypeId) (kd : IntKind) (n : Int) (ht : P.underlying t = some (.map k e)) (w : World) :
    (Instr.makeMap t (some (.int kd n))).run P w = .ok (.map (some w.heap.size)) (w.alloc (.map #[] 0)) := by
  simp [Instr.makeMap, run_underlying ht]; rfl

/-- All that is given for some nodes, each once, in the order in which it is met. -/
def mapN (ns : List Nat) (fs : Nat → List Nat) : List Nat := ns.foldl (fun acc i => addN acc (fs i)) []
theorem mapN_snoc (ns : List Nat) (fs : Nat → List Nat) (i : Nat) : mapN (ns ++ [i]) fs = addN (mapN ns fs) (fs i) := by
  unfold mapN
  rw [List.foldl_append]
  rfl
theorem rev_indN {P : List Nat → Prop} (h0 : P []) (h1 : ∀ l x, P l → P (l ++ [x])) : ∀ l, P l := by
  intro l
  have key : ∀ n, ∀ l : List Nat, l.length = n → P l := by
    intro n
    induction n with
    | zero => intro l h; rw [List.eq_nil_of_length_eq_zero h]; exact h0
    | succ n ih =>
      intro l h
      have hne : l ≠ [] := by intro e; rw [e] at h; simp at h
      rw [← List.dropLast_concat_getLast hne]
      exact h1 _ _ (ih _ (by simp [h]))
  exact key _ l rfl
theorem mapN_mem (ns : List Nat) (fs : Nat → List Nat) : ∀ x, x ∈ mapN ns fs ↔ ∃ i ∈ ns, x ∈ fs i := by
  induction ns using rev_indN with
  | h0 => intro x; simp [mapN]
  | h1 l y ih =>
    intro x
    rw [mapN_snoc, addN_mem, ih x]
    constructor
    · rintro (⟨i, hi, hx⟩ | hx)
      · exact ⟨i, by simp [hi], hx⟩
      · exact ⟨y, by simp, hx⟩
    · rintro ⟨i, hi, hx⟩
      rw [List.mem_append, List.mem_singleton] at hi
      rcases hi with hi | rfl
      · exact .inl ⟨i, hi, hx⟩
      · exact .inr hx
theorem mapN_nodup (ns : List Nat) (fs : Nat → List Nat) (h : ∀ i ∈ ns, (fs i).Nodup) : (mapN ns fs).Nodup := by
  induction ns using rev_indN with
  | h0 => simp [mapN]
  | h1 l y ih =>
    rw [mapN_snoc]
    exact addN_nodup (ih (fun i hi => h i (by simp [hi]))) (h y (by simp))
theorem mapN_facts {n : Nat} {fs : Nat → List Nat} (hn : n ≤ 200) (hfs : ∀ i, i < n → (∀ m ∈ fs i, m < n) ∧ (fs i).Nodup ∧ (fs i).length ≤ 200) (ns : List Nat) (hns : ∀ k ∈ ns, k < n) : (mapN ns fs).length ≤ n ∧ ∀ m ∈ mapN ns fs, m < n := by
  have h2 : ∀ m ∈ mapN ns fs, m < n := by
    intro m hm
    obtain ⟨i, hi, hx⟩ := (mapN_mem ns fs m).1 hm
    exact (hfs i (hns i hi)).1 m hx
  exact ⟨nodup_len (mapN_nodup ns fs (fun i hi => (hfs i (hns i hi)).2.1)) h2, h2⟩

def MapRel (bl : Nat → Nat) (ns : List Nat) (fs : Nat → List Nat) (w : World) (v x : Value) (wr : World) : Prop :=
  ∃ (k : Nat) (a : Option Addr) (c : Nat), k ≤ ns.length ∧ x = .int .i64 (k : Nat) ∧ v = .slice a (mapN (ns.take k) fs).length c ∧
    wr.ownsRow w.heap.size 69 1 (.slice a (mapN (ns.take k) fs).length c) (mapN (ns.take k) fs).length (ptrs bl (mapN (ns.take k) fs)) ∧ PSet bl (mapN (ns.take k) fs) w.heap.size wr ∧ Below w.heap.size w wr

end Go.Proofs.Ytmhhfljbocbolaa
