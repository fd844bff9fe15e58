/- Sets of nodes: a map keyed by pointers. -/
import Derived.Test.YtmhhfljbocbolaaT42
import Derived.MapFrom
import Derived.LaidEqlPtr
namespace Go.Proofs.Ytmhhfljbocbolaa
open Go.RowKit
set_option linter.unusedVariables false

theorem equal_same (bl : Nat → Nat) (i : Nat) (w : World) : (Op.equal 69 (.pointer (some ⟨bl i, 0, none⟩)) (.pointer (some ⟨bl i, 0, none⟩))).run Try.prog w = .ok true w := by
  obtain ⟨j, hj, _⟩ := Option.map_eq_some_iff.1 Try.infoN
  have h : ∀ d : Nat, (Op.equalIn (d + 1) 69 (.pointer (some ⟨bl i, 0, none⟩)) (.pointer (some ⟨bl i, 0, none⟩))).run Try.prog w = .ok true w := fun d => by
    simp [Op.equalIn, run_underlying Try.underlying69, sizeOf, typeInfo, hj, run_sameAddr_same]
  simp [Op.equal, Op.maxDepth, h 9999]

theorem equal_other {bl : Nat → Nat} {n : Nat} {w : World} (hN : NodesAt bl n w) {i k : Nat} (hi : i < n) (hk : k < n) (hne : i ≠ k) : (Op.equal 69 (.pointer (some ⟨bl i, 0, none⟩)) (.pointer (some ⟨bl k, 0, none⟩))).run Try.prog w = .ok false w := by
  obtain ⟨j, hj, hjs⟩ := Option.map_eq_some_iff.1 Try.infoN
  obtain ⟨c1, e1, s1⟩ := hN.blk i hi
  obtain ⟨c2, e2, s2⟩ := hN.blk k hk
  have hb : bl i ≠ bl k := fun e => hne (hN.inj i k hi hk e)
  have h : ∀ d : Nat, (Op.equalIn (d + 1) 69 (.pointer (some ⟨bl i, 0, none⟩)) (.pointer (some ⟨bl k, 0, none⟩))).run Try.prog w = .ok false w := fun d => by
    have hsz : j.size ≠ 0 := by omega
    have hs := run_sameAddr_other (P := Try.prog) w (a := ⟨bl i, 0, none⟩) (b := ⟨bl k, 0, none⟩) (fun h => hb (congrArg Addr.block h)) e1 e2
    simp [Op.equalIn, run_underlying Try.underlying69, sizeOf, typeInfo, hj, hsz, hs]
  simp [Op.equal, Op.maxDepth, h 9999]

theorem findAsking_in {bl : Nat → Nat} {n : Nat} {w : World} (hN : NodesAt bl n w) {i : Nat} (hi : i < n) : ∀ (es : List MapEntry) (ms : List Nat) (k : Nat), es.map (·.key) = ptrs bl ms → (∀ m ∈ ms, m < n) → (∀ e ∈ es, e.val = .bool true) → i ∈ ms →
    ∃ j, (Instr.findAsking 69 (.pointer (some ⟨bl i, 0, none⟩)) es k).run Try.prog w = .ok (some (j, .bool true)) w := by
  intro es
  induction es with
  | nil => intro ms k h hm hv hin; cases ms <;> simp [ptrs] at h; simp at hin
  | cons e es ih =>
    intro ms k h hm hv hin
    cases ms with
    | nil => simp at hin
    | cons m ms =>
      simp only [List.map_cons, ptrs, List.cons.injEq] at h
      obtain ⟨hk, hr⟩ := h
      have hm0 := hm m (by simp)
      by_cases e1 : i = m
      · subst e1
        refine ⟨k, ?_⟩
        simp [Instr.findAsking, hk, equal_same, hv e (by simp), Result.andThen]
      · obtain ⟨j, hj⟩ := ih ms (k + 1) hr (fun x hx => hm x (by simp [hx])) (fun x hx => hv x (by simp [hx])) (by simpa [e1] using hin)
        refine ⟨j, ?_⟩
        simp [Instr.findAsking, hk, equal_other hN hi hm0 e1, Result.andThen, hj]

theorem findAsking_out {bl : Nat → Nat} {n : Nat} {w : World} (hN : NodesAt bl n w) {i : Nat} (hi : i < n) : ∀ (es : List MapEntry) (ms : List Nat) (k : Nat), es.map (·.key) = ptrs bl ms → (∀ m ∈ ms, m < n) → i ∉ ms →
    (Instr.findAsking 69 (.pointer (some ⟨bl i, 0, none⟩)) es k).run Try.prog w = .ok none w := by
  intro es
  induction es with
  | nil => intro ms k h hm hin; simp [Instr.findAsking]
  | cons e es ih =>
    intro ms k h hm hin
    cases ms with
    | nil => simp [ptrs] at h
    | cons m ms =>
      simp only [List.map_cons, ptrs, List.cons.injEq] at h
      obtain ⟨hk, hr⟩ := h
      have hm0 := hm m (by simp)
      have e1 : i ≠ m := fun e1 => hin (by simp [e1])
      have := ih ms (k + 1) hr (fun x hx => hm x (by simp [hx])) (fun hx => hin (by simp [hx]))
      simp [Instr.findAsking, hk, equal_other hN hi hm0 e1, Result.andThen, this]

theorem findNow_ptr (k : Value) (te : TypeId) (e : MapEntry) (es : List MapEntry) : Instr.findNow (.pointer te) k (e :: es) 0 = none := by
  simp [Instr.findNow, Instr.sameNow]

/-- A set of nodes. -/
def PSet (bl : Nat → Nat) (ms : List Nat) (bm : Nat) (w : World) : Prop :=
  ∃ es clock, w.heap[bm]? = some (.map es clock) ∧ es.toList.map (·.key) = ptrs bl ms ∧ ∀ e ∈ es.toList, e.val = .bool true

theorem PSet.new (bl : Nat → Nat) (w : World) : PSet bl [] w.heap.size (w.alloc (.map #[] 0)) := ⟨#[], 0, heap_alloc_new w _, rfl, fun e he => by simp at he⟩
theorem PSet.lt {bl : Nat → Nat} {ms : List Nat} {bm : Nat} {w : World} (h : PSet bl ms bm w) : bm < w.heap.size := by
  obtain ⟨es, cl, hb, _⟩ := h
  exact (Array.getElem?_eq_some_iff.1 hb).1
theorem PSet.block {bl : Nat → Nat} {ms : List Nat} {bm : Nat} {w w' : World} (h : PSet bl ms bm w) (hb : w'.heap[bm]? = w.heap[bm]?) : PSet bl ms bm w' := by
  obtain ⟨es, cl, h1, h2⟩ := h
  exact ⟨es, cl, hb.trans h1, h2⟩

theorem PSet.look {bl : Nat → Nat} {n : Nat} {ms : List Nat} {bm : Nat} {w : World} (h : PSet bl ms bm w) (hN : NodesAt bl n w) (hm : ∀ m ∈ ms, m < n) {i : Nat} (hi : i < n) :
    (Instr.lookup 140 (.map (some bm)) (.pointer (some ⟨bl i, 0, none⟩)) false).run Try.prog w = .ok (.bool (decide (i ∈ ms))) w := by
  obtain ⟨es, cl, hb, hk, hv⟩ := h
  have hck : ∀ em : Bool, (Instr.checkKey em 10000 69 (.pointer (some ⟨bl i, 0, none⟩))).run Try.prog w = .ok () w := fun em => by
    unfold Instr.checkKey
    simp [run_underlying Try.underlying69]
  have hf : (Instr.findKey 69 (.pointer (some ⟨bl i, 0, none⟩)) es.toList).run Try.prog w = (Instr.findAsking 69 (.pointer (some ⟨bl i, 0, none⟩)) es.toList).run Try.prog w := by
    unfold Instr.findKey
    cases hl : es.toList with
    | nil => simp [run_underlying Try.underlying69, Instr.findNow, Instr.findAsking]
    | cons e l => simp [run_underlying Try.underlying69, findNow_ptr]
  by_cases hin : i ∈ ms
  · obtain ⟨j, hj⟩ := findAsking_in hN hi es.toList ms 0 hk hm hv hin
    rw [decide_eq_true hin]
    simp [Instr.lookup, run_underlying Try.underlying140, MapKept.run_getObj_map hb, hck, hf, hj, Result.andThen]
  · have hj := findAsking_out hN hi es.toList ms 0 hk hm hin
    rw [decide_eq_false hin]
    simp [Instr.lookup, run_underlying Try.underlying140, MapKept.run_getObj_map hb, hck, hf, hj, Result.andThen]

theorem PSet.store {bl : Nat → Nat} {n : Nat} {ms : List Nat} {bm : Nat} {w : World} (h : PSet bl ms bm w) (hN : NodesAt bl n w) (hm : ∀ m ∈ ms, m < n) {i : Nat} (hi : i < n) (hin : i ∉ ms) :
    ∃ w', (Instr.mapUpdate 140 (.map (some bm)) (.pointer (some ⟨bl i, 0, none⟩)) (.bool true)).run Try.prog w = .ok () w' ∧ PSet bl (ms ++ [i]) bm w' ∧ w.grownBy w' (some bm) := by
  obtain ⟨es, cl, hb, hk, hv⟩ := h
  have hck : ∀ em : Bool, (Instr.checkKey em 10000 69 (.pointer (some ⟨bl i, 0, none⟩))).run Try.prog w = .ok () w := fun em => by
    unfold Instr.checkKey
    simp [run_underlying Try.underlying69]
  have hf : (Instr.findKey 69 (.pointer (some ⟨bl i, 0, none⟩)) es.toList).run Try.prog w = (Instr.findAsking 69 (.pointer (some ⟨bl i, 0, none⟩)) es.toList).run Try.prog w := by
    unfold Instr.findKey
    cases hl : es.toList with
    | nil => simp [run_underlying Try.underlying69, Instr.findNow, Instr.findAsking]
    | cons e l => simp [run_underlying Try.underlying69, findNow_ptr]
  have hj := findAsking_out hN hi es.toList ms 0 hk hm hin
  have hlt : bm < w.heap.size := (Array.getElem?_eq_some_iff.1 hb).1
  refine ⟨{ w with heap := w.heap.setIfInBounds bm (.map (es.push { key := .pointer (some ⟨bl i, 0, none⟩), val := .bool true, born := cl }) (cl + 1)) }, ?_, ⟨es.push { key := .pointer (some ⟨bl i, 0, none⟩), val := .bool true, born := cl }, cl + 1, ?_, ?_, ?_⟩, ?_⟩
  · simp [Instr.mapUpdate, run_underlying Try.underlying140, MapKept.run_getObj_map hb, hck, hf, hj, MapKept.run_setObj_map _ hb, Result.andThen]
  · simp [hlt]
  · rw [Array.toList_push, List.map_append, hk]
    simp [ptrs]
  · intro e he
    rw [Array.toList_push, List.mem_append, List.mem_singleton] at he
    rcases he with he | rfl
    · exact hv e he
    · rfl
  · refine ⟨rfl, rfl, rfl, by simp, fun q hq hne => ?_⟩
    show (w.heap.setIfInBounds bm _)[q]? = _
    rw [Array.getElem?_setIfInBounds_ne (fun e => hne (by rw [e]))]
end Go.Proofs.Ytmhhfljbocbolaa
