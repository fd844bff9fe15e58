/- A range over the iterator of a selection: the law of the loop. -/
import Derived.Test.YtgilbckfkngaiaaT176
import Derived.RangeFuncWrites
namespace Go.Proofs.Ytgilbckfkngaiaa
open Go.RowKit Go.Shelf
set_option linter.unusedVariables false

theorem putObj_below {W W' : World} {l : Nat} {o : Obj} (h : Below W.heap.size W W') (hl : l < W.heap.size) : Below (W.putObj l o).heap.size (W.putObj l o) (W'.putObj l o) := by
  have hs := h.size
  refine ⟨h.os, h.tape, h.output, by simp [World.putObj]; omega, fun b hb => ?_⟩
  have hb' : b < W.heap.size := by simpa [World.putObj] using hb
  by_cases e : b = l
  · subst e
    rw [World.putObj_heap_same (by omega), World.putObj_heap_same hl]
  · rw [World.putObj_heap_other e, World.putObj_heap_other e]
    exact h.block b hb'

theorem roundIn_wide {n m : Nat} {P : Program} {l : Nat} {f : FuncId} {tmps : Array Value} {assign body : Code} {w : World} {R : Ending → World → Prop} (h : RoundIn Fence.wide m P l f tmps assign body w R) : RoundIn Fence.wide n P l f tmps assign body w R :=
  ⟨trivial, fun c cs _ => h.2 c cs (room_wide _)⟩

set_option maxHeartbeats 1000000 in
theorem range_each {ps : Array Tmp} {go : Operand} {assign body : Code} {Q : Exit → Act → World → Prop} {act : Act} {w : World} {m : Nat} (hm : 1 ≤ m)
    (Bs g : Nat) (bl : Nat → Nat) (n L ga : Nat) (a : Option Addr) (c : Nat) (doc : Option Addr) (ns : List Nat) (hlen : ns.length ≤ 200)
    (hg : act.eval go = .func (.func 116) #[] #[.pointer (some ⟨Bs, 0, none⟩)]) (hps : ps.size = 2) (I : Nat → World → Prop)
    (hE : ∀ k W, I k W → EachW bl n L ga g a c doc ns W ∧ W.cell? ⟨Bs, 0, none⟩ = some (.pointer (some ⟨g, 0, none⟩)))
    (hIb : ∀ k W W', I k W → Below W.heap.size W W' → I k W')
    (hIp : ∀ k W o, I k W → (∃ o', W.heap[w.heap.size + 1]? = some o' ∧ o'.isCells = false) → I k (W.putObj (w.heap.size + 1) o))
    (h0 : I 0 w) (a₁ : Nat → Nat → Act)
    (hassign : ∀ (k gs : Nat) (W : World) (K : Act → World → Prop), K (a₁ k gs) W →
      assign.wpIn (Fence.wide.inRound (w.heap.size + 1)) (m - 1) Try.prog (Exit.then K (fun _ _ _ => False)) { tmps := (ps.zip #[.int .i64 k, .pointer (some ⟨gs, 0, none⟩)]).foldl (fun t (p, v) => t.setIfInBounds p v) act.tmps, defers := [] } W)
    (hbody : ∀ (k : Nat) (hk : k < ns.length) (gs r : Nat) (Wk W : World), I k Wk → Below Wk.heap.size Wk W → w.heap.size + 2 ≤ Wk.heap.size → Wk.heap.size ≤ gs → Wk.heap.size ≤ r →
      W.cell? ⟨gs, 0, none⟩ = some (.slice (some ⟨r, 0, none⟩) 1 1) → W.cell? ⟨r, 0, none⟩ = some (.pointer (some ⟨bl ns[k], 0, none⟩)) →
      body.wpIn (Fence.wide.inRound (w.heap.size + 1)) (m - 1) Try.prog (fun e _ W3 => e = .normal ∧ I (k + 1) W3 ∧ W3.heap[w.heap.size]? = W.heap[w.heap.size]? ∧ W3.heap[w.heap.size + 1]? = W.heap[w.heap.size + 1]?) (a₁ k gs) W)
    (hdone : ∀ W, I ns.length W → W.heap[w.heap.size]? = some (.deferred (some [])) → Q .normal { act with defers := { target := .collected w.heap.size, args := #[] } :: act.defers } W) :
    (Code.rangeFunc go ps assign body).wpIn Fence.wide m Try.prog Q act w := by
  refine wpIn_rangeFunc ?_
  intro fn hfn
  show ∃ (l : Nat) (mark : List Deferred) (w₁ : World) (d : Deferred) (w₁' : World) (f : FuncId) (args : Array Value) (w₂ : World), (Instr.enterLoop fn act.tmps ps assign body none).run Try.prog w = .ok (l, mark) w₁ ∧ _
  obtain ⟨rec, hrec⟩ : ∃ rec : LoopState → Option Code → Loop, rec = fun st pe => { state := st, pending := pe, fn, tmps := act.tmps, params := ps, assign, body, defers := w.heap.size } := ⟨_, rfl⟩
  obtain ⟨W1, hW1⟩ : ∃ W1, (w.alloc (.deferred (some []))).alloc (.loop (rec .ready none)) = W1 := ⟨_, rfl⟩
  have hL1 : W1.heap[w.heap.size + 1]? = some (.loop (rec .ready none)) := by
    rw [← hW1]; have := World.alloc_heap_new (w.alloc (.deferred (some []))) (.loop (rec .ready none)); rwa [World.size_alloc] at this
  have hK1 : W1.heap[w.heap.size]? = some (.deferred (some [])) := by
    rw [← hW1]; exact (Below.heap_alloc _ _ _ (by simp)).trans (World.alloc_heap_new w _)
  have hI1 : I 0 W1 := by
    rw [← hW1]
    exact hIb _ _ _ h0 (((Below.refl _ w).alloc (Nat.le_refl _) _).alloc (by simp) _)
  refine ⟨w.heap.size + 1, [{ target := .collected w.heap.size, args := #[] }], W1, { target := .fn (.func 116) #[.pointer (some ⟨Bs, 0, none⟩)], args := #[.func (.yield (w.heap.size + 1)) #[] #[]] }, W1, 116,
    #[.func (.yield (w.heap.size + 1)) #[] #[]] ++ #[.pointer (some ⟨Bs, 0, none⟩)], W1, ?_, ?_, ?_, ?_, fun _ => hm, ?_⟩
  · rw [← hW1, hrec]; exact run_enterLoop_outer _ _ _ _ _
  · simp only [resolve, hg]
    simp [go_sem]
  · intro f' hf'; trivial
  · simp [invoke, go_sem]
  · have hit := eachIter1_in (w.heap.size + 1) Bs g bl n L ga a c doc ns hlen
      (fun k W => I k W ∧ W.heap[w.heap.size + 1]? = some (.loop (rec .ready none)) ∧ W.heap[w.heap.size]? = some (.deferred (some []))) (fun k W h => hE k W h.1) ?_ W1 ⟨hI1, hL1, hK1⟩
    · refine CallsIn.mono (callsIn_wide.2 (callsIn_wide.1 hit)) ?_
      rintro e W2 ⟨⟨v, rfl⟩, hi, hl, hk⟩
      refine ⟨none, _, by have := run_endLoop (P := Try.prog) hl (by rw [hrec]; simp); rw [hrec] at this; exact this, hdone _ (hIp _ _ _ hi ⟨_, hl, rfl⟩) ((World.putObj_heap_other (by omega)).trans hk)⟩
    · rintro k hk gs r Wk W ⟨hi, hl, hkd⟩ hb hgs hr c1 c2
      have hlt : w.heap.size + 1 < Wk.heap.size := (Array.getElem?_eq_some_iff.1 hl).1
      have hlW := (hb.block _ hlt).trans hl
      have hkW := (hb.block _ (by omega)).trans hkd
      have hy := run_yield (P := Try.prog) (args := #[.int .i64 k, .pointer (some ⟨gs, 0, none⟩)]) hlW (by rw [hrec]; exact hps.symm)
      rw [hrec] at hy
      refine ⟨fn, _, assign, body, hy, ?_⟩
      refine roundIn_wide (m := m - 1) (roundIn_of_wpIn hfn (hassign k gs W _ ?_))
      clear hy
      refine ⟨_, run_beginRound hlW (by rw [hrec]), ?_⟩
      have hsW := hb.size
      have hl2 : (W.putObj (w.heap.size + 1) (.loop { rec .ready none with state := .busy })).heap[w.heap.size + 1]? = some (.loop { rec .ready none with state := .busy }) := World.putObj_heap_same (by omega)
      have hk2 : (W.putObj (w.heap.size + 1) (.loop { rec .ready none with state := .busy })).heap[w.heap.size]? = some (.deferred (some [])) := (World.putObj_heap_other (by omega)).trans hkW
      have hcell : ∀ (b o : Nat) (v : Value), Wk.heap.size ≤ b → W.cell? ⟨b, o, none⟩ = some v → (W.putObj (w.heap.size + 1) (.loop { rec .ready none with state := .busy })).cell? ⟨b, o, none⟩ = some v := fun b o v hbb hv =>
        (World.cell?_of_block (a := ⟨b, o, none⟩) (World.putObj_heap_other (by show b ≠ _; omega))).trans hv
      have hsz : ∀ (X : World) o, (X.putObj (w.heap.size + 1) o).heap.size = X.heap.size := fun X o => by simp [World.putObj]
      refine wpIn_mono (hbody k hk gs r (Wk.putObj (w.heap.size + 1) (.loop { rec .ready none with state := .busy })) _ (hIp _ _ _ hi ⟨_, hl, rfl⟩) (putObj_below hb hlt) (by rw [hsz]; omega) (by rw [hsz]; exact hgs) (by rw [hsz]; exact hr) (hcell _ _ _ hgs c1) (hcell _ _ _ hr c2)) ?_
      rintro e a3 W3 ⟨rfl, hi3, h4, h5⟩
      have hl3 := h5.trans hl2
      have hk3 := h4.trans hk2
      have hend := run_endRound (P := Try.prog) none hl3
      rw [hrec] at hend
      refine ⟨_, _, hend, rfl, hIp _ _ _ hi3 ⟨_, hl3, rfl⟩, ?_, (World.putObj_heap_other (by omega)).trans hk3⟩
      rw [hrec]
      exact World.putObj_heap_same (Array.getElem?_eq_some_iff.1 hl3).1
end Go.Proofs.Ytgilbckfkngaiaa
