/- EachIter: the iterator, the loop over it. -/
import Derived.Test.YtgilbckfkngaiaaT175
import Derived.Test.YtgilbckfkngaiaaT170
import Derived.Test.YtgilbckfkngaiaaT169
import Derived.RangeFuncNested
import Derived.RangeFuncBound
import Derived.Shelf.Abstract
import Derived.Shelf.RegionOpen
import Derived.WalkKit
import Derived.OwnWalkIn
import Derived.TacticsInMore
import Derived.LoopNIn
import Derived.LoopIn
namespace Go.Proofs.Ytgilbckfkngaiaa
open Go.RowKit Go.Shelf
attribute [local go_sem] Oper.semAt_some
set_option linter.unusedVariables false

set_option maxRecDepth 100000 in
set_option maxHeartbeats 2000000 in
/-- EachIter$1, for every body that leads from one round to the next. -/
theorem eachIter1_in (l Bs g : Nat) (bl : Nat → Nat) (n L ga : Nat) (a : Option Addr) (c : Nat) (doc : Option Addr) (ns : List Nat) (hlen : ns.length ≤ 200) (J : Nat → World → Prop)
    (hJ : ∀ k W, J k W → EachW bl n L ga g a c doc ns W ∧ W.cell? ⟨Bs, 0, none⟩ = some (.pointer (some ⟨g, 0, none⟩)))
    (hY : ∀ k (hk : k < ns.length) (gs r : Nat) (Wk W : World), J k Wk → Below Wk.heap.size Wk W → Wk.heap.size ≤ gs → Wk.heap.size ≤ r → W.cell? ⟨gs, 0, none⟩ = some (.slice (some ⟨r, 0, none⟩) 1 1) → W.cell? ⟨r, 0, none⟩ = some (.pointer (some ⟨bl ns[k], 0, none⟩)) →
      YieldAt Fence.wide 0 Try.prog l #[.int .i64 k, .pointer (some ⟨gs, 0, none⟩)] W fun e W' => e = .returned (.bool true) ∧ J (k + 1) W')
    (W : World) (h0 : J 0 W) :
    CallsIn Fence.wide 1 Try.prog 116 #[.func (.yield l) #[] #[], .pointer (some ⟨Bs, 0, none⟩)] W fun e W' => (∃ v, e = .returned v) ∧ J ns.length W' := by
  refine callsIn_of_wp Try.func116 rfl trivial ?_
  simp only [Try.ntmps116, List.size_toArray, List.length_cons, List.length_nil, Nat.reduceAdd, Nat.reduceSub, Array.replicate_succ, Array.replicate_zero, List.push_toArray, List.append_toArray, List.nil_append, List.cons_append]
  obtain ⟨hE0, hB0⟩ := hJ 0 W h0
  have c0 := hE0.sel0
  gi_wp2
  gi_loopw [10] (fun i wr => ∃ k : Nat, k ≤ ns.length ∧ i = .int .i64 k ∧ J k wr) (fun i _ => ns.length - (intOf i).toNat)
  case atStart => exact ⟨0, Nat.zero_le _, rfl, h0⟩
  case round =>
    obtain ⟨k, hk, rfl, hJk⟩ := hrel
    obtain ⟨hE, hB⟩ := hJ k wr hJk
    by_cases hlt : k < ns.length
    · obtain ⟨b, o, rfl, hbB, hc⟩ := hE.row.at_ (by rw [ptrs_length]; omega)
      have g1 := hc k (by rw [ptrs_length]; exact hlt)
      rw [ptrs_at hlt] at g1
      have g2 := hE.sel1
      have hS := Lib.hid (single_any ⟨bl ns[k], 0, none⟩ doc wr)
      have HY := Lib.hid (hY k hlt)
      clear hY hc
      gi_wp2
      refine ⟨trivial, CallsIn.mono ((callsIn_wide (n := 0)).2 hS.out) ?_⟩
      rintro e w1 ⟨gs, r, rfl, hsel, hgs, hr, hown, hb1⟩
      obtain ⟨fn, tmps, assign, body, hy, hR⟩ := HY.out gs r wr w1 hJk hb1 hgs hr hsel.cells.1 (cell_of_own1 hown)
      clear hsel hown g1 g2
      gi_wp2
      refine RoundIn.mono hR ?_
      rintro e w2 ⟨rfl, hJ2⟩
      gi_wp2
      go_roundw
      case rel => exact ⟨k + 1, by omega, by go_num, hJ2⟩
      case measure => simp [intOf]; omega
    · have e : k = ns.length := by omega
      subst e
      gi_wp2
      go_end0
      exact ⟨⟨_, rfl⟩, hJk⟩
end Go.Proofs.Ytgilbckfkngaiaa
