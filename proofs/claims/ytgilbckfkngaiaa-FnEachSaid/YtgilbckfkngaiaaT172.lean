/- The closure of Mapped. (Printed by gen172.py.) -/
import Derived.Test.YtgilbckfkngaiaaT167
import Derived.BigRegion
namespace Go.Proofs.Ytgilbckfkngaiaa
open Go.RowKit
set_option linter.unusedVariables false

/-- Nothing that lies there has turned but a variable and its row. -/
structure Fr1 (gl : Nat) (vl : Value) (W W' : World) : Prop where
  os : W'.os = W.os
  tape : W'.tape = W.tape
  output : W'.output = W.output
  size : W.heap.size ≤ W'.heap.size
  block : ∀ b, b < W.heap.size → b ≠ gl → some b ≠ vl.ownBlock → W'.heap[b]? = W.heap[b]?

theorem map_step {B gl : Nat} {vl : Value} {P : List Int} {W w2 w3 : World} {q : Int} {a2 : Option Addr} {c2 : Nat} (hl : Var1 B gl vl P W) (hgl : gl < B) (hB : B ≤ W.heap.size) (hb : Below W.heap.size W.drew w2)
    (h2 : w3.ownsRow B 3 1 (.slice a2 (P ++ [q]).length c2) (P ++ [q]).length (ivs (P ++ [q]))) (hg2 : w2.grownBy w3 vl.ownBlock) (hat2 : (Value.slice a2 (P ++ [q]).length c2).ownBlock = vl.ownBlock ∨ (Value.slice a2 (P ++ [q]).length c2).ownBlock = some w2.heap.size) :
    (Var1 B gl (.slice a2 (P ++ [q]).length c2) (P ++ [q]) (w3.setCell ⟨gl, 0, none⟩ (.slice a2 (P ++ [q]).length c2)) ∧ ((Value.slice a2 (P ++ [q]).length c2).ownBlock = vl.ownBlock ∨ ∃ b, (Value.slice a2 (P ++ [q]).length c2).ownBlock = some b ∧ W.heap.size ≤ b)) ∧
      Fr1 gl vl W (w3.setCell ⟨gl, 0, none⟩ (.slice a2 (P ++ [q]).length c2)) := by
  have hs2 : W.heap.size ≤ w2.heap.size := hb.size
  have hs3 := hg2.size
  have hgW := hl.lt
  have n2 : (Value.slice a2 (P ++ [q]).length c2).ownBlock ≠ some gl := fun e => by have := (h2.lt gl e).1; omega
  have ng : some gl ≠ vl.ownBlock := fun e => by have := (hl.2.2.lt gl e.symm).1; omega
  have hgl3 : w3.heap[gl]? = W.heap[gl]? := (hg2.block gl (by omega) ng).trans (hb.block gl hgW)
  refine ⟨⟨hl.put hgl3 ⟨_, _, rfl⟩ h2 n2, ?_⟩, hg2.os.trans hb.os, hg2.tape.trans hb.tape, hg2.output.trans hb.output, ?_, fun b hbW hne hown => ?_⟩
  · rcases hat2 with e | e
    · exact .inl e
    · exact .inr ⟨_, e, hs2⟩
  · simp [World.setCell]; omega
  · rw [Below.heap_setCell _ _ _ _ (by exact hne)]
    exact (hg2.block b (by omega) hown).trans (hb.block b hbW)

set_option maxRecDepth 100000 in
set_option maxHeartbeats 4000000 in
theorem mapped1_any (bl : Nat → Nat) (n L B gl ga : Nat) (hn : n ≤ 200) (P : List Int) (hP : P.length ≤ 1000) (vl : Value) (W : World) (hv : Var1 B gl vl P W) (hgl : gl < B) (hB : B ≤ W.heap.size)
    (hga : W.cell? ⟨ga, 0, none⟩ = some (.slice (some ⟨L, 0, none⟩) n n)) (hN : NodesAt bl n W) (hLB : L < W.heap.size) (hLc : ∀ j, j < n → W.cell? ⟨L, j, none⟩ = some (.pointer (some ⟨bl j, 0, none⟩)))
    (k : Int) (j : Nat) (hj : j < n) (gs r : Nat) (hgs : W.cell? ⟨gs, 0, none⟩ = some (.slice (some ⟨r, 0, none⟩) 1 1)) (hr : W.cell? ⟨r, 0, none⟩ = some (.pointer (some ⟨bl j, 0, none⟩))) :
    Calls Try.prog 83 #[.int .i64 k, .pointer (some ⟨gs, 0, none⟩), .pointer (some ⟨gl, 0, none⟩), .pointer (some ⟨ga, 0, none⟩)] W fun e w' => e = .returned (.int .i64 k) ∧ ∃ vl', Var1 B gl vl' (P ++ [(j : Int)]) w' ∧ (vl'.ownBlock = vl.ownBlock ∨ ∃ b, vl'.ownBlock = some b ∧ W.heap.size ≤ b) ∧ Fr1 gl vl W w' := by
  have HVl := Lib.hid hv
  have hdr : Below W.heap.size W W.drew := (Below.refl _ _).drew
  have cl : W.drew.cell? ⟨gl, 0, none⟩ = some vl := hv.cell
  have ca : W.drew.cell? ⟨ga, 0, none⟩ = some (.slice (some ⟨L, 0, none⟩) n n) := hga
  have cs : W.drew.cell? ⟨gs, 0, none⟩ = some (.slice (some ⟨r, 0, none⟩) 1 1) := hgs
  have HP := Lib.hid (placesOf_any bl n L hn [j] (by intro x hx; rw [List.mem_singleton] at hx; subst hx; exact hj) (by simp) (some ⟨r, 0, none⟩) 1 W.drew hLB (hN.kept hdr) (fun j hj => hLc j hj) (.inr ⟨r, 0, rfl, World.block_lt_of_cell? W _ hr, fun i hi => by
    have e : i = 0 := by simp [ptrs] at hi; omega
    subst e
    exact hr⟩))
  clear hv hga hN hLc hgs hr hdr
  go_enter Try.func83, Try.ntmps83
  go_wp2_with fail
  refine wp_region_G (G3 6 6 7 (fun _ => True) (fun w' => w'.cell? ⟨ga, 0, none⟩ = some (.slice (some ⟨L, 0, none⟩) n n) ∧ w'.cell? ⟨gs, 0, none⟩ = some (.slice (some ⟨r, 0, none⟩) 1 1)) (fun w' => w'.cell? ⟨gl, 0, none⟩ = some vl)) (by kernel_rfl) ?_
  have hG0 : G3 6 6 7 (fun _ => True) (fun w' => w'.cell? ⟨ga, 0, none⟩ = some (.slice (some ⟨L, 0, none⟩) n n) ∧ w'.cell? ⟨gs, 0, none⟩ = some (.slice (some ⟨r, 0, none⟩) 1 1)) (fun w' => w'.cell? ⟨gl, 0, none⟩ = some vl) (Array.replicate 9 false) W.drew := ⟨fun _ => trivial, fun _ => ⟨ca, cs⟩, fun _ => cl⟩
  refine wpAnyG_take0 (i := 2) (v := ?v2) rfl (by kernel_rfl) (by kernel_rfl) (by kernel_rfl) (fun _ _ _ h => h) (fun l w => G3.set (by decide) (by decide) (by decide) l w) (Or.inl ⟨by rfl, ?hy2⟩) hG0 (fun hG1 => ?rest2)
  case hy2 => intro W' _; go_simp <;> with_reducible rfl
  clear hG0
  simp only [Act.put, List.setIfInBounds_toArray]
  refine wpAnyG_take0 (i := 3) (v := ?v3) rfl (by kernel_rfl) (by kernel_rfl) (by kernel_rfl) (fun _ _ _ h => h) (fun l w => G3.set (by decide) (by decide) (by decide) l w) (Or.inl ⟨by rfl, ?hy3⟩) hG1 (fun hG2 => ?rest3)
  case hy3 => intro W' _; go_simp <;> with_reducible rfl
  clear hG1
  simp only [Act.put]
  refine wpAnyG_take0 (i := 4) (v := ?v4) rfl (by kernel_rfl) (by kernel_rfl) (by kernel_rfl) (fun _ _ _ h => h) (fun l w => G3.set (by decide) (by decide) (by decide) l w) (Or.inl ⟨by rfl, ?hy4⟩) hG2 (fun hG3 => ?rest4)
  case hy4 => intro W' _; go_simp <;> with_reducible rfl
  clear hG2
  simp only [Act.put]
  refine wpAnyG_take (i := 0) (f := 7) (v := ?v0) rfl (by kernel_rfl) (by kernel_rfl) (by kernel_rfl) (by kernel_rfl) rfl rfl (fun _ _ _ h => h) (fun _ _ h g => g.2.2 h) (fun l w => G3.set (by decide) (by decide) (by decide) l w) (Or.inl ⟨by rfl, ?hy0⟩) hG3 (fun hG4 => ?rest0)
  case hy0 => intro W' hS; (try dsimp only at hS); go_simp <;> with_reducible rfl
  clear hG3
  simp only [Act.put]
  refine wpAnyG_take (i := 1) (f := 6) (v := ?v1) rfl (by kernel_rfl) (by kernel_rfl) (by kernel_rfl) (by kernel_rfl) rfl rfl (fun _ _ _ h => h) (fun _ _ h g => g.2.1 h) (fun l w => G3.set (by decide) (by decide) (by decide) l w) (Or.inl ⟨by rfl, ?hy1⟩) hG4 (fun hG5 => ?rest1)
  case hy1 => intro W' hS; (try dsimp only at hS); go_simp <;> with_reducible rfl
  clear hG4
  simp only [Act.put]
  refine wpAnyG_take (i := 5) (f := 6) (v := ?v5) rfl (by kernel_rfl) (by kernel_rfl) (by kernel_rfl) (by kernel_rfl) rfl rfl (fun _ _ _ h => h) (fun _ _ h g => g.2.1 h) (fun l w => G3.set (by decide) (by decide) (by decide) l w) (Or.inl ⟨by rfl, ?hy5⟩) hG5 (fun hG6 => ?rest5)
  case hy5 => intro W' hS; (try dsimp only at hS); go_simp <;> with_reducible rfl
  clear hG5
  simp only [Act.put]
  refine wpAnyG_one (i := 6) (by kernel_rfl) rfl (fun K' hK => ?_)
  go_simp
  go_at_call 78
  refine HP.out.mono ?_
  rintro e w2 ⟨v2, rfl, ⟨a', c', rfl, hown'⟩, hb2⟩
  have hl2 : w2.cell? ⟨gl, 0, none⟩ = some vl := (hb2.cell (p := ⟨gl, 0, none⟩) (by show gl < W.heap.size; omega)).trans cl
  have hr2 : w2.ownsRow B 3 1 vl P.length (ivs P) := own_kept HVl.out.2.2 (fun b _ hb => hb2.block b hb)
  have hB2 : B ≤ w2.heap.size := Nat.le_trans hB (by exact hb2.size)
  have hrs : RSl w2 w2.heap.size a' (ivs (toI [j])) := by obtain ⟨q1, q2, hv, _, hrs⟩ := RSl.own hown'; cases hv; exact hrs
  have HB2 := Lib.hid hb2
  have HRs := Lib.hid hrs
  clear hown' hb2 hrs
  refine hK.out _ _ ⟨fun h => absurd h (by decide), fun h => absurd h (by decide), fun _ => hl2⟩ (fun hG9 => ?_); clear hK K' hG9
  refine wpAnyG_one (i := 7) (by kernel_rfl) rfl (fun K' hK => ?_)
  refine step_append_ints _ rfl (.tmp 7) (.tmp 13) rfl B vl P rfl hr2 a' c' (toI [j]) rfl HRs.out (by rw [toI_length]; simp; omega) hB2 ?_
  intro a2 c2 w3 hown2 hg2 hat2
  obtain ⟨hT, hF⟩ := map_step HVl.out hgl hB HB2.out hown2 hg2 hat2
  have e3 : w3.cell? ⟨gl, 0, none⟩ = some vl := (grown_below2 hg2 hB2 (fun x hx => (hr2.lt x hx).1)).cell (p := ⟨gl, 0, none⟩) hgl |>.trans hl2
  have e4 : w3.frozen? ⟨gl, 0, none⟩ = false := by rw [World.frozen?_of_block ((grown_below2 hg2 hB2 (fun x hx => (hr2.lt x hx).1)).block gl hgl), World.frozen?_of_block (HB2.out.block gl (by show gl < W.heap.size; omega))]; exact HVl.out.froz
  have HT := Lib.hid hT
  have HF := Lib.hid hF
  clear hown2 hg2 hat2 hT hF hr2 hl2
  refine hK.out _ _ ⟨fun h => absurd h (by decide), fun h => absurd h (by decide), fun h => absurd h (by decide)⟩ (fun hG9 => ?_); clear hK K' hG9
  refine wpAnyG_one (i := 8) (by kernel_rfl) rfl (fun K' hK => ?_)
  go_simp
  refine hK.out _ _ ⟨fun h => absurd h (by decide), fun h => absurd h (by decide), fun h => absurd h (by decide)⟩ (fun hG9 => ?_); clear hK K' hG9
  refine wpAnyG_done (by kernel_rfl) ?_ _
  go_wp2_with fail
  go_ret
  have hX := HT.out
  exact ⟨rfl, _, by have := HT.out.1; simpa [toI] using this, by have := HT.out.2; simpa [toI] using this, by have := HF.out; simpa [toI] using this⟩
end Go.Proofs.Ytgilbckfkngaiaa
