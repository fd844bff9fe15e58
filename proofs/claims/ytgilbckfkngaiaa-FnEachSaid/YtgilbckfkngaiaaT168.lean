/- The closures of EachAll and Each. (Printed by gen168.py.) -/
import Derived.Test.YtgilbckfkngaiaaT167
import Derived.BigRegion
namespace Go.Proofs.Ytgilbckfkngaiaa
open Go.RowKit
set_option linter.unusedVariables false

theorem cell_after {gn gl : Nat} (hne : gn ≠ gl) (w : World) (u v : Value) {x : Value} (h : w.cell? ⟨gn, 0, none⟩ = some x) : ((w.setCell ⟨gn, 0, none⟩ u).setCell ⟨gl, 0, none⟩ v).cell? ⟨gn, 0, none⟩ = some u := by
  rw [World.cell?_setCell_far _ _ _ _ (fun e => hne e.symm)]
  exact World.cell?_setCell_same _ _ _ h

set_option maxRecDepth 100000 in
set_option maxHeartbeats 4000000 in
theorem eachAll1_any (bl : Nat → Nat) (n L B gn gl ga : Nat) (hn : n ≤ 200) (K P : List Int) (hK : K.length ≤ 1000) (hP : P.length ≤ 1000) (Wk W : World) (hT : Tells B gn gl K P Wk) (hBk : Below Wk.heap.size Wk W) (hgn : gn < B) (hgl : gl < B) (hne : gn ≠ gl) (hgaB : ga < B) (hBW : B ≤ Wk.heap.size)
    (hga : W.cell? ⟨ga, 0, none⟩ = some (.slice (some ⟨L, 0, none⟩) n n)) (hN : NodesAt bl n W) (hNB : ∀ i, i < n → bl i < B) (hLB : L < B) (hLc : ∀ j, j < n → W.cell? ⟨L, j, none⟩ = some (.pointer (some ⟨bl j, 0, none⟩)))
    (k : Int) (j : Nat) (hj : j < n) (gs r : Nat) (hgs : W.cell? ⟨gs, 0, none⟩ = some (.slice (some ⟨r, 0, none⟩) 1 1)) (hgsV : Wk.heap.size ≤ gs) (hrV : Wk.heap.size ≤ r) (hr : W.cell? ⟨r, 0, none⟩ = some (.pointer (some ⟨bl j, 0, none⟩))) :
    Calls Try.prog 80 #[.int .i64 k, .pointer (some ⟨gs, 0, none⟩), .pointer (some ⟨gn, 0, none⟩), .pointer (some ⟨gl, 0, none⟩), .pointer (some ⟨ga, 0, none⟩)] W fun e w' => e = .returned (.tuple #[]) ∧ Tells B gn gl (K ++ [k]) (P ++ [(j : Int)]) w' ∧ Tell B gn gl W w' := by
  obtain ⟨vn, vl, hvn, hvl, hap⟩ := hT
  have HVn := Lib.hid (hvn.kept hBk)
  have HVl := Lib.hid (hvl.kept hBk)
  have hap := Lib.hid hap
  have hV := hBk.size
  have ltn : ∀ x, vn.ownBlock = some x → x < Wk.heap.size := fun x hx => (hvn.2.2.lt x hx).2
  have ltl : ∀ x, vl.ownBlock = some x → x < Wk.heap.size := fun x hx => (hvl.2.2.lt x hx).2
  have hB : B ≤ W.heap.size := by omega
  have hrl : r < W.heap.size := World.block_lt_of_cell? W _ hr
  have hgsl : gs < W.heap.size := World.block_lt_of_cell? W _ hgs
  have HA : Hid (Below W.heap.size W (W.drew.alloc (.cells #[.int .i64 k] 3))) := ((Below.refl _ _).drew).alloc (Nat.le_refl _) _
  have cn : W.drew.cell? ⟨gn, 0, none⟩ = some vn := HVn.out.cell
  have cl : W.drew.cell? ⟨gl, 0, none⟩ = some vl := HVl.out.cell
  have ca : W.drew.cell? ⟨ga, 0, none⟩ = some (.slice (some ⟨L, 0, none⟩) n n) := hga
  have cs : W.drew.cell? ⟨gs, 0, none⟩ = some (.slice (some ⟨r, 0, none⟩) 1 1) := hgs
  have hcell : ∀ x v, x < W.heap.size → W.drew.cell? ⟨x, 0, none⟩ = some v → (W.drew.alloc (.cells #[.int .i64 k] 3)).cell? ⟨x, 0, none⟩ = some v := fun x v hx hv => by rw [World.cell?_alloc_lt _ _ _ (by exact hx)]; exact hv
  have can := hcell gn _ (by omega) cn
  have cal := hcell gl _ (by omega) cl
  have caa := hcell ga _ (by omega) ca
  have cas := hcell gs _ hgsl cs
  have HNa : Hid ((W.drew.alloc (.cells #[.int .i64 k] 3)).ownsRow B 3 1 vn K.length (ivs K)) := own_kept HVn.out.2.2 (fun b _ hb => HA.out.block b hb)
  have HOne : Hid (RSl (W.drew.alloc (.cells #[.int .i64 k] 3)) (W.drew.alloc (.cells #[.int .i64 k] 3)).heap.size (some ⟨W.heap.size, 0, none⟩) (ivs [k])) := RSl_one W.drew k
  have hBa : B ≤ (W.drew.alloc (.cells #[.int .i64 k] 3)).heap.size := by have := HA.out.size; omega
  have HNd := Lib.hid hN
  have HLc := Lib.hid hLc
  obtain ⟨Wa, hWa⟩ : ∃ Wa, Wa = W.drew.alloc (.cells #[.int .i64 k] 3) := ⟨_, rfl⟩
  have HStep1 : Hid (∀ w1, (W.drew.alloc (.cells #[.int .i64 k] 3)).grownBy w1 vn.ownBlock → Below B W w1 ∧ w1.cell? ⟨gn, 0, none⟩ = some vn ∧ w1.cell? ⟨ga, 0, none⟩ = some (.slice (some ⟨L, 0, none⟩) n n) ∧ w1.cell? ⟨gs, 0, none⟩ = some (.slice (some ⟨r, 0, none⟩) 1 1) ∧ w1.cell? ⟨gl, 0, none⟩ = some vl ∧
      NodesAt bl n w1 ∧ L < w1.heap.size ∧ (∀ j, j < n → w1.cell? ⟨L, j, none⟩ = some (.pointer (some ⟨bl j, 0, none⟩))) ∧ RSl w1 w1.heap.size (some ⟨r, 0, none⟩) (ptrs bl [j])) := by
    intro w1 hg
    have b1 : Below B W w1 := (HA.out.mono hB).trans (grown_below2 hg hBa (fun x hx => (HVn.out.2.2.lt x hx).1))
    have hx : ∀ x v, x < W.heap.size → some x ≠ vn.ownBlock → W.drew.cell? ⟨x, 0, none⟩ = some v → w1.cell? ⟨x, 0, none⟩ = some v := fun x v hx hne hv => hg.cell (hcell x v hx hv) hne
    have nb : ∀ x, x < B → some x ≠ vn.ownBlock := fun x hx e => by have := (HVn.out.2.2.lt x e.symm).1; omega
    have nv : ∀ x, Wk.heap.size ≤ x → some x ≠ vn.ownBlock := fun x hx e => by have := ltn x e.symm; omega
    refine ⟨b1, hx _ _ (by omega) (nb _ hgn) cn, hx _ _ (by omega) (nb _ hgaB) ca, hx _ _ hgsl (nv _ hgsV) cs, hx _ _ (by omega) (nb _ hgl) cl, ?_, by have := b1.size; omega, fun j hj => ?_, ?_⟩
    · exact (HNd.out.kept HA.out).grown hg (fun i hi => nb _ (hNB i hi))
    · exact (b1.cell (p := ⟨L, j, none⟩) hLB).trans (HLc.out j hj)
    · refine .inr ⟨r, 0, rfl, by have := b1.size; omega, fun i hi => ?_⟩
      have e : i = 0 := by simp [ptrs] at hi; omega
      subst e
      have hc : W.drew.cell? ⟨r, 0, none⟩ = some (.pointer (some ⟨bl j, 0, none⟩)) := hr
      exact hx _ _ hrl (nv _ hrV) hc
  have HStep2 : Hid (∀ w1 w2, Below B W w1 → Below w1.heap.size w1 w2 → (W.drew.alloc (.cells #[.int .i64 k] 3)).grownBy w1 vn.ownBlock → w2.cell? ⟨gl, 0, none⟩ = some vl ∧ w2.ownsRow B 3 1 vl P.length (ivs P) ∧ B ≤ w2.heap.size) := by
    intro w1 w2 b1 b2 hg
    have hs1 := b1.size
    refine ⟨((b1.trans (b2.mono (by omega))).cell (p := ⟨gl, 0, none⟩) hgl).trans cl, ?_, by have := b2.size; omega⟩
    have o1 : w1.ownsRow B 3 1 vl P.length (ivs P) := (own_kept HVl.out.2.2 (fun b _ hb => HA.out.block b hb)).kept hg hap.out.ne
    exact own_kept o1 (fun b _ hb => b2.block b hb)
  have HStep3 : Hid (∀ w1 w2 w3, Below B W w1 → Below w1.heap.size w1 w2 → w2.grownBy w3 vl.ownBlock → w3.cell? ⟨gn, 0, none⟩ = some vn ∧ w3.frozen? ⟨gn, 0, none⟩ = false ∧ w3.cell? ⟨gl, 0, none⟩ = some vl ∧ w3.frozen? ⟨gl, 0, none⟩ = false) := by
    intro w1 w2 w3 b1 b2 hg
    have hs1 := b1.size
    have hs2 := b2.size
    have b3 : Below B w2 w3 := grown_below2 hg (by omega) (fun x hx => (HVl.out.2.2.lt x hx).1)
    have bT : Below B W w3 := b1.trans ((b2.mono (by omega)).trans b3)
    have q1 := (bT.block gn hgn).trans HVn.out.1
    have q2 := (bT.block gl hgl).trans HVl.out.1
    exact ⟨by rw [cell_of_row w3 gn 0 _ _ _ q1]; rfl, frozen_of_row w3 gn 0 _ _ q1, by rw [cell_of_row w3 gl 0 _ _ _ q2]; rfl, frozen_of_row w3 gl 0 _ _ q2⟩
  clear hvn hvl hBk hN hLc hcell ltn ltl hWa hr
  go_enter Try.func80, Try.ntmps80
  go_wp2_with fail
  refine wp_region_G (G3 3 10 11 (fun w' => w'.cell? ⟨gn, 0, none⟩ = some vn) (fun w' => w'.cell? ⟨ga, 0, none⟩ = some (.slice (some ⟨L, 0, none⟩) n n) ∧ w'.cell? ⟨gs, 0, none⟩ = some (.slice (some ⟨r, 0, none⟩) 1 1)) (fun w' => w'.cell? ⟨gl, 0, none⟩ = some vl)) (by kernel_rfl) ?_
  have hG0 : G3 3 10 11 (fun w' => w'.cell? ⟨gn, 0, none⟩ = some vn) (fun w' => w'.cell? ⟨ga, 0, none⟩ = some (.slice (some ⟨L, 0, none⟩) n n) ∧ w'.cell? ⟨gs, 0, none⟩ = some (.slice (some ⟨r, 0, none⟩) 1 1)) (fun w' => w'.cell? ⟨gl, 0, none⟩ = some vl) (Array.replicate 14 false) W.drew := ⟨fun _ => cn, fun _ => ⟨ca, cs⟩, fun _ => cl⟩
  refine wpAnyG_take0 (i := 1) (v := ?v1) rfl (by kernel_rfl) (by kernel_rfl) (by kernel_rfl) (fun _ _ _ h => h) (fun l w => G3.set (by decide) (by decide) (by decide) l w) (Or.inl ⟨by rfl, ?hy1⟩) hG0 (fun hG1 => ?rest1)
  case hy1 => intro W' _; go_simp <;> with_reducible rfl
  clear hG0
  simp only [Act.put, List.setIfInBounds_toArray]
  refine wpAnyG_take0 (i := 6) (v := ?v6) rfl (by kernel_rfl) (by kernel_rfl) (by kernel_rfl) (fun _ _ _ h => h) (fun l w => G3.set (by decide) (by decide) (by decide) l w) (Or.inl ⟨by rfl, ?hy6⟩) hG1 (fun hG2 => ?rest6)
  case hy6 => intro W' _; go_simp <;> with_reducible rfl
  clear hG1
  simp only [Act.put]
  refine wpAnyG_take0 (i := 7) (v := ?v7) rfl (by kernel_rfl) (by kernel_rfl) (by kernel_rfl) (fun _ _ _ h => h) (fun l w => G3.set (by decide) (by decide) (by decide) l w) (Or.inl ⟨by rfl, ?hy7⟩) hG2 (fun hG3 => ?rest7)
  case hy7 => intro W' _; go_simp <;> with_reducible rfl
  clear hG2
  simp only [Act.put]
  refine wpAnyG_take0 (i := 8) (v := ?v8) rfl (by kernel_rfl) (by kernel_rfl) (by kernel_rfl) (fun _ _ _ h => h) (fun l w => G3.set (by decide) (by decide) (by decide) l w) (Or.inl ⟨by rfl, ?hy8⟩) hG3 (fun hG4 => ?rest8)
  case hy8 => intro W' _; go_simp <;> with_reducible rfl
  clear hG3
  simp only [Act.put]
  refine wpAnyG_take (i := 0) (f := 3) (v := ?v0) rfl (by kernel_rfl) (by kernel_rfl) (by kernel_rfl) (by kernel_rfl) rfl rfl (fun _ _ _ h => h) (fun _ _ h g => g.1 h) (fun l w => G3.set (by decide) (by decide) (by decide) l w) (Or.inl ⟨by rfl, ?hy0⟩) hG4 (fun hG5 => ?rest0)
  case hy0 => intro W' hS; (try dsimp only at hS); go_simp <;> with_reducible rfl
  clear hG4
  simp only [Act.put]
  refine wpAnyG_take (i := 4) (f := 11) (v := ?v4) rfl (by kernel_rfl) (by kernel_rfl) (by kernel_rfl) (by kernel_rfl) rfl rfl (fun _ _ _ h => h) (fun _ _ h g => g.2.2 h) (fun l w => G3.set (by decide) (by decide) (by decide) l w) (Or.inl ⟨by rfl, ?hy4⟩) hG5 (fun hG6 => ?rest4)
  case hy4 => intro W' hS; (try dsimp only at hS); go_simp <;> with_reducible rfl
  clear hG5
  simp only [Act.put]
  refine wpAnyG_take (i := 5) (f := 10) (v := ?v5) rfl (by kernel_rfl) (by kernel_rfl) (by kernel_rfl) (by kernel_rfl) rfl rfl (fun _ _ _ h => h) (fun _ _ h g => g.2.1 h) (fun l w => G3.set (by decide) (by decide) (by decide) l w) (Or.inl ⟨by rfl, ?hy5⟩) hG6 (fun hG7 => ?rest5)
  case hy5 => intro W' hS; (try dsimp only at hS); go_simp <;> with_reducible rfl
  clear hG6
  simp only [Act.put]
  refine wpAnyG_take (i := 9) (f := 10) (v := ?v9) rfl (by kernel_rfl) (by kernel_rfl) (by kernel_rfl) (by kernel_rfl) rfl rfl (fun _ _ _ h => h) (fun _ _ h g => g.2.1 h) (fun l w => G3.set (by decide) (by decide) (by decide) l w) (Or.inl ⟨by rfl, ?hy9⟩) hG7 (fun hG8 => ?rest9)
  case hy9 => intro W' hS; (try dsimp only at hS); go_simp <;> with_reducible rfl
  clear hG7
  simp only [Act.put]
  refine wpAnyG_one (i := 2) (by kernel_rfl) rfl (fun K' hK => ?_)
  go_simp
  refine hK.out _ _ ⟨fun _ => can, fun _ => ⟨caa, cas⟩, fun _ => cal⟩ (fun hG9 => ?_); clear hK K' hG8 hG9
  refine wpAnyG_one (i := 3) (by kernel_rfl) rfl (fun K' hK => ?_)
  refine step_append_ints _ rfl (.tmp 7) (.tmp 9) rfl B vn K rfl HNa.out (some ⟨W.heap.size, 0, none⟩) 1 [k] rfl HOne.out (by simp; omega) hBa ?_
  intro a1 c1 w1 hown1 hg1 hat1
  obtain ⟨b1, d1n, d1a, d1s, d1l, hN1, hL1, hC1, hR1⟩ := HStep1.out w1 hg1
  refine hK.out _ _ ⟨fun h => absurd h (by decide), fun _ => ⟨d1a, d1s⟩, fun _ => d1l⟩ (fun hG9 => ?_); clear hK K' hG9
  have HP := Lib.hid (placesOf_any bl n L hn [j] (by intro x hx; rw [List.mem_singleton] at hx; subst hx; exact hj) (by simp) (some ⟨r, 0, none⟩) 1 w1 hL1 hN1 hC1 hR1)
  have HO1 := Lib.hid hown1
  have HG1 := Lib.hid hg1
  have HAt1 := Lib.hid hat1
  clear hown1 hg1 hat1 hN1 hL1 hC1 hR1 d1a d1s d1n
  refine wpAnyG_one (i := 10) (by kernel_rfl) rfl (fun K' hK => ?_)
  go_simp
  go_at_call 78
  refine HP.out.mono ?_
  rintro e w2 ⟨v2, rfl, ⟨a', c', rfl, hown'⟩, hb2⟩
  obtain ⟨hl2, hr2, hB2⟩ := HStep2.out w1 w2 b1 hb2 HG1.out
  have hrs : RSl w2 w2.heap.size a' (ivs (toI [j])) := by obtain ⟨q1, q2, hv, _, hrs⟩ := RSl.own hown'; cases hv; exact hrs
  have HB2 := Lib.hid hb2
  have HRs := Lib.hid hrs
  clear hown' hb2 hrs
  refine hK.out _ _ ⟨fun h => absurd h (by decide), fun h => absurd h (by decide), fun _ => hl2⟩ (fun hG9 => ?_); clear hK K' hG9
  refine wpAnyG_one (i := 11) (by kernel_rfl) rfl (fun K' hK => ?_)
  refine step_append_ints _ rfl (.tmp 11) (.tmp 17) rfl B vl P rfl hr2 a' c' (toI [j]) rfl HRs.out (by rw [toI_length]; simp; omega) hB2 ?_
  intro a2 c2 w3 hown2 hg2 hat2
  obtain ⟨hT, hTl⟩ := tells_step HVn.out HVl.out hap.out hgn hgl hne hB HA.out HO1.out HG1.out HAt1.out HB2.out hown2 hg2 hat2
  obtain ⟨e1, e2, e3, e4⟩ := HStep3.out w1 w2 w3 b1 HB2.out hg2
  have HT := Lib.hid hT
  have HTl := Lib.hid hTl
  clear hown2 hg2 hat2 hT hTl
  refine hK.out _ _ ⟨fun h => absurd h (by decide), fun h => absurd h (by decide), fun h => absurd h (by decide)⟩ (fun hG9 => ?_); clear hK K' hG9
  refine wpAnyG_one (i := 12) (by kernel_rfl) rfl (fun K' hK => ?_)
  go_simp
  refine hK.out _ _ ⟨fun h => absurd h (by decide), fun h => absurd h (by decide), fun h => absurd h (by decide)⟩ (fun hG9 => ?_); clear hK K' hG9
  refine wpAnyG_one (i := 13) (by kernel_rfl) rfl (fun K' hK => ?_)
  go_simp
  refine hK.out _ _ ⟨fun h => absurd h (by decide), fun h => absurd h (by decide), fun h => absurd h (by decide)⟩ (fun hG9 => ?_); clear hK K' hG9
  refine wpAnyG_done (by kernel_rfl) ?_ _
  go_wp2_with fail
  go_end0
  exact ⟨rfl, by have := HT.out; simpa [toI] using this, by have := HTl.out; simpa [toI] using this⟩

set_option maxRecDepth 100000 in
set_option maxHeartbeats 4000000 in
theorem each1_any (bl : Nat → Nat) (n L B gn gl ga : Nat) (hn : n ≤ 200) (K P : List Int) (hK : K.length ≤ 1000) (hP : P.length ≤ 1000) (Wk W : World) (hT : Tells B gn gl K P Wk) (hBk : Below Wk.heap.size Wk W) (hgn : gn < B) (hgl : gl < B) (hne : gn ≠ gl) (hgaB : ga < B) (hBW : B ≤ Wk.heap.size)
    (hga : W.cell? ⟨ga, 0, none⟩ = some (.slice (some ⟨L, 0, none⟩) n n)) (hN : NodesAt bl n W) (hNB : ∀ i, i < n → bl i < B) (hLB : L < B) (hLc : ∀ j, j < n → W.cell? ⟨L, j, none⟩ = some (.pointer (some ⟨bl j, 0, none⟩)))
    (k : Int) (j : Nat) (hj : j < n) (gs r : Nat) (hgs : W.cell? ⟨gs, 0, none⟩ = some (.slice (some ⟨r, 0, none⟩) 1 1)) (hgsV : Wk.heap.size ≤ gs) (hrV : Wk.heap.size ≤ r) (hr : W.cell? ⟨r, 0, none⟩ = some (.pointer (some ⟨bl j, 0, none⟩))) (gt : Nat) (stop : Int) (hgt : W.cell? ⟨gt, 0, none⟩ = some (.int .i64 stop)) (hgtB : gt < B) (hgt1 : gt ≠ gn) (hgt2 : gt ≠ gl) :
    Calls Try.prog 77 #[.int .i64 k, .pointer (some ⟨gs, 0, none⟩), .pointer (some ⟨gn, 0, none⟩), .pointer (some ⟨gl, 0, none⟩), .pointer (some ⟨ga, 0, none⟩), .pointer (some ⟨gt, 0, none⟩)] W fun e w' => e = .returned (.bool (((K.length : Int) + 1) != stop)) ∧ Tells B gn gl (K ++ [k]) (P ++ [(j : Int)]) w' ∧ Tell B gn gl W w' := by
  obtain ⟨vn, vl, hvn, hvl, hap⟩ := hT
  have HVn := Lib.hid (hvn.kept hBk)
  have HVl := Lib.hid (hvl.kept hBk)
  have hap := Lib.hid hap
  have hV := hBk.size
  have ltn : ∀ x, vn.ownBlock = some x → x < Wk.heap.size := fun x hx => (hvn.2.2.lt x hx).2
  have ltl : ∀ x, vl.ownBlock = some x → x < Wk.heap.size := fun x hx => (hvl.2.2.lt x hx).2
  have hB : B ≤ W.heap.size := by omega
  have hrl : r < W.heap.size := World.block_lt_of_cell? W _ hr
  have hgsl : gs < W.heap.size := World.block_lt_of_cell? W _ hgs
  have HA : Hid (Below W.heap.size W (W.drew.alloc (.cells #[.int .i64 k] 3))) := ((Below.refl _ _).drew).alloc (Nat.le_refl _) _
  have cn : W.drew.cell? ⟨gn, 0, none⟩ = some vn := HVn.out.cell
  have cl : W.drew.cell? ⟨gl, 0, none⟩ = some vl := HVl.out.cell
  have ca : W.drew.cell? ⟨ga, 0, none⟩ = some (.slice (some ⟨L, 0, none⟩) n n) := hga
  have cs : W.drew.cell? ⟨gs, 0, none⟩ = some (.slice (some ⟨r, 0, none⟩) 1 1) := hgs
  have hcell : ∀ x v, x < W.heap.size → W.drew.cell? ⟨x, 0, none⟩ = some v → (W.drew.alloc (.cells #[.int .i64 k] 3)).cell? ⟨x, 0, none⟩ = some v := fun x v hx hv => by rw [World.cell?_alloc_lt _ _ _ (by exact hx)]; exact hv
  have can := hcell gn _ (by omega) cn
  have cal := hcell gl _ (by omega) cl
  have caa := hcell ga _ (by omega) ca
  have cas := hcell gs _ hgsl cs
  have HNa : Hid ((W.drew.alloc (.cells #[.int .i64 k] 3)).ownsRow B 3 1 vn K.length (ivs K)) := own_kept HVn.out.2.2 (fun b _ hb => HA.out.block b hb)
  have HOne : Hid (RSl (W.drew.alloc (.cells #[.int .i64 k] 3)) (W.drew.alloc (.cells #[.int .i64 k] 3)).heap.size (some ⟨W.heap.size, 0, none⟩) (ivs [k])) := RSl_one W.drew k
  have hBa : B ≤ (W.drew.alloc (.cells #[.int .i64 k] 3)).heap.size := by have := HA.out.size; omega
  have HNd := Lib.hid hN
  have HLc := Lib.hid hLc
  obtain ⟨Wa, hWa⟩ : ∃ Wa, Wa = W.drew.alloc (.cells #[.int .i64 k] 3) := ⟨_, rfl⟩
  have HStep1 : Hid (∀ w1, (W.drew.alloc (.cells #[.int .i64 k] 3)).grownBy w1 vn.ownBlock → Below B W w1 ∧ w1.cell? ⟨gn, 0, none⟩ = some vn ∧ w1.cell? ⟨ga, 0, none⟩ = some (.slice (some ⟨L, 0, none⟩) n n) ∧ w1.cell? ⟨gs, 0, none⟩ = some (.slice (some ⟨r, 0, none⟩) 1 1) ∧ w1.cell? ⟨gl, 0, none⟩ = some vl ∧
      NodesAt bl n w1 ∧ L < w1.heap.size ∧ (∀ j, j < n → w1.cell? ⟨L, j, none⟩ = some (.pointer (some ⟨bl j, 0, none⟩))) ∧ RSl w1 w1.heap.size (some ⟨r, 0, none⟩) (ptrs bl [j])) := by
    intro w1 hg
    have b1 : Below B W w1 := (HA.out.mono hB).trans (grown_below2 hg hBa (fun x hx => (HVn.out.2.2.lt x hx).1))
    have hx : ∀ x v, x < W.heap.size → some x ≠ vn.ownBlock → W.drew.cell? ⟨x, 0, none⟩ = some v → w1.cell? ⟨x, 0, none⟩ = some v := fun x v hx hne hv => hg.cell (hcell x v hx hv) hne
    have nb : ∀ x, x < B → some x ≠ vn.ownBlock := fun x hx e => by have := (HVn.out.2.2.lt x e.symm).1; omega
    have nv : ∀ x, Wk.heap.size ≤ x → some x ≠ vn.ownBlock := fun x hx e => by have := ltn x e.symm; omega
    refine ⟨b1, hx _ _ (by omega) (nb _ hgn) cn, hx _ _ (by omega) (nb _ hgaB) ca, hx _ _ hgsl (nv _ hgsV) cs, hx _ _ (by omega) (nb _ hgl) cl, ?_, by have := b1.size; omega, fun j hj => ?_, ?_⟩
    · exact (HNd.out.kept HA.out).grown hg (fun i hi => nb _ (hNB i hi))
    · exact (b1.cell (p := ⟨L, j, none⟩) hLB).trans (HLc.out j hj)
    · refine .inr ⟨r, 0, rfl, by have := b1.size; omega, fun i hi => ?_⟩
      have e : i = 0 := by simp [ptrs] at hi; omega
      subst e
      have hc : W.drew.cell? ⟨r, 0, none⟩ = some (.pointer (some ⟨bl j, 0, none⟩)) := hr
      exact hx _ _ hrl (nv _ hrV) hc
  have HStep2 : Hid (∀ w1 w2, Below B W w1 → Below w1.heap.size w1 w2 → (W.drew.alloc (.cells #[.int .i64 k] 3)).grownBy w1 vn.ownBlock → w2.cell? ⟨gl, 0, none⟩ = some vl ∧ w2.ownsRow B 3 1 vl P.length (ivs P) ∧ B ≤ w2.heap.size) := by
    intro w1 w2 b1 b2 hg
    have hs1 := b1.size
    refine ⟨((b1.trans (b2.mono (by omega))).cell (p := ⟨gl, 0, none⟩) hgl).trans cl, ?_, by have := b2.size; omega⟩
    have o1 : w1.ownsRow B 3 1 vl P.length (ivs P) := (own_kept HVl.out.2.2 (fun b _ hb => HA.out.block b hb)).kept hg hap.out.ne
    exact own_kept o1 (fun b _ hb => b2.block b hb)
  have HStep3 : Hid (∀ w1 w2 w3, Below B W w1 → Below w1.heap.size w1 w2 → w2.grownBy w3 vl.ownBlock → w3.cell? ⟨gn, 0, none⟩ = some vn ∧ w3.frozen? ⟨gn, 0, none⟩ = false ∧ w3.cell? ⟨gl, 0, none⟩ = some vl ∧ w3.frozen? ⟨gl, 0, none⟩ = false) := by
    intro w1 w2 w3 b1 b2 hg
    have hs1 := b1.size
    have hs2 := b2.size
    have b3 : Below B w2 w3 := grown_below2 hg (by omega) (fun x hx => (HVl.out.2.2.lt x hx).1)
    have bT : Below B W w3 := b1.trans ((b2.mono (by omega)).trans b3)
    have q1 := (bT.block gn hgn).trans HVn.out.1
    have q2 := (bT.block gl hgl).trans HVl.out.1
    exact ⟨by rw [cell_of_row w3 gn 0 _ _ _ q1]; rfl, frozen_of_row w3 gn 0 _ _ q1, by rw [cell_of_row w3 gl 0 _ _ _ q2]; rfl, frozen_of_row w3 gl 0 _ _ q2⟩
  clear hvn hvl hBk hN hLc hcell ltn ltl hWa hr
  go_enter Try.func77, Try.ntmps77
  go_wp2_with fail
  refine wp_region_G (G3 3 10 11 (fun w' => w'.cell? ⟨gn, 0, none⟩ = some vn) (fun w' => w'.cell? ⟨ga, 0, none⟩ = some (.slice (some ⟨L, 0, none⟩) n n) ∧ w'.cell? ⟨gs, 0, none⟩ = some (.slice (some ⟨r, 0, none⟩) 1 1)) (fun w' => w'.cell? ⟨gl, 0, none⟩ = some vl)) (by kernel_rfl) ?_
  have hG0 : G3 3 10 11 (fun w' => w'.cell? ⟨gn, 0, none⟩ = some vn) (fun w' => w'.cell? ⟨ga, 0, none⟩ = some (.slice (some ⟨L, 0, none⟩) n n) ∧ w'.cell? ⟨gs, 0, none⟩ = some (.slice (some ⟨r, 0, none⟩) 1 1)) (fun w' => w'.cell? ⟨gl, 0, none⟩ = some vl) (Array.replicate 14 false) W.drew := ⟨fun _ => cn, fun _ => ⟨ca, cs⟩, fun _ => cl⟩
  refine wpAnyG_take0 (i := 1) (v := ?v1) rfl (by kernel_rfl) (by kernel_rfl) (by kernel_rfl) (fun _ _ _ h => h) (fun l w => G3.set (by decide) (by decide) (by decide) l w) (Or.inl ⟨by rfl, ?hy1⟩) hG0 (fun hG1 => ?rest1)
  case hy1 => intro W' _; go_simp <;> with_reducible rfl
  clear hG0
  simp only [Act.put, List.setIfInBounds_toArray]
  refine wpAnyG_take0 (i := 6) (v := ?v6) rfl (by kernel_rfl) (by kernel_rfl) (by kernel_rfl) (fun _ _ _ h => h) (fun l w => G3.set (by decide) (by decide) (by decide) l w) (Or.inl ⟨by rfl, ?hy6⟩) hG1 (fun hG2 => ?rest6)
  case hy6 => intro W' _; go_simp <;> with_reducible rfl
  clear hG1
  simp only [Act.put]
  refine wpAnyG_take0 (i := 7) (v := ?v7) rfl (by kernel_rfl) (by kernel_rfl) (by kernel_rfl) (fun _ _ _ h => h) (fun l w => G3.set (by decide) (by decide) (by decide) l w) (Or.inl ⟨by rfl, ?hy7⟩) hG2 (fun hG3 => ?rest7)
  case hy7 => intro W' _; go_simp <;> with_reducible rfl
  clear hG2
  simp only [Act.put]
  refine wpAnyG_take0 (i := 8) (v := ?v8) rfl (by kernel_rfl) (by kernel_rfl) (by kernel_rfl) (fun _ _ _ h => h) (fun l w => G3.set (by decide) (by decide) (by decide) l w) (Or.inl ⟨by rfl, ?hy8⟩) hG3 (fun hG4 => ?rest8)
  case hy8 => intro W' _; go_simp <;> with_reducible rfl
  clear hG3
  simp only [Act.put]
  refine wpAnyG_take (i := 0) (f := 3) (v := ?v0) rfl (by kernel_rfl) (by kernel_rfl) (by kernel_rfl) (by kernel_rfl) rfl rfl (fun _ _ _ h => h) (fun _ _ h g => g.1 h) (fun l w => G3.set (by decide) (by decide) (by decide) l w) (Or.inl ⟨by rfl, ?hy0⟩) hG4 (fun hG5 => ?rest0)
  case hy0 => intro W' hS; (try dsimp only at hS); go_simp <;> with_reducible rfl
  clear hG4
  simp only [Act.put]
  refine wpAnyG_take (i := 4) (f := 11) (v := ?v4) rfl (by kernel_rfl) (by kernel_rfl) (by kernel_rfl) (by kernel_rfl) rfl rfl (fun _ _ _ h => h) (fun _ _ h g => g.2.2 h) (fun l w => G3.set (by decide) (by decide) (by decide) l w) (Or.inl ⟨by rfl, ?hy4⟩) hG5 (fun hG6 => ?rest4)
  case hy4 => intro W' hS; (try dsimp only at hS); go_simp <;> with_reducible rfl
  clear hG5
  simp only [Act.put]
  refine wpAnyG_take (i := 5) (f := 10) (v := ?v5) rfl (by kernel_rfl) (by kernel_rfl) (by kernel_rfl) (by kernel_rfl) rfl rfl (fun _ _ _ h => h) (fun _ _ h g => g.2.1 h) (fun l w => G3.set (by decide) (by decide) (by decide) l w) (Or.inl ⟨by rfl, ?hy5⟩) hG6 (fun hG7 => ?rest5)
  case hy5 => intro W' hS; (try dsimp only at hS); go_simp <;> with_reducible rfl
  clear hG6
  simp only [Act.put]
  refine wpAnyG_take (i := 9) (f := 10) (v := ?v9) rfl (by kernel_rfl) (by kernel_rfl) (by kernel_rfl) (by kernel_rfl) rfl rfl (fun _ _ _ h => h) (fun _ _ h g => g.2.1 h) (fun l w => G3.set (by decide) (by decide) (by decide) l w) (Or.inl ⟨by rfl, ?hy9⟩) hG7 (fun hG8 => ?rest9)
  case hy9 => intro W' hS; (try dsimp only at hS); go_simp <;> with_reducible rfl
  clear hG7
  simp only [Act.put]
  refine wpAnyG_one (i := 2) (by kernel_rfl) rfl (fun K' hK => ?_)
  go_simp
  refine hK.out _ _ ⟨fun _ => can, fun _ => ⟨caa, cas⟩, fun _ => cal⟩ (fun hG9 => ?_); clear hK K' hG8 hG9
  refine wpAnyG_one (i := 3) (by kernel_rfl) rfl (fun K' hK => ?_)
  refine step_append_ints _ rfl (.tmp 9) (.tmp 11) rfl B vn K rfl HNa.out (some ⟨W.heap.size, 0, none⟩) 1 [k] rfl HOne.out (by simp; omega) hBa ?_
  intro a1 c1 w1 hown1 hg1 hat1
  obtain ⟨b1, d1n, d1a, d1s, d1l, hN1, hL1, hC1, hR1⟩ := HStep1.out w1 hg1
  refine hK.out _ _ ⟨fun h => absurd h (by decide), fun _ => ⟨d1a, d1s⟩, fun _ => d1l⟩ (fun hG9 => ?_); clear hK K' hG9
  have HP := Lib.hid (placesOf_any bl n L hn [j] (by intro x hx; rw [List.mem_singleton] at hx; subst hx; exact hj) (by simp) (some ⟨r, 0, none⟩) 1 w1 hL1 hN1 hC1 hR1)
  have HO1 := Lib.hid hown1
  have HG1 := Lib.hid hg1
  have HAt1 := Lib.hid hat1
  clear hown1 hg1 hat1 hN1 hL1 hC1 hR1 d1a d1s d1n
  refine wpAnyG_one (i := 10) (by kernel_rfl) rfl (fun K' hK => ?_)
  go_simp
  go_at_call 78
  refine HP.out.mono ?_
  rintro e w2 ⟨v2, rfl, ⟨a', c', rfl, hown'⟩, hb2⟩
  obtain ⟨hl2, hr2, hB2⟩ := HStep2.out w1 w2 b1 hb2 HG1.out
  have hrs : RSl w2 w2.heap.size a' (ivs (toI [j])) := by obtain ⟨q1, q2, hv, _, hrs⟩ := RSl.own hown'; cases hv; exact hrs
  have HB2 := Lib.hid hb2
  have HRs := Lib.hid hrs
  clear hown' hb2 hrs
  refine hK.out _ _ ⟨fun h => absurd h (by decide), fun h => absurd h (by decide), fun _ => hl2⟩ (fun hG9 => ?_); clear hK K' hG9
  refine wpAnyG_one (i := 11) (by kernel_rfl) rfl (fun K' hK => ?_)
  refine step_append_ints _ rfl (.tmp 13) (.tmp 19) rfl B vl P rfl hr2 a' c' (toI [j]) rfl HRs.out (by rw [toI_length]; simp; omega) hB2 ?_
  intro a2 c2 w3 hown2 hg2 hat2
  obtain ⟨hT, hTl⟩ := tells_step HVn.out HVl.out hap.out hgn hgl hne hB HA.out HO1.out HG1.out HAt1.out HB2.out hown2 hg2 hat2
  obtain ⟨e1, e2, e3, e4⟩ := HStep3.out w1 w2 w3 b1 HB2.out hg2
  have HT := Lib.hid hT
  have HTl := Lib.hid hTl
  clear hown2 hg2 hat2 hT hTl
  refine hK.out _ _ ⟨fun h => absurd h (by decide), fun h => absurd h (by decide), fun h => absurd h (by decide)⟩ (fun hG9 => ?_); clear hK K' hG9
  refine wpAnyG_one (i := 12) (by kernel_rfl) rfl (fun K' hK => ?_)
  go_simp
  refine hK.out _ _ ⟨fun h => absurd h (by decide), fun h => absurd h (by decide), fun h => absurd h (by decide)⟩ (fun hG9 => ?_); clear hK K' hG9
  refine wpAnyG_one (i := 13) (by kernel_rfl) rfl (fun K' hK => ?_)
  go_simp
  refine hK.out _ _ ⟨fun h => absurd h (by decide), fun h => absurd h (by decide), fun h => absurd h (by decide)⟩ (fun hG9 => ?_); clear hK K' hG9
  refine wpAnyG_done (by kernel_rfl) ?_ _
  have ft := (HTl.out.cell (p := ⟨gt, 0, none⟩) hgtB hgt1 hgt2).trans hgt
  have fn := cell_after hne w3 (.slice a1 (K ++ [k]).length c1) (.slice a2 (P ++ toI [j]).length c2) e1
  have eK : (K ++ [k]).length = K.length + 1 := by simp
  have eP : (P ++ [(j : Int)]).length = P.length + (toI [j]).length := by simp [toI]
  have eP2 : (P ++ toI [j]).length = P.length + (toI [j]).length := List.length_append
  rw [eK, eP2] at fn
  have ft2 : ((w3.setCell ⟨gn, 0, none⟩ (.slice a1 (K.length + 1) c1)).setCell ⟨gl, 0, none⟩ (.slice a2 (P.length + (toI [j]).length) c2)).cell? ⟨gt, 0, none⟩ = some (.int .i64 stop) := by rw [eK] at ft; rw [← eP2]; exact ft
  clear eK eP eP2 ft
  go_wp2_with fail
  go_ret
  exact ⟨rfl, by have := HT.out; simpa [toI] using this, by have := HTl.out; simpa [toI] using this⟩
end Go.Proofs.Ytgilbckfkngaiaa
