/- Taking an attribute away: removeAttr, the key at the end. (Printed by gen148.py.) -/
import Derived.Test.YtjebadadimejpaaT147
import Derived.BigRegion
import Derived.Test.YtjebadadimejpaaT152
namespace Go.Proofs.Ytjebadadimejpaa
open Go.RowKit
set_option linter.unusedVariables false


set_option maxRecDepth 100000 in
set_option maxHeartbeats 8000000 in
theorem removeAttr_last (l : List At2) (hl : l.length ≤ 1000) (k : ByteArray) (hx : idxA l k + 1 = l.length) (g : Nat) (w : World) (h : ElA l g w) :
    Calls Try.prog 43 #[.pointer (some ⟨g, 0, none⟩), .string k] w (RmPost (rmA l k) g w) := by
  have hpos : 0 < l.length := by omega
  obtain ⟨ab, cap, cur, hB⟩ := h.blocks hpos
  have hg : g < w.heap.size := (Array.getElem?_eq_some_iff.1 hB.blk).1
  have c9 : w.cell? ⟨g, 9, none⟩ = some (.slice (some ⟨ab, 0, none⟩) l.length cap) := cell_of_row w _ 9 _ _ _ hB.blk
  have HE := Lib.hid hB
  have HX := Lib.hid hx
  clear h hB hx
  go_enter Try.func43, Try.ntmps43
  go_wp2_with fail
  go_loopw [11] (fun x wr => ∃ i : Nat, i ≤ l.length ∧ x = .int .i64 i ∧ Hid (∀ j (h : j < l.length), j < i → (l[j].key.toList == k.toList) = false) ∧ Below w.heap.size w wr) (fun x _ => l.length - (intOf x).toNat)
  case atStart => exact ⟨0, by omega, rfl, (fun j _ hj => by omega), Below.refl _ _⟩
  case round =>
    obtain ⟨i, hi, rfl, hno, hb⟩ := hrel
    have HB := Lib.hid hb
    have HEr := Lib.hid (HE.out.below hb)
    clear hb
    by_cases hlt : i < l.length
    · obtain ⟨g0, g1, g2⟩ := HEr.out.cell hlt
      obtain ⟨y, hy⟩ : ∃ y, y = l[i] := ⟨_, rfl⟩
      rw [← hy] at g1 g2
      have HY := Lib.hid hy
      clear hy
      cases hq : (y.key.toList == k.toList)
      · have HN : Hid (∀ j (h : j < l.length), j < i + 1 → (l[j].key.toList == k.toList) = false) := by
          intro j hj hji
          by_cases e : j = i
          · subst e; rw [← HY.out]; exact hq
          · exact hno.out j hj (by omega)
        clear hno
        go_wp2_with fail
        go_roundw
        case rel => exact ⟨i + 1, by omega, by go_num, HN, HB.out.alloc HB.out.size _⟩
        case measure => simp [intOf]; omega
      · have HIx : Hid (idxA l k = i) := idxA_at hlt hno.out (by rw [← HY.out]; exact hq)
        clear hno
        go_wp2_with fail
        generalize hwq : wr.alloc _ = wq
        have HQ : Hid (ElB l g ab cap cur wq) := by rw [← hwq]; exact HEr.out.alloc _
        have HBq : Hid (Below w.heap.size w wq) := by rw [← hwq]; exact HB.out.alloc HB.out.size _
        obtain ⟨m, hm⟩ : ∃ m, l.length = m + 1 := ⟨l.length - 1, by omega⟩
        obtain ⟨z, hz⟩ : ∃ z, z = l[m] := ⟨_, rfl⟩
        have q9 : wq.cell? ⟨g, 9, none⟩ = some (.slice (some ⟨ab, 0, none⟩) (m + 1) cap) := by rw [← hm]; exact cell_of_row wq g 9 _ _ _ HQ.out.blk
        have z9 : wq.frozen? ⟨g, 9, none⟩ = false := frozen_of_row wq g 9 _ _ HQ.out.blk
        obtain ⟨p0, p1, p2⟩ := HQ.out.cell (i := m) (by omega)
        rw [← hz] at p1 p2
        obtain ⟨r0, r1, r2⟩ := HQ.out.cell hlt
        have s0 : wq.frozen? ⟨ab, i * 3, none⟩ = false := frozen_of_row wq ab _ _ _ HQ.out.row
        have s1 : wq.frozen? ⟨ab, i * 3 + 1, none⟩ = false := frozen_of_row wq ab _ _ _ HQ.out.row
        have s2 : wq.frozen? ⟨ab, i * 3 + 2, none⟩ = false := frozen_of_row wq ab _ _ _ HQ.out.row
        have t0 : wq.frozen? ⟨ab, m * 3, none⟩ = false := frozen_of_row wq ab _ _ _ HQ.out.row
        have t1 : wq.frozen? ⟨ab, m * 3 + 1, none⟩ = false := frozen_of_row wq ab _ _ _ HQ.out.row
        have t2 : wq.frozen? ⟨ab, m * 3 + 2, none⟩ = false := frozen_of_row wq ab _ _ _ HQ.out.row
        have hgab : g + 1 ≤ ab := HQ.out.base
        have hmc : m + 1 ≤ cap := by have := HQ.out.le; omega
        have HZ : Hid (∀ h : m < l.length, z = l[m]) := fun _ => hz
        have HLen := Lib.hid hm
        have him : i = m := by have h1 := HX.out; have h2 := HIx.out; omega
        have HFin : Hid (ElA (rmA l k) g (rmW wq g ab i m cap z)) := by
          have h1 : idxA l k < l.length := by have := HIx.out; omega
          rw [rmA_cut hm h1, HIx.out, ← HZ.out (by omega)]
          exact rm_world HQ.out hm z
        have HBf : Hid (Below g w (rmW wq g ab i m cap z)) := by
          unfold rmW
          exact (((((((( HBq.out.mono (Nat.le_of_lt hg)).setCell (by show g ≤ ab; omega) _).setCell (by show g ≤ ab; omega) _).setCell (by show g ≤ ab; omega) _).setCell (by show g ≤ ab; omega) _).setCell (by show g ≤ ab; omega) _).setCell (by show g ≤ ab; omega) _).setCell (Nat.le_refl _) _).drew
        rw [hm] at hl hlt hi hpos
        clear hz hm g0 g1 g2 hq hwq c9

        subst him
        clear r0 r1 r2 s0 s1 s2
        have q9d : wq.drew.cell? ⟨g, 9, none⟩ = some (.slice (some ⟨ab, 0, none⟩) (i + 1) cap) := q9
        have hwr : IntKind.i64.wrap (i : Int) = i := IntWalk.i64_in _ ⟨by omega, by omega⟩
        have hlt1 : (i : Int) < i + 1 := by omega
        have hgne : ab ≠ g := by omega
        have hmc0 : i ≤ cap := by omega
        refine wp_region_D (S := (fun w' => w'.cell? ⟨g, 9, none⟩ = some (.slice (some ⟨ab, 0, none⟩) (i + 1) cap))) (f := 46) (by kernel_rfl) ?_
        refine wpAnyD_take0 (i := 0) (v := ?v0) rfl (by kernel_rfl) (by kernel_rfl) (by kernel_rfl) rfl (fun _ _ _ h => h) (Or.inl ⟨by rfl, ?hy0⟩) (fun _ => q9d) ?rest0
        case hy0 => intro W _; go_simp <;> with_reducible rfl
        simp only [Act.put, List.setIfInBounds_toArray]
        refine wpAnyD_take0 (i := 1) (v := ?v1) rfl (by kernel_rfl) (by kernel_rfl) (by kernel_rfl) rfl (fun _ _ _ h => h) (Or.inl ⟨by rfl, ?hy1⟩) (fun _ => q9d) ?rest1
        case hy1 => intro W _; go_simp <;> with_reducible rfl
        simp only [Act.put]
        refine wpAnyD_take0 (i := 2) (v := ?v2) rfl (by kernel_rfl) (by kernel_rfl) (by kernel_rfl) rfl (fun _ _ _ h => h) (Or.inl ⟨by rfl, ?hy2⟩) (fun _ => q9d) ?rest2
        case hy2 => intro W _; go_simp <;> with_reducible rfl
        simp only [Act.put]
        refine wpAnyD_take (i := 3) (v := ?v3) rfl (by kernel_rfl) (by kernel_rfl) (by kernel_rfl) (by kernel_rfl) rfl rfl (fun _ _ _ h => h) (Or.inl ⟨by rfl, ?hy3⟩) q9d ?rest3
        case hy3 => intro W hS; (try dsimp only at hS); go_simp <;> with_reducible rfl
        simp only [Act.put]
        refine wpAnyD_take0 (i := 4) (v := ?v4) rfl (by kernel_rfl) (by kernel_rfl) (by kernel_rfl) rfl (fun _ _ _ h => h) (Or.inl ⟨by rfl, ?hy4⟩) (fun _ => q9d) ?rest4
        case hy4 => intro W _; go_simp <;> with_reducible rfl
        simp only [Act.put]
        refine wpAnyD_take0 (i := 5) (v := ?v5) rfl (by kernel_rfl) (by kernel_rfl) (by kernel_rfl) rfl (fun _ _ _ h => h) (Or.inl ⟨by rfl, ?hy5⟩) (fun _ => q9d) ?rest5
        case hy5 => intro W _; go_simp <;> with_reducible rfl
        simp only [Act.put]
        refine wpAnyD_take0 (i := 6) (v := ?v6) rfl (by kernel_rfl) (by kernel_rfl) (by kernel_rfl) rfl (fun _ _ _ h => h) (Or.inl ⟨by rfl, ?hy6⟩) (fun _ => q9d) ?rest6
        case hy6 => intro W _; go_simp <;> with_reducible rfl
        simp only [Act.put]
        refine wpAnyD_take0 (i := 7) (v := ?v7) rfl (by kernel_rfl) (by kernel_rfl) (by kernel_rfl) rfl (fun _ _ _ h => h) (Or.inl ⟨by rfl, ?hy7⟩) (fun _ => q9d) ?rest7
        case hy7 => intro W _; go_simp <;> with_reducible rfl
        simp only [Act.put]
        refine wpAnyD_take (i := 8) (v := ?v8) rfl (by kernel_rfl) (by kernel_rfl) (by kernel_rfl) (by kernel_rfl) rfl rfl (fun _ _ _ h => h) (Or.inl ⟨by rfl, ?hy8⟩) q9d ?rest8
        case hy8 => intro W hS; (try dsimp only at hS); go_simp <;> with_reducible rfl
        simp only [Act.put]
        refine wpAnyD_take0 (i := 9) (v := ?v9) rfl (by kernel_rfl) (by kernel_rfl) (by kernel_rfl) rfl (fun _ _ _ h => h) (Or.inl ⟨by rfl, ?hy9⟩) (fun _ => q9d) ?rest9
        case hy9 => intro W _; go_simp <;> with_reducible rfl
        simp only [Act.put]
        refine wpAnyD_take0 (i := 10) (v := ?v10) rfl (by kernel_rfl) (by kernel_rfl) (by kernel_rfl) rfl (fun _ _ _ h => h) (Or.inl ⟨by rfl, ?hy10⟩) (fun _ => q9d) ?rest10
        case hy10 => intro W _; go_simp <;> with_reducible rfl
        simp only [Act.put]
        refine wpAnyD_take0 (i := 11) (v := ?v11) rfl (by kernel_rfl) (by kernel_rfl) (by kernel_rfl) rfl (fun _ _ _ h => h) (Or.inl ⟨by rfl, ?hy11⟩) (fun _ => q9d) ?rest11
        case hy11 => intro W _; go_simp <;> with_reducible rfl
        simp only [Act.put]
        refine wpAnyD_take (i := 12) (v := ?v12) rfl (by kernel_rfl) (by kernel_rfl) (by kernel_rfl) (by kernel_rfl) rfl rfl (fun _ _ _ h => h) (Or.inl ⟨by rfl, ?hy12⟩) q9d ?rest12
        case hy12 => intro W hS; (try dsimp only at hS); go_simp <;> with_reducible rfl
        simp only [Act.put]
        refine wpAnyD_take0 (i := 13) (v := ?v13) rfl (by kernel_rfl) (by kernel_rfl) (by kernel_rfl) rfl (fun _ _ _ h => h) (Or.inl ⟨by rfl, ?hy13⟩) (fun _ => q9d) ?rest13
        case hy13 => intro W _; go_simp <;> with_reducible rfl
        simp only [Act.put]
        refine wpAnyD_take0 (i := 14) (v := ?v14) rfl (by kernel_rfl) (by kernel_rfl) (by kernel_rfl) rfl (fun _ _ _ h => h) (Or.inl ⟨by rfl, ?hy14⟩) (fun _ => q9d) ?rest14
        case hy14 => intro W _; go_simp <;> with_reducible rfl
        simp only [Act.put]
        refine wpAnyD_take0 (i := 15) (v := ?v15) rfl (by kernel_rfl) (by kernel_rfl) (by kernel_rfl) rfl (fun _ _ _ h => h) (Or.inl ⟨by rfl, ?hy15⟩) (fun _ => q9d) ?rest15
        case hy15 => intro W _; go_simp <;> with_reducible rfl
        simp only [Act.put]
        refine wpAnyD_take0 (i := 16) (v := ?v16) rfl (by kernel_rfl) (by kernel_rfl) (by kernel_rfl) rfl (fun _ _ _ h => h) (Or.inl ⟨by rfl, ?hy16⟩) (fun _ => q9d) ?rest16
        case hy16 => intro W _; go_simp <;> with_reducible rfl
        simp only [Act.put]
        refine wpAnyD_take0 (i := 17) (v := ?v17) rfl (by kernel_rfl) (by kernel_rfl) (by kernel_rfl) rfl (fun _ _ _ h => h) (Or.inl ⟨by rfl, ?hy17⟩) (fun _ => q9d) ?rest17
        case hy17 => intro W _; go_simp <;> with_reducible rfl
        simp only [Act.put]
        refine wpAnyD_take0 (i := 18) (v := ?v18) rfl (by kernel_rfl) (by kernel_rfl) (by kernel_rfl) rfl (fun _ _ _ h => h) (Or.inl ⟨by rfl, ?hy18⟩) (fun _ => q9d) ?rest18
        case hy18 => intro W _; go_simp <;> with_reducible rfl
        simp only [Act.put]
        refine wpAnyD_take (i := 19) (v := ?v19) rfl (by kernel_rfl) (by kernel_rfl) (by kernel_rfl) (by kernel_rfl) rfl rfl (fun _ _ _ h => h) (Or.inl ⟨by rfl, ?hy19⟩) q9d ?rest19
        case hy19 => intro W hS; (try dsimp only at hS); go_simp <;> with_reducible rfl
        simp only [Act.put]
        refine wpAnyD_take0 (i := 20) (v := ?v20) rfl (by kernel_rfl) (by kernel_rfl) (by kernel_rfl) rfl (fun _ _ _ h => h) (Or.inl ⟨by rfl, ?hy20⟩) (fun _ => q9d) ?rest20
        case hy20 => intro W _; go_simp <;> with_reducible rfl
        simp only [Act.put]
        refine wpAnyD_take0 (i := 21) (v := ?v21) rfl (by kernel_rfl) (by kernel_rfl) (by kernel_rfl) rfl (fun _ _ _ h => h) (Or.inl ⟨by rfl, ?hy21⟩) (fun _ => q9d) ?rest21
        case hy21 => intro W _; go_simp <;> with_reducible rfl
        simp only [Act.put]
        refine wpAnyD_take0 (i := 22) (v := ?v22) rfl (by kernel_rfl) (by kernel_rfl) (by kernel_rfl) rfl (fun _ _ _ h => h) (Or.inl ⟨by rfl, ?hy22⟩) (fun _ => q9d) ?rest22
        case hy22 => intro W _; go_simp <;> with_reducible rfl
        simp only [Act.put]
        refine wpAnyD_take (i := 23) (v := ?v23) rfl (by kernel_rfl) (by kernel_rfl) (by kernel_rfl) (by kernel_rfl) rfl rfl (fun _ _ _ h => h) (Or.inl ⟨by rfl, ?hy23⟩) q9d ?rest23
        case hy23 => intro W hS; (try dsimp only at hS); go_simp <;> with_reducible rfl
        simp only [Act.put]
        refine wpAnyD_take0 (i := 24) (v := ?v24) rfl (by kernel_rfl) (by kernel_rfl) (by kernel_rfl) rfl (fun _ _ _ h => h) (Or.inl ⟨by rfl, ?hy24⟩) (fun _ => q9d) ?rest24
        case hy24 => intro W _; go_simp <;> with_reducible rfl
        simp only [Act.put]
        refine wpAnyD_take0 (i := 25) (v := ?v25) rfl (by kernel_rfl) (by kernel_rfl) (by kernel_rfl) rfl (fun _ _ _ h => h) (Or.inl ⟨by rfl, ?hy25⟩) (fun _ => q9d) ?rest25
        case hy25 => intro W _; go_simp <;> with_reducible rfl
        simp only [Act.put]
        refine wpAnyD_take0 (i := 26) (v := ?v26) rfl (by kernel_rfl) (by kernel_rfl) (by kernel_rfl) rfl (fun _ _ _ h => h) (Or.inl ⟨by rfl, ?hy26⟩) (fun _ => q9d) ?rest26
        case hy26 => intro W _; go_simp <;> with_reducible rfl
        simp only [Act.put]
        refine wpAnyD_take0 (i := 28) (v := ?v28) rfl (by kernel_rfl) (by kernel_rfl) (by kernel_rfl) rfl (fun _ _ _ h => h) (Or.inl ⟨by rfl, ?hy28⟩) (fun _ => q9d) ?rest28
        case hy28 => intro W _; go_simp <;> with_reducible rfl
        simp only [Act.put]
        refine wpAnyD_take0 (i := 29) (v := ?v29) rfl (by kernel_rfl) (by kernel_rfl) (by kernel_rfl) rfl (fun _ _ _ h => h) (Or.inl ⟨by rfl, ?hy29⟩) (fun _ => q9d) ?rest29
        case hy29 => intro W _; go_simp <;> with_reducible rfl
        simp only [Act.put]
        refine wpAnyD_take0 (i := 30) (v := ?v30) rfl (by kernel_rfl) (by kernel_rfl) (by kernel_rfl) rfl (fun _ _ _ h => h) (Or.inl ⟨by rfl, ?hy30⟩) (fun _ => q9d) ?rest30
        case hy30 => intro W _; go_simp <;> with_reducible rfl
        simp only [Act.put]
        refine wpAnyD_take0 (i := 31) (v := ?v31) rfl (by kernel_rfl) (by kernel_rfl) (by kernel_rfl) rfl (fun _ _ _ h => h) (Or.inl ⟨by rfl, ?hy31⟩) (fun _ => q9d) ?rest31
        case hy31 => intro W _; go_simp <;> with_reducible rfl
        simp only [Act.put]
        refine wpAnyD_take (i := 32) (v := ?v32) rfl (by kernel_rfl) (by kernel_rfl) (by kernel_rfl) (by kernel_rfl) rfl rfl (fun _ _ _ h => h) (Or.inl ⟨by rfl, ?hy32⟩) q9d ?rest32
        case hy32 => intro W hS; (try dsimp only at hS); go_simp <;> with_reducible rfl
        simp only [Act.put]
        refine wpAnyD_take0 (i := 33) (v := ?v33) rfl (by kernel_rfl) (by kernel_rfl) (by kernel_rfl) rfl (fun _ _ _ h => h) (Or.inl ⟨by rfl, ?hy33⟩) (fun _ => q9d) ?rest33
        case hy33 => intro W _; go_simp <;> with_reducible rfl
        simp only [Act.put]
        refine wpAnyD_take0 (i := 34) (v := ?v34) rfl (by kernel_rfl) (by kernel_rfl) (by kernel_rfl) rfl (fun _ _ _ h => h) (Or.inl ⟨by rfl, ?hy34⟩) (fun _ => q9d) ?rest34
        case hy34 => intro W _; go_simp <;> with_reducible rfl
        simp only [Act.put]
        refine wpAnyD_take0 (i := 35) (v := ?v35) rfl (by kernel_rfl) (by kernel_rfl) (by kernel_rfl) rfl (fun _ _ _ h => h) (Or.inl ⟨by rfl, ?hy35⟩) (fun _ => q9d) ?rest35
        case hy35 => intro W _; go_simp <;> with_reducible rfl
        simp only [Act.put]
        refine wpAnyD_take (i := 36) (v := ?v36) rfl (by kernel_rfl) (by kernel_rfl) (by kernel_rfl) (by kernel_rfl) rfl rfl (fun _ _ _ h => h) (Or.inl ⟨by rfl, ?hy36⟩) q9d ?rest36
        case hy36 => intro W hS; (try dsimp only at hS); go_simp <;> with_reducible rfl
        simp only [Act.put]
        refine wpAnyD_take0 (i := 37) (v := ?v37) rfl (by kernel_rfl) (by kernel_rfl) (by kernel_rfl) rfl (fun _ _ _ h => h) (Or.inl ⟨by rfl, ?hy37⟩) (fun _ => q9d) ?rest37
        case hy37 => intro W _; go_simp <;> with_reducible rfl
        simp only [Act.put]
        refine wpAnyD_take0 (i := 38) (v := ?v38) rfl (by kernel_rfl) (by kernel_rfl) (by kernel_rfl) rfl (fun _ _ _ h => h) (Or.inl ⟨by rfl, ?hy38⟩) (fun _ => q9d) ?rest38
        case hy38 => intro W _; go_simp <;> with_reducible rfl
        simp only [Act.put]
        refine wpAnyD_take0 (i := 39) (v := ?v39) rfl (by kernel_rfl) (by kernel_rfl) (by kernel_rfl) rfl (fun _ _ _ h => h) (Or.inl ⟨by rfl, ?hy39⟩) (fun _ => q9d) ?rest39
        case hy39 => intro W _; go_simp <;> with_reducible rfl
        simp only [Act.put]
        refine wpAnyD_one (i := 27) (by kernel_rfl) rfl (fun K' hK => ?_)
        go_simp
        refine hK.out _ _ (fun _ => q9d) ?_; clear hK K'
        refine wpAnyD_one (i := 40) (by kernel_rfl) rfl (fun K' hK => ?_)
        go_simp
        refine hK.out _ _ (fun _ => q9d) ?_; clear hK K'
        refine wpAnyD_one (i := 41) (by kernel_rfl) rfl (fun K' hK => ?_)
        go_simp
        refine hK.out _ _ (fun _ => by simp [World.cell?_setCell_far, hgne, q9]) ?_; clear hK K'
        refine wpAnyD_one (i := 42) (by kernel_rfl) rfl (fun K' hK => ?_)
        go_simp
        refine hK.out _ _ (fun _ => by simp [World.cell?_setCell_far, hgne, q9]) ?_; clear hK K'
        refine wpAnyD_one (i := 43) (by kernel_rfl) rfl (fun K' hK => ?_)
        go_simp
        refine hK.out _ _ (fun _ => by simp [World.cell?_setCell_far, hgne, q9]) ?_; clear hK K'
        refine wpAnyD_one (i := 44) (by kernel_rfl) rfl (fun K' hK => ?_)
        go_simp
        refine hK.out _ _ (fun _ => by simp [World.cell?_setCell_far, hgne, q9]) ?_; clear hK K'
        refine wpAnyD_one (i := 45) (by kernel_rfl) rfl (fun K' hK => ?_)
        go_simp
        refine hK.out _ _ (fun _ => by simp [World.cell?_setCell_far, hgne, q9]) ?_; clear hK K'
        refine wpAnyD_one (i := 46) (by kernel_rfl) rfl (fun K' hK => ?_)
        go_simp
        refine hK.out _ _ (fun h => absurd h (by decide)) ?_; clear hK K'
        refine wpAnyD_done (by kernel_rfl) ?_ _
        go_wp2_with fail
        (try simp only [Exit.inBlock, Exit.then])
        refine bodyPost_ret (results_none rfl _ _ _) rfl ?_
        exact ⟨rfl, HFin.out, HBf.out⟩
    · exfalso
      have e : i = l.length := by omega
      have h1 := idxA_none (l := l) (k := k) (fun j hj => hno.out j hj (by omega))
      have h2 := HX.out
      omega
end Go.Proofs.Ytjebadadimejpaa
