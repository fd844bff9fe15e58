/- spec.ReadName. -/
import Derived.Test.YtkdfdfhejibopaaGreatDoorT437
import Derived.Test.YtkdfdfhejibopaaGreatDoorT407
namespace Go.Proofs.YtkdfdfhejibopaaGreatDoor
open Go.RowKit
set_option linter.unusedVariables false

def RnmP (s : ByteArray) (w : World) (e : Ending) (w' : World) : Prop :=
  ∃ (O : ByteArray) (i : Nat) (ok sure : Bool), e = .returned (.tuple #[.string O, .int .i64 (i : Int), .bool ok, .bool sure]) ∧ Below w.heap.size w w' ∧ i ≤ s.size ∧ O.size ≤ 4 * i ∧
    (sure = true → NmG s 0 O i ∧ rdb s = true ∧ (i < s.size → isNm (bAt s i) = false ∧ escAt s i = false) ∧ (ok = true ↔ 0 < i ∧ bAt s i ≠ 92))

theorem RdW.made0 (s : ByteArray) (w : World) : RdW s w.heap.size 0 false w.heap.size w (w.alloc (.cells #[.string s, .int .i64 0, .bool false, .bool false, .bool false] 42)) :=
  ⟨heap_alloc_new w _, (Below.refl _ _).alloc (Nat.le_refl _) _, Nat.le_refl _⟩

set_option maxRecDepth 100000 in
set_option maxHeartbeats 8000000 in
theorem sReadName_any (s : ByteArray) (w : World) (hs : s.size ≤ 1000) : Calls Tryz.prog 13 #[.string s] w (RnmP s w) := by
  have HRd : Hid (∀ U, Calls Tryz.prog 6 #[.string s] U (RbP (rdb s) U)) := fun U => rdb_any s U (by omega)
  have HRs := Lib.hid (rest_any s w.heap.size 0 w.heap.size w _ hs (Nat.zero_le _) (RdW.made0 s w))
  go_enter Tryz.func13, Tryz.ntmps13
  go_wp2_with fail
  refine HRs.out.mono ?_
  rintro e1 w1 ⟨O, i, u, rfl, hr, hi, hO, hx, hst⟩
  have HR1 := Lib.hid hr
  have HR2 := Lib.hid (hr.drew 1)
  have HX := Lib.hid hx
  have HSt := Lib.hid hst
  obtain ⟨c, hc⟩ : ∃ c, c = bAt s i := ⟨_, rfl⟩
  have HC := Lib.hid hc
  have HNx : Hid (∀ U, RdW s w.heap.size i u w.heap.size w U → Calls Tryz.prog 18 #[.pointer (some ⟨w.heap.size, 0, none⟩)] U (RdV (.int .u8 (c : Int)) s w.heap.size i u w.heap.size w)) := fun U h => by
    rw [hc]
    refine (next_any s w.heap.size i U (by omega) (by omega) h.rd).mono ?_
    rintro e w' ⟨rfl, q, rfl⟩
    exact ⟨rfl, h.drew q⟩
  clear hr hx hst hc
  go_wp2_with fail
  by_cases h0 : 0 < i
  · have m0 : decide ((0 : Int) < (i : Int)) = true := decide_eq_true (by omega)
    by_cases h92 : c = 92
    · have m1 : ((c : Int) != 92) = false := by simp; omega
      have H92 := Lib.hid h92
      clear h92
      cases u
      · as_aux_lemma =>
        refine wp_region_quiet (C := fun w' => RdW s w.heap.size i false w.heap.size w w') (by kernel_rfl) (by kernel_rfl) HR2.out ?_
        dsimp only
        repeat
         (first
          | go_big_quiet_skip
          | (go_big_quiet_want; go_big_quiet_op; go_big_quiet_on)
          | (go_big_quiet_want
             apply Exists.intro
             refine ⟨fun w' hC => ?_, ?_⟩
             · have d0 := hC.rd.at_
               have d2 := hC.c3
               clear hC
               go_simp
               first
                 | done
                 | rfl
                 | exact ⟨rfl, rfl⟩
             go_big_quiet_on
             (try simp only [Act.put, List.setIfInBounds_toArray, List.set_cons_zero, List.set_cons_succ]))
          | (go_big_quiet_want
             refine ⟨.int .u8 (c : Int), fun w' hC => ?_, ?_⟩
             · go_simp
               exact (HNx.out w' hC).mono (fun _ _ hh => ⟨hh.1, hh.2⟩)
             go_big_quiet_on
             (try simp only [Act.put, List.setIfInBounds_toArray, List.set_cons_zero, List.set_cons_succ]))
          | (go_big_quiet_want
             refine ⟨.bool (rdb s), fun w' hC => ?_, ?_⟩
             · go_simp
               exact (HRd.out w').mono (fun _ _ hh => ⟨hh.1, by rw [← hh.2]; exact hC⟩)
             go_big_quiet_on
             (try simp only [Act.put, List.setIfInBounds_toArray, List.set_cons_zero, List.set_cons_succ])))
        refine wpQuiet_nil ?_
        intro w' hC
        have HR3 := Lib.hid hC
        clear hC
        go_wp2_with fail
        ((try simp only [Exit.inBlock, Exit.then]); refine bodyPost_ret (results_tmp4 rfl _ _ _) rfl ?_)
        exact ⟨O, i, false, rdb s, rfl, HR3.out.old, hi, hO, fun q => ⟨HX.out (by trivial), q, HSt.out, by rw [← HC.out]; exact ⟨(fun h => by cases h), fun h => absurd H92.out h.2⟩⟩⟩
      · as_aux_lemma =>
        refine wp_region_quiet (C := fun w' => RdW s w.heap.size i true w.heap.size w w') (by kernel_rfl) (by kernel_rfl) HR2.out ?_
        dsimp only
        repeat
         (first
          | go_big_quiet_skip
          | (go_big_quiet_want; go_big_quiet_op; go_big_quiet_on)
          | (go_big_quiet_want
             apply Exists.intro
             refine ⟨fun w' hC => ?_, ?_⟩
             · have d0 := hC.rd.at_
               have d2 := hC.c3
               clear hC
               go_simp
               first
                 | done
                 | rfl
                 | exact ⟨rfl, rfl⟩
             go_big_quiet_on
             (try simp only [Act.put, List.setIfInBounds_toArray, List.set_cons_zero, List.set_cons_succ]))
          | (go_big_quiet_want
             refine ⟨.int .u8 (c : Int), fun w' hC => ?_, ?_⟩
             · go_simp
               exact (HNx.out w' hC).mono (fun _ _ hh => ⟨hh.1, hh.2⟩)
             go_big_quiet_on
             (try simp only [Act.put, List.setIfInBounds_toArray, List.set_cons_zero, List.set_cons_succ])))
        refine wpQuiet_nil ?_
        intro w' hC
        have HR3 := Lib.hid hC
        clear hC
        go_wp2_with fail
        ((try simp only [Exit.inBlock, Exit.then]); refine bodyPost_ret (results_tmp4 rfl _ _ _) rfl ?_)
        exact ⟨O, i, false, false, rfl, HR3.out.old, hi, hO, (fun q => by cases q)⟩
    · have m1 : ((c : Int) != 92) = true := by simp; omega
      have H92 := Lib.hid h92
      clear h92
      cases u
      · as_aux_lemma =>
        refine wp_region_quiet (C := fun w' => RdW s w.heap.size i false w.heap.size w w') (by kernel_rfl) (by kernel_rfl) HR2.out ?_
        dsimp only
        repeat
         (first
          | go_big_quiet_skip
          | (go_big_quiet_want; go_big_quiet_op; go_big_quiet_on)
          | (go_big_quiet_want
             apply Exists.intro
             refine ⟨fun w' hC => ?_, ?_⟩
             · have d0 := hC.rd.at_
               have d2 := hC.c3
               clear hC
               go_simp
               first
                 | done
                 | rfl
                 | exact ⟨rfl, rfl⟩
             go_big_quiet_on
             (try simp only [Act.put, List.setIfInBounds_toArray, List.set_cons_zero, List.set_cons_succ]))
          | (go_big_quiet_want
             refine ⟨.int .u8 (c : Int), fun w' hC => ?_, ?_⟩
             · go_simp
               exact (HNx.out w' hC).mono (fun _ _ hh => ⟨hh.1, hh.2⟩)
             go_big_quiet_on
             (try simp only [Act.put, List.setIfInBounds_toArray, List.set_cons_zero, List.set_cons_succ]))
          | (go_big_quiet_want
             refine ⟨.bool (rdb s), fun w' hC => ?_, ?_⟩
             · go_simp
               exact (HRd.out w').mono (fun _ _ hh => ⟨hh.1, by rw [← hh.2]; exact hC⟩)
             go_big_quiet_on
             (try simp only [Act.put, List.setIfInBounds_toArray, List.set_cons_zero, List.set_cons_succ])))
        refine wpQuiet_nil ?_
        intro w' hC
        have HR3 := Lib.hid hC
        clear hC
        go_wp2_with fail
        ((try simp only [Exit.inBlock, Exit.then]); refine bodyPost_ret (results_tmp4 rfl _ _ _) rfl ?_)
        exact ⟨O, i, true, rdb s, rfl, HR3.out.old, hi, hO, fun q => ⟨HX.out (by trivial), q, HSt.out, by rw [← HC.out]; exact ⟨fun _ => ⟨h0, H92.out⟩, fun _ => rfl⟩⟩⟩
      · as_aux_lemma =>
        refine wp_region_quiet (C := fun w' => RdW s w.heap.size i true w.heap.size w w') (by kernel_rfl) (by kernel_rfl) HR2.out ?_
        dsimp only
        repeat
         (first
          | go_big_quiet_skip
          | (go_big_quiet_want; go_big_quiet_op; go_big_quiet_on)
          | (go_big_quiet_want
             apply Exists.intro
             refine ⟨fun w' hC => ?_, ?_⟩
             · have d0 := hC.rd.at_
               have d2 := hC.c3
               clear hC
               go_simp
               first
                 | done
                 | rfl
                 | exact ⟨rfl, rfl⟩
             go_big_quiet_on
             (try simp only [Act.put, List.setIfInBounds_toArray, List.set_cons_zero, List.set_cons_succ]))
          | (go_big_quiet_want
             refine ⟨.int .u8 (c : Int), fun w' hC => ?_, ?_⟩
             · go_simp
               exact (HNx.out w' hC).mono (fun _ _ hh => ⟨hh.1, hh.2⟩)
             go_big_quiet_on
             (try simp only [Act.put, List.setIfInBounds_toArray, List.set_cons_zero, List.set_cons_succ])))
        refine wpQuiet_nil ?_
        intro w' hC
        have HR3 := Lib.hid hC
        clear hC
        go_wp2_with fail
        ((try simp only [Exit.inBlock, Exit.then]); refine bodyPost_ret (results_tmp4 rfl _ _ _) rfl ?_)
        exact ⟨O, i, true, false, rfl, HR3.out.old, hi, hO, (fun q => by cases q)⟩
  · have m0 : decide ((0 : Int) < (i : Int)) = false := decide_eq_false (by omega)
    cases u
    · as_aux_lemma =>
      refine wp_region_quiet (C := fun w' => RdW s w.heap.size i false w.heap.size w w') (by kernel_rfl) (by kernel_rfl) HR2.out ?_
      dsimp only
      repeat
       (first
        | go_big_quiet_skip
        | (go_big_quiet_want; go_big_quiet_op; go_big_quiet_on)
        | (go_big_quiet_want
           apply Exists.intro
           refine ⟨fun w' hC => ?_, ?_⟩
           · have d0 := hC.rd.at_
             have d2 := hC.c3
             clear hC
             go_simp
             first
               | done
               | rfl
               | exact ⟨rfl, rfl⟩
           go_big_quiet_on
           (try simp only [Act.put, List.setIfInBounds_toArray, List.set_cons_zero, List.set_cons_succ]))
        | (go_big_quiet_want
           refine ⟨.bool (rdb s), fun w' hC => ?_, ?_⟩
           · go_simp
             exact (HRd.out w').mono (fun _ _ hh => ⟨hh.1, by rw [← hh.2]; exact hC⟩)
           go_big_quiet_on
           (try simp only [Act.put, List.setIfInBounds_toArray, List.set_cons_zero, List.set_cons_succ])))
      refine wpQuiet_nil ?_
      intro w' hC
      have HR3 := Lib.hid hC
      clear hC
      go_wp2_with fail
      ((try simp only [Exit.inBlock, Exit.then]); refine bodyPost_ret (results_tmp4 rfl _ _ _) rfl ?_)
      exact ⟨O, i, false, rdb s, rfl, HR3.out.old, hi, hO, fun q => ⟨HX.out (by trivial), q, HSt.out, by exact ⟨(fun h => by cases h), fun h => absurd h.1 h0⟩⟩⟩
    · as_aux_lemma =>
      refine wp_region_quiet (C := fun w' => RdW s w.heap.size i true w.heap.size w w') (by kernel_rfl) (by kernel_rfl) HR2.out ?_
      dsimp only
      repeat
       (first
        | go_big_quiet_skip
        | (go_big_quiet_want; go_big_quiet_op; go_big_quiet_on)
        | (go_big_quiet_want
           apply Exists.intro
           refine ⟨fun w' hC => ?_, ?_⟩
           · have d0 := hC.rd.at_
             have d2 := hC.c3
             clear hC
             go_simp
             first
               | done
               | rfl
               | exact ⟨rfl, rfl⟩
           go_big_quiet_on
           (try simp only [Act.put, List.setIfInBounds_toArray, List.set_cons_zero, List.set_cons_succ])))
      refine wpQuiet_nil ?_
      intro w' hC
      have HR3 := Lib.hid hC
      clear hC
      go_wp2_with fail
      ((try simp only [Exit.inBlock, Exit.then]); refine bodyPost_ret (results_tmp4 rfl _ _ _) rfl ?_)
      exact ⟨O, i, false, false, rfl, HR3.out.old, hi, hO, (fun q => by cases q)⟩
end Go.Proofs.YtkdfdfhejibopaaGreatDoor
