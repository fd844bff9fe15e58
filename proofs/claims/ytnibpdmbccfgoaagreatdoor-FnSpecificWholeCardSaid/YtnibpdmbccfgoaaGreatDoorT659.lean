/- A simple selector as a text (spec.writtenSimple). -/
import Derived.Test.YtnibpdmbccfgoaaGreatDoorT658
import Derived.Test.YtnibpdmbccfgoaaGreatDoorJ1
import Derived.Test.YtnibpdmbccfgoaaGreatDoorJ10
import Derived.Test.YtnibpdmbccfgoaaGreatDoorT690
namespace Go.Proofs.YtnibpdmbccfgoaaGreatDoor
open Go.RowKit
set_option linter.unusedVariables false

def signRow : Array Value := #[.string ⟨#[]⟩, .string ⟨#[]⟩, .string ⟨#[61]⟩, .string ⟨#[33, 61]⟩, .string ⟨#[126, 61]⟩, .string ⟨#[124, 61]⟩, .string ⟨#[94, 61]⟩, .string ⟨#[36, 61]⟩, .string ⟨#[42, 61]⟩]
/-- The signs of attributes. -/
theorem signsOf_any (op : Int) (h2 : 2 ≤ op) (h8 : op ≤ 8) (w : World) : Calls Tryz.prog 34 #[.int .i64 op] w fun e w' => e = .returned (.string (bOf (opL op))) ∧ w' = w.alloc (.cells signRow 9) := by
  have hc : op = 2 ∨ op = 3 ∨ op = 4 ∨ op = 5 ∨ op = 6 ∨ op = 7 ∨ op = 8 := by omega
  unfold signRow
  rcases hc with rfl | rfl | rfl | rfl | rfl | rfl | rfl
  all_goals
    go_enter Tryz.func34, Tryz.ntmps34
    go_wp2_with fail
    go_ret
    exact ⟨rfl, rfl⟩
def StrB (X : ByteArray) (w : World) (e : Ending) (w' : World) : Prop := e = .returned (.string X) ∧ Below w.heap.size w w'

set_option maxRecDepth 100000 in
set_option maxHeartbeats 8000000 in
theorem writtenSimple_any (x : Sn) (w : World) (hf : FOk x) (hk1 : 1 ≤ x.kind) (hk2 : x.kind ≤ 17) (hsk : x.key.size ≤ 1000) (hsv : x.val.size ≤ 1000) : Calls Tryz.prog 24 #[x.val8] w (StrB (bOf (simL x)) w) := by
  have HNk : Hid (∀ U, Calls Tryz.prog 33 #[.string x.key] U (StrP (bOf (namedL x.key)) U)) := fun U => named_any x.key U hsk
  have HNv : Hid (∀ U, Calls Tryz.prog 33 #[.string x.val] U (StrP (bOf (namedL x.val)) U)) := fun U => named_any x.val U hsv
  have HQv : Hid (∀ U, Calls Tryz.prog 35 #[.string x.val] U (StrP (bOf (qtL x.val)) U)) := fun U => quoted_any2 x.val U hsv
  have hst := BlkB.made w w.heap.size (Nat.le_refl _) #[.int .i64 x.kind, .int .i64 x.op, .string x.key, .string x.val, .int .i64 x.a, .int .i64 x.b, .int .i64 x.flag, .int .i64 x.size] 25
  have hlk : (bOf (namedL x.key)).size ≤ 5000 := by rw [bOf_size]; have := namedL_len x.key; omega
  have hlv : (bOf (namedL x.val)).size ≤ 5000 := by rw [bOf_size]; have := namedL_len x.val; omega
  have hlq : (bOf (qtL x.val)).size ≤ 5000 := by
    rw [bOf_size]
    have := encT_len x.val x.val.size (Nat.le_refl _)
    unfold encT at this
    rw [List.take_of_length_le (by rw [Array.length_toList]; exact Nat.le_refl _)] at this
    unfold qtL; simp at this ⊢; omega
  obtain ⟨NK, hNK⟩ : ∃ NK, NK = bOf (namedL x.key) := ⟨_, rfl⟩
  obtain ⟨NV, hNV⟩ : ∃ NV, NV = bOf (namedL x.val) := ⟨_, rfl⟩
  obtain ⟨QV, hQV⟩ : ∃ QV, QV = bOf (qtL x.val) := ⟨_, rfl⟩
  rw [← hNK] at HNk hlk
  rw [← hNV] at HNv hlv
  rw [← hQV] at HQv hlq
  have HNK := Lib.hid hNK
  have HNV := Lib.hid hNV
  have HQV := Lib.hid hQV
  have HFO := Lib.hid hf
  clear hNK hNV hQV hf
  obtain ⟨kd, op, key, val, na, nb, fl, sz⟩ := x
  unfold Sn.val8
  dsimp only at HNk HNv HQv hst hlk hlv hlq hk1 hk2 HNK HNV HQV HFO ⊢
  clear hsk hsv
  go_enter Tryz.func24, Tryz.ntmps24
  go_upto_region 1 with fail
  obtain ⟨H, hH⟩ : ∃ H, H = w.heap.size := ⟨_, rfl⟩
  refine wp_gen (R := fun U => BlkB H #[.int .i64 kd, .int .i64 op, .string key, .string val, .int .i64 na, .int .i64 nb, .int .i64 fl, .int .i64 sz] 25 w.heap.size w U) (by rw [hH]; exact hst) ?_
  intro U hU
  rw [← hH]
  clear hst hH
  have HU := Lib.hid hU
  have c0 := hU.cell 0
  have c1 := hU.cell 1
  have c2 := hU.cell 2
  have c3 := hU.cell 3
  have c4 := hU.cell 4
  have c5 := hU.cell 5
  have c6 := hU.cell 6
  have a0 : ∀ O, (U.alloc O).cell? ⟨H, 0, none⟩ = some (.int .i64 kd) := fun O => (hU.next ((Below.refl _ _).alloc (Nat.le_refl _) O)).cell 0
  have a4 : ∀ O, (U.alloc O).cell? ⟨H, 4, none⟩ = some (.int .i64 na) := fun O => (hU.next ((Below.refl _ _).alloc (Nat.le_refl _) O)).cell 4
  have a5 : ∀ O, (U.alloc O).cell? ⟨H, 5, none⟩ = some (.int .i64 nb) := fun O => (hU.next ((Below.refl _ _).alloc (Nat.le_refl _) O)).cell 5
  have a6 : ∀ O, (U.alloc O).cell? ⟨H, 6, none⟩ = some (.int .i64 fl) := fun O => (hU.next ((Below.refl _ _).alloc (Nat.le_refl _) O)).cell 6
  clear hU
  have HS : Hid (∀ x : Sn, x = ⟨kd, op, key, val, na, nb, fl, sz⟩ → simL x = simL ⟨kd, op, key, val, na, nb, fl, sz⟩) := fun x hx => by rw [hx]
  have hkd : kd = 1 ∨ kd = 2 ∨ kd = 3 ∨ kd = 4 ∨ kd = 5 ∨ kd = 6 ∨ kd = 7 ∨ (8 ≤ kd ∧ kd ≤ 14) ∨ kd = 15 ∨ kd = 16 ∨ kd = 17 := by omega
  rcases hkd with rfl | rfl | rfl | rfl | rfl | rfl | rfl | h8 | rfl | rfl | rfl
  · go_wp2_with fail
    go_ret
    exact ⟨rfl, HU.out.old⟩
  · go_wp2_with fail
    refine (HNk.out _).mono ?_
    rintro e1 w1 ⟨rfl, rfl⟩
    go_wp2_with fail
    go_ret
    exact ⟨by rw [HNK.out]; rfl, HU.out.old⟩
  · go_wp2_with fail
    refine (HNv.out _).mono ?_
    rintro e1 w1 ⟨rfl, rfl⟩
    go_wp2_with fail
    go_ret
    exact ⟨by rw [HNV.out]; show Ending.returned (.string (bOf [46] ++ bOf (namedL val))) = _; rw [bOf_app]; rfl, HU.out.old⟩
  · go_wp2_with fail
    refine (HNv.out _).mono ?_
    rintro e1 w1 ⟨rfl, rfl⟩
    go_wp2_with fail
    go_ret
    exact ⟨by rw [HNV.out]; show Ending.returned (.string (bOf [35] ++ bOf (namedL val))) = _; rw [bOf_app]; rfl, HU.out.old⟩
  · obtain ⟨ho1, ho8, hfl⟩ := HFO.out.att rfl
    have ho1 : 1 ≤ op := ho1
    have ho8 : op ≤ 8 := ho8
    by_cases o1 : op = 1
    · have m1 : (op == 1) = true := beq_iff_eq.2 o1
      have HO : Hid (op = 1) := o1
      clear o1 ho1 ho8 hfl
      go_wp2_with fail
      refine (HNk.out _).mono ?_
      rintro e1 w1 ⟨rfl, rfl⟩
      go_wp2_with fail
      go_ret
      refine ⟨?_, HU.out.old⟩
      rw [HNK.out]
      show Ending.returned (.string (bOf [91] ++ bOf (namedL key) ++ bOf [93])) = _
      rw [bOf_app, bOf_app]
      unfold simL attL
      rw [HO.out]
      simp
    · have m1 : (op == 1) = false := beq_eq_false_iff_ne.2 o1
      have HSg : Hid (∀ V, Calls Tryz.prog 34 #[.int .i64 op] V fun e w' => e = .returned (.string (bOf (opL op))) ∧ w' = V.alloc (.cells signRow 9)) := fun V => signsOf_any op (by omega) ho8 V
      have hlo : (bOf (opL op)).size ≤ 2 := by
        rw [bOf_size]; unfold opL
        split
        · simp
        · split
          · simp
          · split
            · simp
            · split
              · simp
              · split
                · simp
                · split <;> simp
      obtain ⟨OL, hOL⟩ : ∃ OL, OL = bOf (opL op) := ⟨_, rfl⟩
      rw [← hOL] at HSg hlo
      have HOL := Lib.hid hOL
      have HO : Hid (¬ op = 1) := o1
      clear hOL o1 ho1 ho8
      have hfl : fl = 0 ∨ fl = 1 := hfl
      rcases hfl with rfl | rfl
      · go_wp2_with fail
        clear c0 c1 c2 c3 c4 c5 c6 a0 a4 a5 a6
        refine wp_region_any (by kernel_rfl) ?_
        refine wpAny_rowB (m := 20) (n := 105) (b := 12) (ds := [34, 35, 36, 37, 38, 39, 40, 41, 42, 43, 44, 45, 46, 47, 48, 49, 50, 51, 52, 2])
          (val := fun r k => [.pointer (some ⟨H, 2, none⟩), .string key, .string NK, .string (⟨#[91]⟩ ++ NK), .pointer (some ⟨H, 1, none⟩), .int .i64 op, .string OL, .string (⟨#[91]⟩ ++ NK ++ OL), .pointer (some ⟨H, 3, none⟩), .string val, .string QV, .string (⟨#[91]⟩ ++ NK ++ OL ++ QV), .slice (some ⟨r, 0, none⟩) 2 2, .pointer (some ⟨H, 6, none⟩), .int .i64 0, .pointer (some ⟨r, 0, none⟩), .string ⟨#[]⟩, .string (⟨#[91]⟩ ++ NK ++ OL ++ QV ++ ⟨#[]⟩), .string (⟨#[91]⟩ ++ NK ++ OL ++ QV ++ ⟨#[]⟩ ++ ⟨#[93]⟩), .string (⟨#[91]⟩ ++ NK ++ OL ++ QV ++ ⟨#[]⟩ ++ ⟨#[93]⟩)].getD k undef)
          (dep := fun k => decide (k = 12 ∨ k = 15)) (Base := fun V => BlkB H #[.int .i64 5, .int .i64 op, .string key, .string val, .int .i64 na, .int .i64 nb, .int .i64 0, .int .i64 sz] 25 w.heap.size w V)
          (Row := fun r V => V.heap[r]? = some (.cells #[.string ⟨#[]⟩, .string ⟨#[32, 105]⟩] 9 (0, 0)))
          (fs := [(1, .pointer (some ⟨H, 0, none⟩))]) (by kernel_rfl) ?_ ?_ ?_ ?_ rfl ?_ ?_
        · intro r r' k hk hd
          have : k = 0 ∨ k = 1 ∨ k = 2 ∨ k = 3 ∨ k = 4 ∨ k = 5 ∨ k = 6 ∨ k = 7 ∨ k = 8 ∨ k = 9 ∨ k = 10 ∨ k = 11 ∨ k = 12 ∨ k = 13 ∨ k = 14 ∨ k = 15 ∨ k = 16 ∨ k = 17 ∨ k = 18 ∨ k = 19 := by omega
          rcases this with rfl | rfl | rfl | rfl | rfl | rfl | rfl | rfl | rfl | rfl | rfl | rfl | rfl | rfl | rfl | rfl | rfl | rfl | rfl | rfl
          all_goals first | rfl | exact absurd hd (by decide)
        · intro k o hk ho hkb r T V hB hF hR hE
          have hT1 : T[1]? = some (.pointer (some ⟨H, 0, none⟩)) := hF (1, .pointer (some ⟨H, 0, none⟩)) (by simp)
          have d1 := hB.cell 1
          have d2 := hB.cell 2
          have d3 := hB.cell 3
          have d6 := hB.cell 6
          have : k = 0 ∨ k = 1 ∨ k = 2 ∨ k = 3 ∨ k = 4 ∨ k = 5 ∨ k = 6 ∨ k = 7 ∨ k = 8 ∨ k = 9 ∨ k = 10 ∨ k = 11 ∨ k = 12 ∨ k = 13 ∨ k = 14 ∨ k = 15 ∨ k = 16 ∨ k = 17 ∨ k = 18 ∨ k = 19 := by omega
          rcases this with rfl | rfl | rfl | rfl | rfl | rfl | rfl | rfl | rfl | rfl | rfl | rfl | rfl | rfl | rfl | rfl | rfl | rfl | rfl | rfl
          · obtain rfl := Option.some.inj (show some _ = some o from ho)
            clear hE hR hF
            refine stepV_run hB ?_
            go_simp
            all_goals omega
          · obtain rfl := Option.some.inj (show some _ = some o from ho)
            have e0 : T[34]? = some (.pointer (some ⟨H, 2, none⟩)) := hE 0 (by kernel_rfl)
            clear hE hR hF
            refine stepV_run hB ?_
            go_simp
            all_goals omega
          · obtain rfl := Option.some.inj (show some _ = some o from ho)
            have e1 : T[35]? = some (.string key) := hE 1 (by kernel_rfl)
            clear hE hR hF
            refine stepV_call (f := 33) (args := #[.string key]) (by go_simp) ?_
            exact (HNk.out _).mono (fun e w' hh => ⟨hh.1, by rw [← hh.2]; exact hB, fun r hr => by rw [← hh.2]; exact hr⟩)
          · obtain rfl := Option.some.inj (show some _ = some o from ho)
            have e2 : T[36]? = some (.string NK) := hE 2 (by kernel_rfl)
            clear hE hR hF
            refine stepV_run hB ?_
            go_simp
            all_goals omega
          · obtain rfl := Option.some.inj (show some _ = some o from ho)
            clear hE hR hF
            refine stepV_run hB ?_
            go_simp
            all_goals omega
          · obtain rfl := Option.some.inj (show some _ = some o from ho)
            have e4 : T[38]? = some (.pointer (some ⟨H, 1, none⟩)) := hE 4 (by kernel_rfl)
            clear hE hR hF
            refine stepV_run hB ?_
            go_simp
            all_goals omega
          · obtain rfl := Option.some.inj (show some _ = some o from ho)
            have e5 : T[39]? = some (.int .i64 op) := hE 5 (by kernel_rfl)
            clear hE hR hF
            refine stepV_call (f := 34) (args := #[.int .i64 op]) (by go_simp) ?_
            exact (HSg.out _).mono (fun e w' hh => ⟨hh.1, by rw [hh.2]; exact hB.next ((Below.refl _ _).alloc (Nat.le_refl _) _), fun r hr => by rw [hh.2]; exact (Below.heap_alloc _ _ _ (Array.getElem?_eq_some_iff.1 hr).1).trans hr⟩)
          · obtain rfl := Option.some.inj (show some _ = some o from ho)
            have e3 : T[37]? = some (.string (⟨#[91]⟩ ++ NK)) := hE 3 (by kernel_rfl)
            have e6 : T[40]? = some (.string OL) := hE 6 (by kernel_rfl)
            clear hE hR hF
            refine stepV_run hB ?_
            go_simp
            all_goals omega
          · obtain rfl := Option.some.inj (show some _ = some o from ho)
            clear hE hR hF
            refine stepV_run hB ?_
            go_simp
            all_goals omega
          · obtain rfl := Option.some.inj (show some _ = some o from ho)
            have e8 : T[42]? = some (.pointer (some ⟨H, 3, none⟩)) := hE 8 (by kernel_rfl)
            clear hE hR hF
            refine stepV_run hB ?_
            go_simp
            all_goals omega
          · obtain rfl := Option.some.inj (show some _ = some o from ho)
            have e9 : T[43]? = some (.string val) := hE 9 (by kernel_rfl)
            clear hE hR hF
            refine stepV_call (f := 35) (args := #[.string val]) (by go_simp) ?_
            exact (HQv.out _).mono (fun e w' hh => ⟨hh.1, by rw [← hh.2]; exact hB, fun r hr => by rw [← hh.2]; exact hr⟩)
          · obtain rfl := Option.some.inj (show some _ = some o from ho)
            have e7 : T[41]? = some (.string (⟨#[91]⟩ ++ NK ++ OL)) := hE 7 (by kernel_rfl)
            have e10 : T[44]? = some (.string QV) := hE 10 (by kernel_rfl)
            clear hE hR hF
            refine stepV_run hB ?_
            go_simp
            all_goals omega
          · exact absurd rfl hkb
          · obtain rfl := Option.some.inj (show some _ = some o from ho)
            clear hE hR hF
            refine stepV_run hB ?_
            go_simp
            all_goals omega
          · obtain rfl := Option.some.inj (show some _ = some o from ho)
            have e13 : T[47]? = some (.pointer (some ⟨H, 6, none⟩)) := hE 13 (by kernel_rfl)
            clear hE hR hF
            refine stepV_run hB ?_
            go_simp
            all_goals omega
          · obtain rfl := Option.some.inj (show some _ = some o from ho)
            have e12 : T[46]? = some (.slice (some ⟨r, 0, none⟩) 2 2) := hE 12 (by kernel_rfl)
            have e14 : T[48]? = some (.int .i64 0) := hE 14 (by kernel_rfl)
            clear hE hR hF
            refine stepV_run hB ?_
            go_simp
            all_goals omega
          · obtain rfl := Option.some.inj (show some _ = some o from ho)
            have e15 : T[49]? = some (.pointer (some ⟨r, 0, none⟩)) := hE 15 (by kernel_rfl)
            have hr := hR (by kernel_rfl)
            have d0 : V.cell? ⟨r, 0, none⟩ = some (.string ⟨#[]⟩) := cell_of_row _ r 0 _ _ _ hr
            clear hE hR hF
            refine stepV_run hB ?_
            go_simp
            all_goals omega
          · obtain rfl := Option.some.inj (show some _ = some o from ho)
            have e11 : T[45]? = some (.string (⟨#[91]⟩ ++ NK ++ OL ++ QV)) := hE 11 (by kernel_rfl)
            have e16 : T[50]? = some (.string ⟨#[]⟩) := hE 16 (by kernel_rfl)
            clear hE hR hF
            refine stepV_run hB ?_
            go_simp
            all_goals omega
          · obtain rfl := Option.some.inj (show some _ = some o from ho)
            have e17 : T[51]? = some (.string (⟨#[91]⟩ ++ NK ++ OL ++ QV ++ ⟨#[]⟩)) := hE 17 (by kernel_rfl)
            clear hE hR hF
            refine stepV_run hB ?_
            go_simp
            all_goals omega
          · obtain rfl := Option.some.inj (show some _ = some o from ho)
            have e18 : T[52]? = some (.string (⟨#[91]⟩ ++ NK ++ OL ++ QV ++ ⟨#[]⟩ ++ ⟨#[93]⟩)) := hE 18 (by kernel_rfl)
            clear hE hR hF
            refine stepV_run hB ?_
            go_simp
            all_goals omega
        · intro o ho T V hB hF K Q hK
          obtain rfl := Option.some.inj (show some _ = some o from ho)
          unfold Oper.wp
          go_simp
          exact hK _ (hB.next ((Below.refl _ _).alloc (Nat.le_refl _) _)) (heap_alloc_new V _)
        · intro r T V hs hF hB hv
          have h2 : T[2]? = some (.string (⟨#[91]⟩ ++ NK ++ OL ++ QV ++ ⟨#[]⟩ ++ ⟨#[93]⟩)) := hv 19 (by omega)
          go_wp2_with fail
          go_ret
          refine ⟨?_, hB.old⟩
          show Ending.returned (T.getD 2 undef) = _
          rw [Array.getD_eq_getD_getElem?, h2, HNK.out, HOL.out, HQV.out]
          show Ending.returned (.string (bOf [91] ++ bOf (namedL key) ++ bOf (opL op) ++ bOf (qtL val) ++ bOf [] ++ bOf [93])) = _
          rw [bOf_app, bOf_app, bOf_app, bOf_app, bOf_app]
          unfold simL attL
          simp [HO.out]
        · intro p hp
          simp only [List.mem_cons, List.not_mem_nil, or_false] at hp
          rcases hp with rfl
          rfl
        · exact HU.out.drew 1

      · go_wp2_with fail
        clear c0 c1 c2 c3 c4 c5 c6 a0 a4 a5 a6
        refine wp_region_any (by kernel_rfl) ?_
        refine wpAny_rowB (m := 20) (n := 105) (b := 12) (ds := [34, 35, 36, 37, 38, 39, 40, 41, 42, 43, 44, 45, 46, 47, 48, 49, 50, 51, 52, 2])
          (val := fun r k => [.pointer (some ⟨H, 2, none⟩), .string key, .string NK, .string (⟨#[91]⟩ ++ NK), .pointer (some ⟨H, 1, none⟩), .int .i64 op, .string OL, .string (⟨#[91]⟩ ++ NK ++ OL), .pointer (some ⟨H, 3, none⟩), .string val, .string QV, .string (⟨#[91]⟩ ++ NK ++ OL ++ QV), .slice (some ⟨r, 0, none⟩) 2 2, .pointer (some ⟨H, 6, none⟩), .int .i64 1, .pointer (some ⟨r, 1, none⟩), .string ⟨#[32, 105]⟩, .string (⟨#[91]⟩ ++ NK ++ OL ++ QV ++ ⟨#[32, 105]⟩), .string (⟨#[91]⟩ ++ NK ++ OL ++ QV ++ ⟨#[32, 105]⟩ ++ ⟨#[93]⟩), .string (⟨#[91]⟩ ++ NK ++ OL ++ QV ++ ⟨#[32, 105]⟩ ++ ⟨#[93]⟩)].getD k undef)
          (dep := fun k => decide (k = 12 ∨ k = 15)) (Base := fun V => BlkB H #[.int .i64 5, .int .i64 op, .string key, .string val, .int .i64 na, .int .i64 nb, .int .i64 1, .int .i64 sz] 25 w.heap.size w V)
          (Row := fun r V => V.heap[r]? = some (.cells #[.string ⟨#[]⟩, .string ⟨#[32, 105]⟩] 9 (0, 0)))
          (fs := [(1, .pointer (some ⟨H, 0, none⟩))]) (by kernel_rfl) ?_ ?_ ?_ ?_ rfl ?_ ?_
        · intro r r' k hk hd
          have : k = 0 ∨ k = 1 ∨ k = 2 ∨ k = 3 ∨ k = 4 ∨ k = 5 ∨ k = 6 ∨ k = 7 ∨ k = 8 ∨ k = 9 ∨ k = 10 ∨ k = 11 ∨ k = 12 ∨ k = 13 ∨ k = 14 ∨ k = 15 ∨ k = 16 ∨ k = 17 ∨ k = 18 ∨ k = 19 := by omega
          rcases this with rfl | rfl | rfl | rfl | rfl | rfl | rfl | rfl | rfl | rfl | rfl | rfl | rfl | rfl | rfl | rfl | rfl | rfl | rfl | rfl
          all_goals first | rfl | exact absurd hd (by decide)
        · intro k o hk ho hkb r T V hB hF hR hE
          have hT1 : T[1]? = some (.pointer (some ⟨H, 0, none⟩)) := hF (1, .pointer (some ⟨H, 0, none⟩)) (by simp)
          have d1 := hB.cell 1
          have d2 := hB.cell 2
          have d3 := hB.cell 3
          have d6 := hB.cell 6
          have : k = 0 ∨ k = 1 ∨ k = 2 ∨ k = 3 ∨ k = 4 ∨ k = 5 ∨ k = 6 ∨ k = 7 ∨ k = 8 ∨ k = 9 ∨ k = 10 ∨ k = 11 ∨ k = 12 ∨ k = 13 ∨ k = 14 ∨ k = 15 ∨ k = 16 ∨ k = 17 ∨ k = 18 ∨ k = 19 := by omega
          rcases this with rfl | rfl | rfl | rfl | rfl | rfl | rfl | rfl | rfl | rfl | rfl | rfl | rfl | rfl | rfl | rfl | rfl | rfl | rfl | rfl
          · obtain rfl := Option.some.inj (show some _ = some o from ho)
            clear hE hR hF
            refine stepV_run hB ?_
            go_simp
            all_goals omega
          · obtain rfl := Option.some.inj (show some _ = some o from ho)
            have e0 : T[34]? = some (.pointer (some ⟨H, 2, none⟩)) := hE 0 (by kernel_rfl)
            clear hE hR hF
            refine stepV_run hB ?_
            go_simp
            all_goals omega
          · obtain rfl := Option.some.inj (show some _ = some o from ho)
            have e1 : T[35]? = some (.string key) := hE 1 (by kernel_rfl)
            clear hE hR hF
            refine stepV_call (f := 33) (args := #[.string key]) (by go_simp) ?_
            exact (HNk.out _).mono (fun e w' hh => ⟨hh.1, by rw [← hh.2]; exact hB, fun r hr => by rw [← hh.2]; exact hr⟩)
          · obtain rfl := Option.some.inj (show some _ = some o from ho)
            have e2 : T[36]? = some (.string NK) := hE 2 (by kernel_rfl)
            clear hE hR hF
            refine stepV_run hB ?_
            go_simp
            all_goals omega
          · obtain rfl := Option.some.inj (show some _ = some o from ho)
            clear hE hR hF
            refine stepV_run hB ?_
            go_simp
            all_goals omega
          · obtain rfl := Option.some.inj (show some _ = some o from ho)
            have e4 : T[38]? = some (.pointer (some ⟨H, 1, none⟩)) := hE 4 (by kernel_rfl)
            clear hE hR hF
            refine stepV_run hB ?_
            go_simp
            all_goals omega
          · obtain rfl := Option.some.inj (show some _ = some o from ho)
            have e5 : T[39]? = some (.int .i64 op) := hE 5 (by kernel_rfl)
            clear hE hR hF
            refine stepV_call (f := 34) (args := #[.int .i64 op]) (by go_simp) ?_
            exact (HSg.out _).mono (fun e w' hh => ⟨hh.1, by rw [hh.2]; exact hB.next ((Below.refl _ _).alloc (Nat.le_refl _) _), fun r hr => by rw [hh.2]; exact (Below.heap_alloc _ _ _ (Array.getElem?_eq_some_iff.1 hr).1).trans hr⟩)
          · obtain rfl := Option.some.inj (show some _ = some o from ho)
            have e3 : T[37]? = some (.string (⟨#[91]⟩ ++ NK)) := hE 3 (by kernel_rfl)
            have e6 : T[40]? = some (.string OL) := hE 6 (by kernel_rfl)
            clear hE hR hF
            refine stepV_run hB ?_
            go_simp
            all_goals omega
          · obtain rfl := Option.some.inj (show some _ = some o from ho)
            clear hE hR hF
            refine stepV_run hB ?_
            go_simp
            all_goals omega
          · obtain rfl := Option.some.inj (show some _ = some o from ho)
            have e8 : T[42]? = some (.pointer (some ⟨H, 3, none⟩)) := hE 8 (by kernel_rfl)
            clear hE hR hF
            refine stepV_run hB ?_
            go_simp
            all_goals omega
          · obtain rfl := Option.some.inj (show some _ = some o from ho)
            have e9 : T[43]? = some (.string val) := hE 9 (by kernel_rfl)
            clear hE hR hF
            refine stepV_call (f := 35) (args := #[.string val]) (by go_simp) ?_
            exact (HQv.out _).mono (fun e w' hh => ⟨hh.1, by rw [← hh.2]; exact hB, fun r hr => by rw [← hh.2]; exact hr⟩)
          · obtain rfl := Option.some.inj (show some _ = some o from ho)
            have e7 : T[41]? = some (.string (⟨#[91]⟩ ++ NK ++ OL)) := hE 7 (by kernel_rfl)
            have e10 : T[44]? = some (.string QV) := hE 10 (by kernel_rfl)
            clear hE hR hF
            refine stepV_run hB ?_
            go_simp
            all_goals omega
          · exact absurd rfl hkb
          · obtain rfl := Option.some.inj (show some _ = some o from ho)
            clear hE hR hF
            refine stepV_run hB ?_
            go_simp
            all_goals omega
          · obtain rfl := Option.some.inj (show some _ = some o from ho)
            have e13 : T[47]? = some (.pointer (some ⟨H, 6, none⟩)) := hE 13 (by kernel_rfl)
            clear hE hR hF
            refine stepV_run hB ?_
            go_simp
            all_goals omega
          · obtain rfl := Option.some.inj (show some _ = some o from ho)
            have e12 : T[46]? = some (.slice (some ⟨r, 0, none⟩) 2 2) := hE 12 (by kernel_rfl)
            have e14 : T[48]? = some (.int .i64 1) := hE 14 (by kernel_rfl)
            clear hE hR hF
            refine stepV_run hB ?_
            go_simp
            all_goals omega
          · obtain rfl := Option.some.inj (show some _ = some o from ho)
            have e15 : T[49]? = some (.pointer (some ⟨r, 1, none⟩)) := hE 15 (by kernel_rfl)
            have hr := hR (by kernel_rfl)
            have d0 : V.cell? ⟨r, 1, none⟩ = some (.string ⟨#[32, 105]⟩) := cell_of_row _ r 1 _ _ _ hr
            clear hE hR hF
            refine stepV_run hB ?_
            go_simp
            all_goals omega
          · obtain rfl := Option.some.inj (show some _ = some o from ho)
            have e11 : T[45]? = some (.string (⟨#[91]⟩ ++ NK ++ OL ++ QV)) := hE 11 (by kernel_rfl)
            have e16 : T[50]? = some (.string ⟨#[32, 105]⟩) := hE 16 (by kernel_rfl)
            clear hE hR hF
            refine stepV_run hB ?_
            go_simp
            all_goals omega
          · obtain rfl := Option.some.inj (show some _ = some o from ho)
            have e17 : T[51]? = some (.string (⟨#[91]⟩ ++ NK ++ OL ++ QV ++ ⟨#[32, 105]⟩)) := hE 17 (by kernel_rfl)
            clear hE hR hF
            refine stepV_run hB ?_
            go_simp
            all_goals omega
          · obtain rfl := Option.some.inj (show some _ = some o from ho)
            have e18 : T[52]? = some (.string (⟨#[91]⟩ ++ NK ++ OL ++ QV ++ ⟨#[32, 105]⟩ ++ ⟨#[93]⟩)) := hE 18 (by kernel_rfl)
            clear hE hR hF
            refine stepV_run hB ?_
            go_simp
            all_goals omega
        · intro o ho T V hB hF K Q hK
          obtain rfl := Option.some.inj (show some _ = some o from ho)
          unfold Oper.wp
          go_simp
          exact hK _ (hB.next ((Below.refl _ _).alloc (Nat.le_refl _) _)) (heap_alloc_new V _)
        · intro r T V hs hF hB hv
          have h2 : T[2]? = some (.string (⟨#[91]⟩ ++ NK ++ OL ++ QV ++ ⟨#[32, 105]⟩ ++ ⟨#[93]⟩)) := hv 19 (by omega)
          go_wp2_with fail
          go_ret
          refine ⟨?_, hB.old⟩
          show Ending.returned (T.getD 2 undef) = _
          rw [Array.getD_eq_getD_getElem?, h2, HNK.out, HOL.out, HQV.out]
          show Ending.returned (.string (bOf [91] ++ bOf (namedL key) ++ bOf (opL op) ++ bOf (qtL val) ++ bOf [32, 105] ++ bOf [93])) = _
          rw [bOf_app, bOf_app, bOf_app, bOf_app, bOf_app]
          unfold simL attL
          simp [HO.out]
        · intro p hp
          simp only [List.mem_cons, List.not_mem_nil, or_false] at hp
          rcases hp with rfl
          rfl
        · exact HU.out.drew 1

  · obtain ⟨hf0, hf3⟩ := HFO.out.nth rfl
    obtain ⟨n1, n2, n3, n4⟩ := HFO.out.num
    have HCn : Hid (∀ V, Calls Tryz.prog 36 #[.int .i64 na, .int .i64 nb] V (StrP (bOf (cntL na nb)) V)) := fun V => counted_any na nb V n1 n2 n3 n4
    have hlc : (bOf (cntL na nb)).size ≤ 11 := by rw [bOf_size]; exact (cntL_len na nb).2
    obtain ⟨CN, hCN⟩ : ∃ CN, CN = bOf (cntL na nb) := ⟨_, rfl⟩
    rw [← hCN] at HCn hlc
    have HCN := Lib.hid hCN
    have hf0 : 0 ≤ fl := hf0
    have hf3 : fl ≤ 3 := hf3
    have hf : fl = 0 ∨ fl = 1 ∨ fl = 2 ∨ fl = 3 := by omega
    clear hCN hf0 hf3 n1 n2 n3 n4 HNk HNv HQv hlk hlv hlq HNK HNV HQV HFO HS
    rcases hf with rfl | rfl | rfl | rfl
    · go_wp2_with fail
      clear c0 c1 c2 c3 c4 c5 c6 a0 a4 a5 a6
      refine wp_region_any (by kernel_rfl) ?_
      refine wpAny_rowB (m := 15) (n := 105) (b := 0) (ds := [55, 56, 57, 58, 59, 60, 61, 62, 63, 64, 65, 66, 67, 68, 2])
        (val := fun r k => [.slice (some ⟨r, 0, none⟩) 4 4, .pointer (some ⟨H, 6, none⟩), .int .i64 0, .pointer (some ⟨r, 0, none⟩), .string ⟨#[99, 104, 105, 108, 100]⟩, .string (⟨#[58, 110, 116, 104, 45]⟩ ++ ⟨#[99, 104, 105, 108, 100]⟩), .string (⟨#[58, 110, 116, 104, 45]⟩ ++ ⟨#[99, 104, 105, 108, 100]⟩ ++ ⟨#[40]⟩), .pointer (some ⟨H, 4, none⟩), .int .i64 na, .pointer (some ⟨H, 5, none⟩), .int .i64 nb, .string CN, .string (⟨#[58, 110, 116, 104, 45]⟩ ++ ⟨#[99, 104, 105, 108, 100]⟩ ++ ⟨#[40]⟩ ++ CN), .string (⟨#[58, 110, 116, 104, 45]⟩ ++ ⟨#[99, 104, 105, 108, 100]⟩ ++ ⟨#[40]⟩ ++ CN ++ ⟨#[41]⟩), .string (⟨#[58, 110, 116, 104, 45]⟩ ++ ⟨#[99, 104, 105, 108, 100]⟩ ++ ⟨#[40]⟩ ++ CN ++ ⟨#[41]⟩)].getD k undef)
        (dep := fun k => decide (k = 0 ∨ k = 3)) (Base := fun V => BlkB H #[.int .i64 6, .int .i64 op, .string key, .string val, .int .i64 na, .int .i64 nb, .int .i64 0, .int .i64 sz] 25 w.heap.size w V)
        (Row := fun r V => V.heap[r]? = some (.cells #[.string ⟨#[99, 104, 105, 108, 100]⟩, .string ⟨#[108, 97, 115, 116, 45, 99, 104, 105, 108, 100]⟩, .string ⟨#[111, 102, 45, 116, 121, 112, 101]⟩, .string ⟨#[108, 97, 115, 116, 45, 111, 102, 45, 116, 121, 112, 101]⟩] 9 (0, 0)))
        (fs := [(1, .pointer (some ⟨H, 0, none⟩))]) (by kernel_rfl) ?_ ?_ ?_ ?_ rfl ?_ ?_
      · intro r r' k hk hd
        have : k = 0 ∨ k = 1 ∨ k = 2 ∨ k = 3 ∨ k = 4 ∨ k = 5 ∨ k = 6 ∨ k = 7 ∨ k = 8 ∨ k = 9 ∨ k = 10 ∨ k = 11 ∨ k = 12 ∨ k = 13 ∨ k = 14 := by omega
        rcases this with rfl | rfl | rfl | rfl | rfl | rfl | rfl | rfl | rfl | rfl | rfl | rfl | rfl | rfl | rfl
        all_goals first | rfl | exact absurd hd (by decide)
      · intro k o hk ho hkb r T V hB hF hR hE
        have hT1 : T[1]? = some (.pointer (some ⟨H, 0, none⟩)) := hF (1, .pointer (some ⟨H, 0, none⟩)) (by simp)
        have d4 := hB.cell 4
        have d5 := hB.cell 5
        have d6 := hB.cell 6
        have : k = 0 ∨ k = 1 ∨ k = 2 ∨ k = 3 ∨ k = 4 ∨ k = 5 ∨ k = 6 ∨ k = 7 ∨ k = 8 ∨ k = 9 ∨ k = 10 ∨ k = 11 ∨ k = 12 ∨ k = 13 ∨ k = 14 := by omega
        rcases this with rfl | rfl | rfl | rfl | rfl | rfl | rfl | rfl | rfl | rfl | rfl | rfl | rfl | rfl | rfl
        · exact absurd rfl hkb
        · obtain rfl := Option.some.inj (show some _ = some o from ho)
          clear hE hR hF
          refine stepV_run hB ?_
          go_simp
          all_goals omega
        · obtain rfl := Option.some.inj (show some _ = some o from ho)
          have e1 : T[56]? = some (.pointer (some ⟨H, 6, none⟩)) := hE 1 (by kernel_rfl)
          clear hE hR hF
          refine stepV_run hB ?_
          go_simp
          all_goals omega
        · obtain rfl := Option.some.inj (show some _ = some o from ho)
          have e0 : T[55]? = some (.slice (some ⟨r, 0, none⟩) 4 4) := hE 0 (by kernel_rfl)
          have e2 : T[57]? = some (.int .i64 0) := hE 2 (by kernel_rfl)
          clear hE hR hF
          refine stepV_run hB ?_
          go_simp
          all_goals omega
        · obtain rfl := Option.some.inj (show some _ = some o from ho)
          have e3 : T[58]? = some (.pointer (some ⟨r, 0, none⟩)) := hE 3 (by kernel_rfl)
          have hr := hR (by kernel_rfl)
          have d0 : V.cell? ⟨r, 0, none⟩ = some (.string ⟨#[99, 104, 105, 108, 100]⟩) := cell_of_row _ r 0 _ _ _ hr
          clear hE hR hF
          refine stepV_run hB ?_
          go_simp
          all_goals omega
        · obtain rfl := Option.some.inj (show some _ = some o from ho)
          have e4 : T[59]? = some (.string ⟨#[99, 104, 105, 108, 100]⟩) := hE 4 (by kernel_rfl)
          clear hE hR hF
          refine stepV_run hB ?_
          go_simp
          all_goals omega
        · obtain rfl := Option.some.inj (show some _ = some o from ho)
          have e5 : T[60]? = some (.string (⟨#[58, 110, 116, 104, 45]⟩ ++ ⟨#[99, 104, 105, 108, 100]⟩)) := hE 5 (by kernel_rfl)
          clear hE hR hF
          refine stepV_run hB ?_
          go_simp
          all_goals omega
        · obtain rfl := Option.some.inj (show some _ = some o from ho)
          clear hE hR hF
          refine stepV_run hB ?_
          go_simp
          all_goals omega
        · obtain rfl := Option.some.inj (show some _ = some o from ho)
          have e7 : T[62]? = some (.pointer (some ⟨H, 4, none⟩)) := hE 7 (by kernel_rfl)
          clear hE hR hF
          refine stepV_run hB ?_
          go_simp
          all_goals omega
        · obtain rfl := Option.some.inj (show some _ = some o from ho)
          clear hE hR hF
          refine stepV_run hB ?_
          go_simp
          all_goals omega
        · obtain rfl := Option.some.inj (show some _ = some o from ho)
          have e9 : T[64]? = some (.pointer (some ⟨H, 5, none⟩)) := hE 9 (by kernel_rfl)
          clear hE hR hF
          refine stepV_run hB ?_
          go_simp
          all_goals omega
        · obtain rfl := Option.some.inj (show some _ = some o from ho)
          have e8 : T[63]? = some (.int .i64 na) := hE 8 (by kernel_rfl)
          have e10 : T[65]? = some (.int .i64 nb) := hE 10 (by kernel_rfl)
          clear hE hR hF
          refine stepV_call (f := 36) (args := #[.int .i64 na, .int .i64 nb]) (by go_simp) ?_
          exact (HCn.out _).mono (fun e w' hh => ⟨hh.1, by rw [← hh.2]; exact hB, fun r hr => by rw [← hh.2]; exact hr⟩)
        · obtain rfl := Option.some.inj (show some _ = some o from ho)
          have e6 : T[61]? = some (.string (⟨#[58, 110, 116, 104, 45]⟩ ++ ⟨#[99, 104, 105, 108, 100]⟩ ++ ⟨#[40]⟩)) := hE 6 (by kernel_rfl)
          have e11 : T[66]? = some (.string CN) := hE 11 (by kernel_rfl)
          clear hE hR hF
          refine stepV_run hB ?_
          go_simp
          all_goals omega
        · obtain rfl := Option.some.inj (show some _ = some o from ho)
          have e12 : T[67]? = some (.string (⟨#[58, 110, 116, 104, 45]⟩ ++ ⟨#[99, 104, 105, 108, 100]⟩ ++ ⟨#[40]⟩ ++ CN)) := hE 12 (by kernel_rfl)
          clear hE hR hF
          refine stepV_run hB ?_
          go_simp
          all_goals omega
        · obtain rfl := Option.some.inj (show some _ = some o from ho)
          have e13 : T[68]? = some (.string (⟨#[58, 110, 116, 104, 45]⟩ ++ ⟨#[99, 104, 105, 108, 100]⟩ ++ ⟨#[40]⟩ ++ CN ++ ⟨#[41]⟩)) := hE 13 (by kernel_rfl)
          clear hE hR hF
          refine stepV_run hB ?_
          go_simp
          all_goals omega
      · intro o ho T V hB hF K Q hK
        obtain rfl := Option.some.inj (show some _ = some o from ho)
        unfold Oper.wp
        go_simp
        exact hK _ (hB.next ((Below.refl _ _).alloc (Nat.le_refl _) _)) (heap_alloc_new V _)
      · intro r T V hs hF hB hv
        have h2 : T[2]? = some (.string (⟨#[58, 110, 116, 104, 45]⟩ ++ ⟨#[99, 104, 105, 108, 100]⟩ ++ ⟨#[40]⟩ ++ CN ++ ⟨#[41]⟩)) := hv 14 (by omega)
        go_wp2_with fail
        go_ret
        refine ⟨?_, hB.old⟩
        show Ending.returned (T.getD 2 undef) = _
        rw [Array.getD_eq_getD_getElem?, h2, HCN.out]
        show Ending.returned (.string (bOf [58, 110, 116, 104, 45] ++ bOf [99, 104, 105, 108, 100] ++ bOf [40] ++ bOf (cntL na nb) ++ bOf [41])) = _
        rw [bOf_app, bOf_app, bOf_app, bOf_app]
        unfold simL
        simp [wdNth]
      · intro p hp
        simp only [List.mem_cons, List.not_mem_nil, or_false] at hp
        rcases hp with rfl
        rfl
      · exact HU.out.drew 1

    · go_wp2_with fail
      clear c0 c1 c2 c3 c4 c5 c6 a0 a4 a5 a6
      refine wp_region_any (by kernel_rfl) ?_
      refine wpAny_rowB (m := 15) (n := 105) (b := 0) (ds := [55, 56, 57, 58, 59, 60, 61, 62, 63, 64, 65, 66, 67, 68, 2])
        (val := fun r k => [.slice (some ⟨r, 0, none⟩) 4 4, .pointer (some ⟨H, 6, none⟩), .int .i64 1, .pointer (some ⟨r, 1, none⟩), .string ⟨#[108, 97, 115, 116, 45, 99, 104, 105, 108, 100]⟩, .string (⟨#[58, 110, 116, 104, 45]⟩ ++ ⟨#[108, 97, 115, 116, 45, 99, 104, 105, 108, 100]⟩), .string (⟨#[58, 110, 116, 104, 45]⟩ ++ ⟨#[108, 97, 115, 116, 45, 99, 104, 105, 108, 100]⟩ ++ ⟨#[40]⟩), .pointer (some ⟨H, 4, none⟩), .int .i64 na, .pointer (some ⟨H, 5, none⟩), .int .i64 nb, .string CN, .string (⟨#[58, 110, 116, 104, 45]⟩ ++ ⟨#[108, 97, 115, 116, 45, 99, 104, 105, 108, 100]⟩ ++ ⟨#[40]⟩ ++ CN), .string (⟨#[58, 110, 116, 104, 45]⟩ ++ ⟨#[108, 97, 115, 116, 45, 99, 104, 105, 108, 100]⟩ ++ ⟨#[40]⟩ ++ CN ++ ⟨#[41]⟩), .string (⟨#[58, 110, 116, 104, 45]⟩ ++ ⟨#[108, 97, 115, 116, 45, 99, 104, 105, 108, 100]⟩ ++ ⟨#[40]⟩ ++ CN ++ ⟨#[41]⟩)].getD k undef)
        (dep := fun k => decide (k = 0 ∨ k = 3)) (Base := fun V => BlkB H #[.int .i64 6, .int .i64 op, .string key, .string val, .int .i64 na, .int .i64 nb, .int .i64 1, .int .i64 sz] 25 w.heap.size w V)
        (Row := fun r V => V.heap[r]? = some (.cells #[.string ⟨#[99, 104, 105, 108, 100]⟩, .string ⟨#[108, 97, 115, 116, 45, 99, 104, 105, 108, 100]⟩, .string ⟨#[111, 102, 45, 116, 121, 112, 101]⟩, .string ⟨#[108, 97, 115, 116, 45, 111, 102, 45, 116, 121, 112, 101]⟩] 9 (0, 0)))
        (fs := [(1, .pointer (some ⟨H, 0, none⟩))]) (by kernel_rfl) ?_ ?_ ?_ ?_ rfl ?_ ?_
      · intro r r' k hk hd
        have : k = 0 ∨ k = 1 ∨ k = 2 ∨ k = 3 ∨ k = 4 ∨ k = 5 ∨ k = 6 ∨ k = 7 ∨ k = 8 ∨ k = 9 ∨ k = 10 ∨ k = 11 ∨ k = 12 ∨ k = 13 ∨ k = 14 := by omega
        rcases this with rfl | rfl | rfl | rfl | rfl | rfl | rfl | rfl | rfl | rfl | rfl | rfl | rfl | rfl | rfl
        all_goals first | rfl | exact absurd hd (by decide)
      · intro k o hk ho hkb r T V hB hF hR hE
        have hT1 : T[1]? = some (.pointer (some ⟨H, 0, none⟩)) := hF (1, .pointer (some ⟨H, 0, none⟩)) (by simp)
        have d4 := hB.cell 4
        have d5 := hB.cell 5
        have d6 := hB.cell 6
        have : k = 0 ∨ k = 1 ∨ k = 2 ∨ k = 3 ∨ k = 4 ∨ k = 5 ∨ k = 6 ∨ k = 7 ∨ k = 8 ∨ k = 9 ∨ k = 10 ∨ k = 11 ∨ k = 12 ∨ k = 13 ∨ k = 14 := by omega
        rcases this with rfl | rfl | rfl | rfl | rfl | rfl | rfl | rfl | rfl | rfl | rfl | rfl | rfl | rfl | rfl
        · exact absurd rfl hkb
        · obtain rfl := Option.some.inj (show some _ = some o from ho)
          clear hE hR hF
          refine stepV_run hB ?_
          go_simp
          all_goals omega
        · obtain rfl := Option.some.inj (show some _ = some o from ho)
          have e1 : T[56]? = some (.pointer (some ⟨H, 6, none⟩)) := hE 1 (by kernel_rfl)
          clear hE hR hF
          refine stepV_run hB ?_
          go_simp
          all_goals omega
        · obtain rfl := Option.some.inj (show some _ = some o from ho)
          have e0 : T[55]? = some (.slice (some ⟨r, 0, none⟩) 4 4) := hE 0 (by kernel_rfl)
          have e2 : T[57]? = some (.int .i64 1) := hE 2 (by kernel_rfl)
          clear hE hR hF
          refine stepV_run hB ?_
          go_simp
          all_goals omega
        · obtain rfl := Option.some.inj (show some _ = some o from ho)
          have e3 : T[58]? = some (.pointer (some ⟨r, 1, none⟩)) := hE 3 (by kernel_rfl)
          have hr := hR (by kernel_rfl)
          have d0 : V.cell? ⟨r, 1, none⟩ = some (.string ⟨#[108, 97, 115, 116, 45, 99, 104, 105, 108, 100]⟩) := cell_of_row _ r 1 _ _ _ hr
          clear hE hR hF
          refine stepV_run hB ?_
          go_simp
          all_goals omega
        · obtain rfl := Option.some.inj (show some _ = some o from ho)
          have e4 : T[59]? = some (.string ⟨#[108, 97, 115, 116, 45, 99, 104, 105, 108, 100]⟩) := hE 4 (by kernel_rfl)
          clear hE hR hF
          refine stepV_run hB ?_
          go_simp
          all_goals omega
        · obtain rfl := Option.some.inj (show some _ = some o from ho)
          have e5 : T[60]? = some (.string (⟨#[58, 110, 116, 104, 45]⟩ ++ ⟨#[108, 97, 115, 116, 45, 99, 104, 105, 108, 100]⟩)) := hE 5 (by kernel_rfl)
          clear hE hR hF
          refine stepV_run hB ?_
          go_simp
          all_goals omega
        · obtain rfl := Option.some.inj (show some _ = some o from ho)
          clear hE hR hF
          refine stepV_run hB ?_
          go_simp
          all_goals omega
        · obtain rfl := Option.some.inj (show some _ = some o from ho)
          have e7 : T[62]? = some (.pointer (some ⟨H, 4, none⟩)) := hE 7 (by kernel_rfl)
          clear hE hR hF
          refine stepV_run hB ?_
          go_simp
          all_goals omega
        · obtain rfl := Option.some.inj (show some _ = some o from ho)
          clear hE hR hF
          refine stepV_run hB ?_
          go_simp
          all_goals omega
        · obtain rfl := Option.some.inj (show some _ = some o from ho)
          have e9 : T[64]? = some (.pointer (some ⟨H, 5, none⟩)) := hE 9 (by kernel_rfl)
          clear hE hR hF
          refine stepV_run hB ?_
          go_simp
          all_goals omega
        · obtain rfl := Option.some.inj (show some _ = some o from ho)
          have e8 : T[63]? = some (.int .i64 na) := hE 8 (by kernel_rfl)
          have e10 : T[65]? = some (.int .i64 nb) := hE 10 (by kernel_rfl)
          clear hE hR hF
          refine stepV_call (f := 36) (args := #[.int .i64 na, .int .i64 nb]) (by go_simp) ?_
          exact (HCn.out _).mono (fun e w' hh => ⟨hh.1, by rw [← hh.2]; exact hB, fun r hr => by rw [← hh.2]; exact hr⟩)
        · obtain rfl := Option.some.inj (show some _ = some o from ho)
          have e6 : T[61]? = some (.string (⟨#[58, 110, 116, 104, 45]⟩ ++ ⟨#[108, 97, 115, 116, 45, 99, 104, 105, 108, 100]⟩ ++ ⟨#[40]⟩)) := hE 6 (by kernel_rfl)
          have e11 : T[66]? = some (.string CN) := hE 11 (by kernel_rfl)
          clear hE hR hF
          refine stepV_run hB ?_
          go_simp
          all_goals omega
        · obtain rfl := Option.some.inj (show some _ = some o from ho)
          have e12 : T[67]? = some (.string (⟨#[58, 110, 116, 104, 45]⟩ ++ ⟨#[108, 97, 115, 116, 45, 99, 104, 105, 108, 100]⟩ ++ ⟨#[40]⟩ ++ CN)) := hE 12 (by kernel_rfl)
          clear hE hR hF
          refine stepV_run hB ?_
          go_simp
          all_goals omega
        · obtain rfl := Option.some.inj (show some _ = some o from ho)
          have e13 : T[68]? = some (.string (⟨#[58, 110, 116, 104, 45]⟩ ++ ⟨#[108, 97, 115, 116, 45, 99, 104, 105, 108, 100]⟩ ++ ⟨#[40]⟩ ++ CN ++ ⟨#[41]⟩)) := hE 13 (by kernel_rfl)
          clear hE hR hF
          refine stepV_run hB ?_
          go_simp
          all_goals omega
      · intro o ho T V hB hF K Q hK
        obtain rfl := Option.some.inj (show some _ = some o from ho)
        unfold Oper.wp
        go_simp
        exact hK _ (hB.next ((Below.refl _ _).alloc (Nat.le_refl _) _)) (heap_alloc_new V _)
      · intro r T V hs hF hB hv
        have h2 : T[2]? = some (.string (⟨#[58, 110, 116, 104, 45]⟩ ++ ⟨#[108, 97, 115, 116, 45, 99, 104, 105, 108, 100]⟩ ++ ⟨#[40]⟩ ++ CN ++ ⟨#[41]⟩)) := hv 14 (by omega)
        go_wp2_with fail
        go_ret
        refine ⟨?_, hB.old⟩
        show Ending.returned (T.getD 2 undef) = _
        rw [Array.getD_eq_getD_getElem?, h2, HCN.out]
        show Ending.returned (.string (bOf [58, 110, 116, 104, 45] ++ bOf [108, 97, 115, 116, 45, 99, 104, 105, 108, 100] ++ bOf [40] ++ bOf (cntL na nb) ++ bOf [41])) = _
        rw [bOf_app, bOf_app, bOf_app, bOf_app]
        unfold simL
        simp [wdNth]
      · intro p hp
        simp only [List.mem_cons, List.not_mem_nil, or_false] at hp
        rcases hp with rfl
        rfl
      · exact HU.out.drew 1

    · go_wp2_with fail
      clear c0 c1 c2 c3 c4 c5 c6 a0 a4 a5 a6
      refine wp_region_any (by kernel_rfl) ?_
      refine wpAny_rowB (m := 15) (n := 105) (b := 0) (ds := [55, 56, 57, 58, 59, 60, 61, 62, 63, 64, 65, 66, 67, 68, 2])
        (val := fun r k => [.slice (some ⟨r, 0, none⟩) 4 4, .pointer (some ⟨H, 6, none⟩), .int .i64 2, .pointer (some ⟨r, 2, none⟩), .string ⟨#[111, 102, 45, 116, 121, 112, 101]⟩, .string (⟨#[58, 110, 116, 104, 45]⟩ ++ ⟨#[111, 102, 45, 116, 121, 112, 101]⟩), .string (⟨#[58, 110, 116, 104, 45]⟩ ++ ⟨#[111, 102, 45, 116, 121, 112, 101]⟩ ++ ⟨#[40]⟩), .pointer (some ⟨H, 4, none⟩), .int .i64 na, .pointer (some ⟨H, 5, none⟩), .int .i64 nb, .string CN, .string (⟨#[58, 110, 116, 104, 45]⟩ ++ ⟨#[111, 102, 45, 116, 121, 112, 101]⟩ ++ ⟨#[40]⟩ ++ CN), .string (⟨#[58, 110, 116, 104, 45]⟩ ++ ⟨#[111, 102, 45, 116, 121, 112, 101]⟩ ++ ⟨#[40]⟩ ++ CN ++ ⟨#[41]⟩), .string (⟨#[58, 110, 116, 104, 45]⟩ ++ ⟨#[111, 102, 45, 116, 121, 112, 101]⟩ ++ ⟨#[40]⟩ ++ CN ++ ⟨#[41]⟩)].getD k undef)
        (dep := fun k => decide (k = 0 ∨ k = 3)) (Base := fun V => BlkB H #[.int .i64 6, .int .i64 op, .string key, .string val, .int .i64 na, .int .i64 nb, .int .i64 2, .int .i64 sz] 25 w.heap.size w V)
        (Row := fun r V => V.heap[r]? = some (.cells #[.string ⟨#[99, 104, 105, 108, 100]⟩, .string ⟨#[108, 97, 115, 116, 45, 99, 104, 105, 108, 100]⟩, .string ⟨#[111, 102, 45, 116, 121, 112, 101]⟩, .string ⟨#[108, 97, 115, 116, 45, 111, 102, 45, 116, 121, 112, 101]⟩] 9 (0, 0)))
        (fs := [(1, .pointer (some ⟨H, 0, none⟩))]) (by kernel_rfl) ?_ ?_ ?_ ?_ rfl ?_ ?_
      · intro r r' k hk hd
        have : k = 0 ∨ k = 1 ∨ k = 2 ∨ k = 3 ∨ k = 4 ∨ k = 5 ∨ k = 6 ∨ k = 7 ∨ k = 8 ∨ k = 9 ∨ k = 10 ∨ k = 11 ∨ k = 12 ∨ k = 13 ∨ k = 14 := by omega
        rcases this with rfl | rfl | rfl | rfl | rfl | rfl | rfl | rfl | rfl | rfl | rfl | rfl | rfl | rfl | rfl
        all_goals first | rfl | exact absurd hd (by decide)
      · intro k o hk ho hkb r T V hB hF hR hE
        have hT1 : T[1]? = some (.pointer (some ⟨H, 0, none⟩)) := hF (1, .pointer (some ⟨H, 0, none⟩)) (by simp)
        have d4 := hB.cell 4
        have d5 := hB.cell 5
        have d6 := hB.cell 6
        have : k = 0 ∨ k = 1 ∨ k = 2 ∨ k = 3 ∨ k = 4 ∨ k = 5 ∨ k = 6 ∨ k = 7 ∨ k = 8 ∨ k = 9 ∨ k = 10 ∨ k = 11 ∨ k = 12 ∨ k = 13 ∨ k = 14 := by omega
        rcases this with rfl | rfl | rfl | rfl | rfl | rfl | rfl | rfl | rfl | rfl | rfl | rfl | rfl | rfl | rfl
        · exact absurd rfl hkb
        · obtain rfl := Option.some.inj (show some _ = some o from ho)
          clear hE hR hF
          refine stepV_run hB ?_
          go_simp
          all_goals omega
        · obtain rfl := Option.some.inj (show some _ = some o from ho)
          have e1 : T[56]? = some (.pointer (some ⟨H, 6, none⟩)) := hE 1 (by kernel_rfl)
          clear hE hR hF
          refine stepV_run hB ?_
          go_simp
          all_goals omega
        · obtain rfl := Option.some.inj (show some _ = some o from ho)
          have e0 : T[55]? = some (.slice (some ⟨r, 0, none⟩) 4 4) := hE 0 (by kernel_rfl)
          have e2 : T[57]? = some (.int .i64 2) := hE 2 (by kernel_rfl)
          clear hE hR hF
          refine stepV_run hB ?_
          go_simp
          all_goals omega
        · obtain rfl := Option.some.inj (show some _ = some o from ho)
          have e3 : T[58]? = some (.pointer (some ⟨r, 2, none⟩)) := hE 3 (by kernel_rfl)
          have hr := hR (by kernel_rfl)
          have d0 : V.cell? ⟨r, 2, none⟩ = some (.string ⟨#[111, 102, 45, 116, 121, 112, 101]⟩) := cell_of_row _ r 2 _ _ _ hr
          clear hE hR hF
          refine stepV_run hB ?_
          go_simp
          all_goals omega
        · obtain rfl := Option.some.inj (show some _ = some o from ho)
          have e4 : T[59]? = some (.string ⟨#[111, 102, 45, 116, 121, 112, 101]⟩) := hE 4 (by kernel_rfl)
          clear hE hR hF
          refine stepV_run hB ?_
          go_simp
          all_goals omega
        · obtain rfl := Option.some.inj (show some _ = some o from ho)
          have e5 : T[60]? = some (.string (⟨#[58, 110, 116, 104, 45]⟩ ++ ⟨#[111, 102, 45, 116, 121, 112, 101]⟩)) := hE 5 (by kernel_rfl)
          clear hE hR hF
          refine stepV_run hB ?_
          go_simp
          all_goals omega
        · obtain rfl := Option.some.inj (show some _ = some o from ho)
          clear hE hR hF
          refine stepV_run hB ?_
          go_simp
          all_goals omega
        · obtain rfl := Option.some.inj (show some _ = some o from ho)
          have e7 : T[62]? = some (.pointer (some ⟨H, 4, none⟩)) := hE 7 (by kernel_rfl)
          clear hE hR hF
          refine stepV_run hB ?_
          go_simp
          all_goals omega
        · obtain rfl := Option.some.inj (show some _ = some o from ho)
          clear hE hR hF
          refine stepV_run hB ?_
          go_simp
          all_goals omega
        · obtain rfl := Option.some.inj (show some _ = some o from ho)
          have e9 : T[64]? = some (.pointer (some ⟨H, 5, none⟩)) := hE 9 (by kernel_rfl)
          clear hE hR hF
          refine stepV_run hB ?_
          go_simp
          all_goals omega
        · obtain rfl := Option.some.inj (show some _ = some o from ho)
          have e8 : T[63]? = some (.int .i64 na) := hE 8 (by kernel_rfl)
          have e10 : T[65]? = some (.int .i64 nb) := hE 10 (by kernel_rfl)
          clear hE hR hF
          refine stepV_call (f := 36) (args := #[.int .i64 na, .int .i64 nb]) (by go_simp) ?_
          exact (HCn.out _).mono (fun e w' hh => ⟨hh.1, by rw [← hh.2]; exact hB, fun r hr => by rw [← hh.2]; exact hr⟩)
        · obtain rfl := Option.some.inj (show some _ = some o from ho)
          have e6 : T[61]? = some (.string (⟨#[58, 110, 116, 104, 45]⟩ ++ ⟨#[111, 102, 45, 116, 121, 112, 101]⟩ ++ ⟨#[40]⟩)) := hE 6 (by kernel_rfl)
          have e11 : T[66]? = some (.string CN) := hE 11 (by kernel_rfl)
          clear hE hR hF
          refine stepV_run hB ?_
          go_simp
          all_goals omega
        · obtain rfl := Option.some.inj (show some _ = some o from ho)
          have e12 : T[67]? = some (.string (⟨#[58, 110, 116, 104, 45]⟩ ++ ⟨#[111, 102, 45, 116, 121, 112, 101]⟩ ++ ⟨#[40]⟩ ++ CN)) := hE 12 (by kernel_rfl)
          clear hE hR hF
          refine stepV_run hB ?_
          go_simp
          all_goals omega
        · obtain rfl := Option.some.inj (show some _ = some o from ho)
          have e13 : T[68]? = some (.string (⟨#[58, 110, 116, 104, 45]⟩ ++ ⟨#[111, 102, 45, 116, 121, 112, 101]⟩ ++ ⟨#[40]⟩ ++ CN ++ ⟨#[41]⟩)) := hE 13 (by kernel_rfl)
          clear hE hR hF
          refine stepV_run hB ?_
          go_simp
          all_goals omega
      · intro o ho T V hB hF K Q hK
        obtain rfl := Option.some.inj (show some _ = some o from ho)
        unfold Oper.wp
        go_simp
        exact hK _ (hB.next ((Below.refl _ _).alloc (Nat.le_refl _) _)) (heap_alloc_new V _)
      · intro r T V hs hF hB hv
        have h2 : T[2]? = some (.string (⟨#[58, 110, 116, 104, 45]⟩ ++ ⟨#[111, 102, 45, 116, 121, 112, 101]⟩ ++ ⟨#[40]⟩ ++ CN ++ ⟨#[41]⟩)) := hv 14 (by omega)
        go_wp2_with fail
        go_ret
        refine ⟨?_, hB.old⟩
        show Ending.returned (T.getD 2 undef) = _
        rw [Array.getD_eq_getD_getElem?, h2, HCN.out]
        show Ending.returned (.string (bOf [58, 110, 116, 104, 45] ++ bOf [111, 102, 45, 116, 121, 112, 101] ++ bOf [40] ++ bOf (cntL na nb) ++ bOf [41])) = _
        rw [bOf_app, bOf_app, bOf_app, bOf_app]
        unfold simL
        simp [wdNth]
      · intro p hp
        simp only [List.mem_cons, List.not_mem_nil, or_false] at hp
        rcases hp with rfl
        rfl
      · exact HU.out.drew 1

    · go_wp2_with fail
      clear c0 c1 c2 c3 c4 c5 c6 a0 a4 a5 a6
      refine wp_region_any (by kernel_rfl) ?_
      refine wpAny_rowB (m := 15) (n := 105) (b := 0) (ds := [55, 56, 57, 58, 59, 60, 61, 62, 63, 64, 65, 66, 67, 68, 2])
        (val := fun r k => [.slice (some ⟨r, 0, none⟩) 4 4, .pointer (some ⟨H, 6, none⟩), .int .i64 3, .pointer (some ⟨r, 3, none⟩), .string ⟨#[108, 97, 115, 116, 45, 111, 102, 45, 116, 121, 112, 101]⟩, .string (⟨#[58, 110, 116, 104, 45]⟩ ++ ⟨#[108, 97, 115, 116, 45, 111, 102, 45, 116, 121, 112, 101]⟩), .string (⟨#[58, 110, 116, 104, 45]⟩ ++ ⟨#[108, 97, 115, 116, 45, 111, 102, 45, 116, 121, 112, 101]⟩ ++ ⟨#[40]⟩), .pointer (some ⟨H, 4, none⟩), .int .i64 na, .pointer (some ⟨H, 5, none⟩), .int .i64 nb, .string CN, .string (⟨#[58, 110, 116, 104, 45]⟩ ++ ⟨#[108, 97, 115, 116, 45, 111, 102, 45, 116, 121, 112, 101]⟩ ++ ⟨#[40]⟩ ++ CN), .string (⟨#[58, 110, 116, 104, 45]⟩ ++ ⟨#[108, 97, 115, 116, 45, 111, 102, 45, 116, 121, 112, 101]⟩ ++ ⟨#[40]⟩ ++ CN ++ ⟨#[41]⟩), .string (⟨#[58, 110, 116, 104, 45]⟩ ++ ⟨#[108, 97, 115, 116, 45, 111, 102, 45, 116, 121, 112, 101]⟩ ++ ⟨#[40]⟩ ++ CN ++ ⟨#[41]⟩)].getD k undef)
        (dep := fun k => decide (k = 0 ∨ k = 3)) (Base := fun V => BlkB H #[.int .i64 6, .int .i64 op, .string key, .string val, .int .i64 na, .int .i64 nb, .int .i64 3, .int .i64 sz] 25 w.heap.size w V)
        (Row := fun r V => V.heap[r]? = some (.cells #[.string ⟨#[99, 104, 105, 108, 100]⟩, .string ⟨#[108, 97, 115, 116, 45, 99, 104, 105, 108, 100]⟩, .string ⟨#[111, 102, 45, 116, 121, 112, 101]⟩, .string ⟨#[108, 97, 115, 116, 45, 111, 102, 45, 116, 121, 112, 101]⟩] 9 (0, 0)))
        (fs := [(1, .pointer (some ⟨H, 0, none⟩))]) (by kernel_rfl) ?_ ?_ ?_ ?_ rfl ?_ ?_
      · intro r r' k hk hd
        have : k = 0 ∨ k = 1 ∨ k = 2 ∨ k = 3 ∨ k = 4 ∨ k = 5 ∨ k = 6 ∨ k = 7 ∨ k = 8 ∨ k = 9 ∨ k = 10 ∨ k = 11 ∨ k = 12 ∨ k = 13 ∨ k = 14 := by omega
        rcases this with rfl | rfl | rfl | rfl | rfl | rfl | rfl | rfl | rfl | rfl | rfl | rfl | rfl | rfl | rfl
        all_goals first | rfl | exact absurd hd (by decide)
      · intro k o hk ho hkb r T V hB hF hR hE
        have hT1 : T[1]? = some (.pointer (some ⟨H, 0, none⟩)) := hF (1, .pointer (some ⟨H, 0, none⟩)) (by simp)
        have d4 := hB.cell 4
        have d5 := hB.cell 5
        have d6 := hB.cell 6
        have : k = 0 ∨ k = 1 ∨ k = 2 ∨ k = 3 ∨ k = 4 ∨ k = 5 ∨ k = 6 ∨ k = 7 ∨ k = 8 ∨ k = 9 ∨ k = 10 ∨ k = 11 ∨ k = 12 ∨ k = 13 ∨ k = 14 := by omega
        rcases this with rfl | rfl | rfl | rfl | rfl | rfl | rfl | rfl | rfl | rfl | rfl | rfl | rfl | rfl | rfl
        · exact absurd rfl hkb
        · obtain rfl := Option.some.inj (show some _ = some o from ho)
          clear hE hR hF
          refine stepV_run hB ?_
          go_simp
          all_goals omega
        · obtain rfl := Option.some.inj (show some _ = some o from ho)
          have e1 : T[56]? = some (.pointer (some ⟨H, 6, none⟩)) := hE 1 (by kernel_rfl)
          clear hE hR hF
          refine stepV_run hB ?_
          go_simp
          all_goals omega
        · obtain rfl := Option.some.inj (show some _ = some o from ho)
          have e0 : T[55]? = some (.slice (some ⟨r, 0, none⟩) 4 4) := hE 0 (by kernel_rfl)
          have e2 : T[57]? = some (.int .i64 3) := hE 2 (by kernel_rfl)
          clear hE hR hF
          refine stepV_run hB ?_
          go_simp
          all_goals omega
        · obtain rfl := Option.some.inj (show some _ = some o from ho)
          have e3 : T[58]? = some (.pointer (some ⟨r, 3, none⟩)) := hE 3 (by kernel_rfl)
          have hr := hR (by kernel_rfl)
          have d0 : V.cell? ⟨r, 3, none⟩ = some (.string ⟨#[108, 97, 115, 116, 45, 111, 102, 45, 116, 121, 112, 101]⟩) := cell_of_row _ r 3 _ _ _ hr
          clear hE hR hF
          refine stepV_run hB ?_
          go_simp
          all_goals omega
        · obtain rfl := Option.some.inj (show some _ = some o from ho)
          have e4 : T[59]? = some (.string ⟨#[108, 97, 115, 116, 45, 111, 102, 45, 116, 121, 112, 101]⟩) := hE 4 (by kernel_rfl)
          clear hE hR hF
          refine stepV_run hB ?_
          go_simp
          all_goals omega
        · obtain rfl := Option.some.inj (show some _ = some o from ho)
          have e5 : T[60]? = some (.string (⟨#[58, 110, 116, 104, 45]⟩ ++ ⟨#[108, 97, 115, 116, 45, 111, 102, 45, 116, 121, 112, 101]⟩)) := hE 5 (by kernel_rfl)
          clear hE hR hF
          refine stepV_run hB ?_
          go_simp
          all_goals omega
        · obtain rfl := Option.some.inj (show some _ = some o from ho)
          clear hE hR hF
          refine stepV_run hB ?_
          go_simp
          all_goals omega
        · obtain rfl := Option.some.inj (show some _ = some o from ho)
          have e7 : T[62]? = some (.pointer (some ⟨H, 4, none⟩)) := hE 7 (by kernel_rfl)
          clear hE hR hF
          refine stepV_run hB ?_
          go_simp
          all_goals omega
        · obtain rfl := Option.some.inj (show some _ = some o from ho)
          clear hE hR hF
          refine stepV_run hB ?_
          go_simp
          all_goals omega
        · obtain rfl := Option.some.inj (show some _ = some o from ho)
          have e9 : T[64]? = some (.pointer (some ⟨H, 5, none⟩)) := hE 9 (by kernel_rfl)
          clear hE hR hF
          refine stepV_run hB ?_
          go_simp
          all_goals omega
        · obtain rfl := Option.some.inj (show some _ = some o from ho)
          have e8 : T[63]? = some (.int .i64 na) := hE 8 (by kernel_rfl)
          have e10 : T[65]? = some (.int .i64 nb) := hE 10 (by kernel_rfl)
          clear hE hR hF
          refine stepV_call (f := 36) (args := #[.int .i64 na, .int .i64 nb]) (by go_simp) ?_
          exact (HCn.out _).mono (fun e w' hh => ⟨hh.1, by rw [← hh.2]; exact hB, fun r hr => by rw [← hh.2]; exact hr⟩)
        · obtain rfl := Option.some.inj (show some _ = some o from ho)
          have e6 : T[61]? = some (.string (⟨#[58, 110, 116, 104, 45]⟩ ++ ⟨#[108, 97, 115, 116, 45, 111, 102, 45, 116, 121, 112, 101]⟩ ++ ⟨#[40]⟩)) := hE 6 (by kernel_rfl)
          have e11 : T[66]? = some (.string CN) := hE 11 (by kernel_rfl)
          clear hE hR hF
          refine stepV_run hB ?_
          go_simp
          all_goals omega
        · obtain rfl := Option.some.inj (show some _ = some o from ho)
          have e12 : T[67]? = some (.string (⟨#[58, 110, 116, 104, 45]⟩ ++ ⟨#[108, 97, 115, 116, 45, 111, 102, 45, 116, 121, 112, 101]⟩ ++ ⟨#[40]⟩ ++ CN)) := hE 12 (by kernel_rfl)
          clear hE hR hF
          refine stepV_run hB ?_
          go_simp
          all_goals omega
        · obtain rfl := Option.some.inj (show some _ = some o from ho)
          have e13 : T[68]? = some (.string (⟨#[58, 110, 116, 104, 45]⟩ ++ ⟨#[108, 97, 115, 116, 45, 111, 102, 45, 116, 121, 112, 101]⟩ ++ ⟨#[40]⟩ ++ CN ++ ⟨#[41]⟩)) := hE 13 (by kernel_rfl)
          clear hE hR hF
          refine stepV_run hB ?_
          go_simp
          all_goals omega
      · intro o ho T V hB hF K Q hK
        obtain rfl := Option.some.inj (show some _ = some o from ho)
        unfold Oper.wp
        go_simp
        exact hK _ (hB.next ((Below.refl _ _).alloc (Nat.le_refl _) _)) (heap_alloc_new V _)
      · intro r T V hs hF hB hv
        have h2 : T[2]? = some (.string (⟨#[58, 110, 116, 104, 45]⟩ ++ ⟨#[108, 97, 115, 116, 45, 111, 102, 45, 116, 121, 112, 101]⟩ ++ ⟨#[40]⟩ ++ CN ++ ⟨#[41]⟩)) := hv 14 (by omega)
        go_wp2_with fail
        go_ret
        refine ⟨?_, hB.old⟩
        show Ending.returned (T.getD 2 undef) = _
        rw [Array.getD_eq_getD_getElem?, h2, HCN.out]
        show Ending.returned (.string (bOf [58, 110, 116, 104, 45] ++ bOf [108, 97, 115, 116, 45, 111, 102, 45, 116, 121, 112, 101] ++ bOf [40] ++ bOf (cntL na nb) ++ bOf [41])) = _
        rw [bOf_app, bOf_app, bOf_app, bOf_app]
        unfold simL
        simp [wdNth]
      · intro p hp
        simp only [List.mem_cons, List.not_mem_nil, or_false] at hp
        rcases hp with rfl
        rfl
      · exact HU.out.drew 1

  · have hfl := HFO.out.onl rfl
    rcases hfl with h | h
    · have h : fl = 0 := h
      subst h
      go_wp2_with fail
      go_ret
      exact ⟨rfl, HU.out.old.alloc (by have := HU.out.old.size; omega) _⟩
    · have h : fl = 2 := h
      subst h
      go_wp2_with fail
      go_ret
      exact ⟨rfl, HU.out.old.alloc (by have := HU.out.old.size; omega) _⟩
  · have h7 : kd = 8 ∨ kd = 9 ∨ kd = 10 ∨ kd = 11 ∨ kd = 12 ∨ kd = 13 ∨ kd = 14 := by omega
    clear h8
    rcases h7 with rfl | rfl | rfl | rfl | rfl | rfl | rfl
    all_goals
      go_wp2_with fail
      go_ret
      exact ⟨rfl, HU.out.old.alloc (by have := HU.out.old.size; omega) _⟩
  · go_wp2_with fail
    refine (HNv.out _).mono ?_
    rintro e1 w1 ⟨rfl, rfl⟩
    go_wp2_with fail
    go_ret
    exact ⟨by rw [HNV.out]; show Ending.returned (.string (bOf [58, 108, 97, 110, 103, 40] ++ bOf (namedL val) ++ bOf [41])) = _; rw [bOf_app, bOf_app]; rfl, HU.out.old⟩
  · go_wp2_with fail
    refine (HQv.out _).mono ?_
    rintro e1 w1 ⟨rfl, rfl⟩
    go_wp2_with fail
    go_ret
    exact ⟨by rw [HQV.out]; show Ending.returned (.string (bOf [58, 99, 111, 110, 116, 97, 105, 110, 115, 40] ++ bOf (qtL val) ++ bOf [41])) = _; rw [bOf_app, bOf_app]; rfl, HU.out.old⟩
  · go_wp2_with fail
    refine (HQv.out _).mono ?_
    rintro e1 w1 ⟨rfl, rfl⟩
    go_wp2_with fail
    go_ret
    exact ⟨by rw [HQV.out]; show Ending.returned (.string (bOf [58, 99, 111, 110, 116, 97, 105, 110, 115, 79, 119, 110, 40] ++ bOf (qtL val) ++ bOf [41])) = _; rw [bOf_app, bOf_app]; rfl, HU.out.old⟩
end Go.Proofs.YtnibpdmbccfgoaaGreatDoor
