/- The fields of a node (spec.selFields): all but the region in its middle, whose claim is handed on. -/
import Derived.Test.YtnibpdmbccfgoaaGreatDoorJ1
import Derived.Test.YtnibpdmbccfgoaaGreatDoorT419
import Derived.Test.YtnibpdmbccfgoaaGreatDoorJ10
import Derived.Deep.RegionWith
namespace Go.Proofs.YtnibpdmbccfgoaaGreatDoor
open Go.RowKit
set_option linter.unusedVariables false

/-- A claim that stands for itself. -/
structure Held (P : Prop) : Prop where
  out : P

set_option maxRecDepth 100000 in
set_option maxHeartbeats 8000000 in
noncomputable def selFieldsG : (P : Prop) ×' (Held P → ∀ (x : Sn) (w : World), SnR x → Fit6 x → Calls Tryz.prog 17 #[x.val8] w (TruB (FOk x) w)) := by
  apply PSigma.mk
  · intro h x w hr hf
    have HRk : Hid (∀ U, Calls Tryz.prog 25 #[.string x.key] U (RbP (rdb x.key) U)) := fun U => rdb_any x.key U hf.1
    have HRv : Hid (∀ U, Calls Tryz.prog 25 #[.string x.val] U (RbP (rdb x.val) U)) := fun U => rdb_any x.val U hf.2
    have HLo : Hid (∀ U, Calls Tryz.prog 26 #[.string x.key] U (fun e w' => e = .returned (.string (lowS x.key)) ∧ Below U.heap.size U w')) := fun U => specLower_any x.key U hf.1
    have hst := BlkB.made w w.heap.size (Nat.le_refl _) #[.int .i64 x.kind, .int .i64 x.op, .string x.key, .string x.val, .int .i64 x.a, .int .i64 x.b, .int .i64 x.flag, .int .i64 x.size] 25
    obtain ⟨kd, op, key, val, na, nb, fl, sz⟩ := x
    unfold Sn.val8
    dsimp only at HRk HRv HLo hst ⊢
    go_enter Tryz.func17, Tryz.ntmps17
    go_upto_region 1 with fail
    obtain ⟨H, hH⟩ : ∃ H, H = w.heap.size := ⟨_, rfl⟩
    refine wp_gen (R := fun U => BlkB H #[.int .i64 kd, .int .i64 op, .string key, .string val, .int .i64 na, .int .i64 nb, .int .i64 fl, .int .i64 sz] 25 w.heap.size w U) (by rw [hH]; exact hst) ?_
    intro U hU
    rw [← hH]
    clear hst hH
    have HU := Lib.hid hU
    have k2 := hU.cell 2
    have k3 := hU.cell 3
    clear hU
    go_cut [24] (fun v24 wx => (∃ bb, v24 = .bool bb) ∧ BlkB H #[.int .i64 kd, .int .i64 op, .string key, .string val, .int .i64 na, .int .i64 nb, .int .i64 fl, .int .i64 sz] 25 w.heap.size w wx)
    case first =>
      clear h
      as_aux_lemma =>
      cases b1 : rdb key
      · have HB1 := Lib.hid b1
        have HB2 := Lib.hid b1
        clear b1
        refine wp_region_quiet (C := fun w' => BlkB H #[.int .i64 kd, .int .i64 op, .string key, .string val, .int .i64 na, .int .i64 nb, .int .i64 fl, .int .i64 sz] 25 w.heap.size w w') (by kernel_rfl) (by kernel_rfl) (HU.out.drew 1) ?_
        dsimp only
        repeat
          (first
            | go_big_quiet_skip
            | (go_big_quiet_want; go_big_quiet_op; go_big_quiet_on)
            | (go_big_quiet_want
               apply Exists.intro
               refine ⟨fun w' hC => ?_, ?_⟩
               · have d0 := hC.cell 2
                 have d1 := hC.cell 3
                 clear hC
                 go_simp
                 first
                   | done
                   | rfl
                   | exact ⟨rfl, rfl⟩
               go_big_quiet_on
               (try simp only [Act.put, List.setIfInBounds_toArray, List.set_cons_zero, List.set_cons_succ]))
            | (go_big_quiet_want
               refine ⟨.bool false, fun w' hC => ?_, ?_⟩
               · go_simp
                 with_reducible refine (HRk.out w').mono ?_
                 exact (fun _ _ hh => ⟨hh.1.trans (by rw [HB1.out]), by rw [← hh.2]; exact hC⟩)
               go_big_quiet_on
               (try simp only [Act.put, List.setIfInBounds_toArray, List.set_cons_zero, List.set_cons_succ]))
            | (go_big_quiet_want
               refine ⟨.bool false, fun w' hC => ?_, ?_⟩
               · go_simp
                 with_reducible refine (HRv.out w').mono ?_
                 exact (fun _ _ hh => ⟨hh.1.trans (by rw [HB2.out]), by rw [← hh.2]; exact hC⟩)
               go_big_quiet_on
               (try simp only [Act.put, List.setIfInBounds_toArray, List.set_cons_zero, List.set_cons_succ]))
            | (go_big_quiet_want
               refine ⟨.string (lowS key), fun w' hC => ?_, ?_⟩
               · go_simp
                 with_reducible refine (HLo.out w').mono ?_
                 exact (fun _ _ hh => ⟨hh.1, hC.next hh.2⟩)
               go_big_quiet_on
               (try simp only [Act.put, List.setIfInBounds_toArray, List.set_cons_zero, List.set_cons_succ])))
        refine wpQuiet_nil ?_
        intro w' hC

        (try go_wp2_with fail)
        go_meet
        exact ⟨⟨_, rfl⟩, hC⟩
      · have HB1 := Lib.hid b1
        clear b1
        cases b2 : rdb val
        · have HB2 := Lib.hid b2
          clear b2
          refine wp_region_quiet (C := fun w' => BlkB H #[.int .i64 kd, .int .i64 op, .string key, .string val, .int .i64 na, .int .i64 nb, .int .i64 fl, .int .i64 sz] 25 w.heap.size w w') (by kernel_rfl) (by kernel_rfl) (HU.out.drew 1) ?_
          dsimp only
          repeat
            (first
              | go_big_quiet_skip
              | (go_big_quiet_want; go_big_quiet_op; go_big_quiet_on)
              | (go_big_quiet_want
                 apply Exists.intro
                 refine ⟨fun w' hC => ?_, ?_⟩
                 · have d0 := hC.cell 2
                   have d1 := hC.cell 3
                   clear hC
                   go_simp
                   first
                     | done
                     | rfl
                     | exact ⟨rfl, rfl⟩
                 go_big_quiet_on
                 (try simp only [Act.put, List.setIfInBounds_toArray, List.set_cons_zero, List.set_cons_succ]))
              | (go_big_quiet_want
                 refine ⟨.bool true, fun w' hC => ?_, ?_⟩
                 · go_simp
                   with_reducible refine (HRk.out w').mono ?_
                   exact (fun _ _ hh => ⟨hh.1.trans (by rw [HB1.out]), by rw [← hh.2]; exact hC⟩)
                 go_big_quiet_on
                 (try simp only [Act.put, List.setIfInBounds_toArray, List.set_cons_zero, List.set_cons_succ]))
              | (go_big_quiet_want
                 refine ⟨.bool false, fun w' hC => ?_, ?_⟩
                 · go_simp
                   with_reducible refine (HRv.out w').mono ?_
                   exact (fun _ _ hh => ⟨hh.1.trans (by rw [HB2.out]), by rw [← hh.2]; exact hC⟩)
                 go_big_quiet_on
                 (try simp only [Act.put, List.setIfInBounds_toArray, List.set_cons_zero, List.set_cons_succ]))
              | (go_big_quiet_want
                 refine ⟨.string (lowS key), fun w' hC => ?_, ?_⟩
                 · go_simp
                   with_reducible refine (HLo.out w').mono ?_
                   exact (fun _ _ hh => ⟨hh.1, hC.next hh.2⟩)
                 go_big_quiet_on
                 (try simp only [Act.put, List.setIfInBounds_toArray, List.set_cons_zero, List.set_cons_succ])))
          refine wpQuiet_nil ?_
          intro w' hC

          (try go_wp2_with fail)
          go_meet
          exact ⟨⟨_, rfl⟩, hC⟩
        · have HB2 := Lib.hid b2
          clear b2
          cases b3 : ((lowS key).toList == key.toList)
          · have m3 : ((lowS key).toList != key.toList) = true := by simp only [bne, b3]; rfl
            clear b3
            refine wp_region_quiet (C := fun w' => BlkB H #[.int .i64 kd, .int .i64 op, .string key, .string val, .int .i64 na, .int .i64 nb, .int .i64 fl, .int .i64 sz] 25 w.heap.size w w') (by kernel_rfl) (by kernel_rfl) (HU.out.drew 1) ?_
            dsimp only
            repeat
              (first
                | go_big_quiet_skip
                | (go_big_quiet_want; go_big_quiet_op; go_big_quiet_on)
                | (go_big_quiet_want
                   apply Exists.intro
                   refine ⟨fun w' hC => ?_, ?_⟩
                   · have d0 := hC.cell 2
                     have d1 := hC.cell 3
                     clear hC
                     go_simp
                     first
                       | done
                       | rfl
                       | exact ⟨rfl, rfl⟩
                   go_big_quiet_on
                   (try simp only [Act.put, List.setIfInBounds_toArray, List.set_cons_zero, List.set_cons_succ]))
                | (go_big_quiet_want
                   refine ⟨.bool true, fun w' hC => ?_, ?_⟩
                   · go_simp
                     with_reducible refine (HRk.out w').mono ?_
                     exact (fun _ _ hh => ⟨hh.1.trans (by rw [HB1.out]), by rw [← hh.2]; exact hC⟩)
                   go_big_quiet_on
                   (try simp only [Act.put, List.setIfInBounds_toArray, List.set_cons_zero, List.set_cons_succ]))
                | (go_big_quiet_want
                   refine ⟨.bool true, fun w' hC => ?_, ?_⟩
                   · go_simp
                     with_reducible refine (HRv.out w').mono ?_
                     exact (fun _ _ hh => ⟨hh.1.trans (by rw [HB2.out]), by rw [← hh.2]; exact hC⟩)
                   go_big_quiet_on
                   (try simp only [Act.put, List.setIfInBounds_toArray, List.set_cons_zero, List.set_cons_succ]))
                | (go_big_quiet_want
                   refine ⟨.string (lowS key), fun w' hC => ?_, ?_⟩
                   · go_simp
                     with_reducible refine (HLo.out w').mono ?_
                     exact (fun _ _ hh => ⟨hh.1, hC.next hh.2⟩)
                   go_big_quiet_on
                   (try simp only [Act.put, List.setIfInBounds_toArray, List.set_cons_zero, List.set_cons_succ])))
            refine wpQuiet_nil ?_
            intro w' hC

            (try go_wp2_with fail)
            go_meet
            exact ⟨⟨_, rfl⟩, hC⟩
          · have m3 : ((lowS key).toList != key.toList) = false := by simp only [bne, b3]; rfl
            clear b3
            refine wp_region_quiet (C := fun w' => BlkB H #[.int .i64 kd, .int .i64 op, .string key, .string val, .int .i64 na, .int .i64 nb, .int .i64 fl, .int .i64 sz] 25 w.heap.size w w') (by kernel_rfl) (by kernel_rfl) (HU.out.drew 1) ?_
            dsimp only
            repeat
              (first
                | go_big_quiet_skip
                | (go_big_quiet_want; go_big_quiet_op; go_big_quiet_on)
                | (go_big_quiet_want
                   apply Exists.intro
                   refine ⟨fun w' hC => ?_, ?_⟩
                   · have d0 := hC.cell 2
                     have d1 := hC.cell 3
                     clear hC
                     go_simp
                     first
                       | done
                       | rfl
                       | exact ⟨rfl, rfl⟩
                   go_big_quiet_on
                   (try simp only [Act.put, List.setIfInBounds_toArray, List.set_cons_zero, List.set_cons_succ]))
                | (go_big_quiet_want
                   refine ⟨.bool true, fun w' hC => ?_, ?_⟩
                   · go_simp
                     with_reducible refine (HRk.out w').mono ?_
                     exact (fun _ _ hh => ⟨hh.1.trans (by rw [HB1.out]), by rw [← hh.2]; exact hC⟩)
                   go_big_quiet_on
                   (try simp only [Act.put, List.setIfInBounds_toArray, List.set_cons_zero, List.set_cons_succ]))
                | (go_big_quiet_want
                   refine ⟨.bool true, fun w' hC => ?_, ?_⟩
                   · go_simp
                     with_reducible refine (HRv.out w').mono ?_
                     exact (fun _ _ hh => ⟨hh.1.trans (by rw [HB2.out]), by rw [← hh.2]; exact hC⟩)
                   go_big_quiet_on
                   (try simp only [Act.put, List.setIfInBounds_toArray, List.set_cons_zero, List.set_cons_succ]))
                | (go_big_quiet_want
                   refine ⟨.string (lowS key), fun w' hC => ?_, ?_⟩
                   · go_simp
                     with_reducible refine (HLo.out w').mono ?_
                     exact (fun _ _ hh => ⟨hh.1, hC.next hh.2⟩)
                   go_big_quiet_on
                   (try simp only [Act.put, List.setIfInBounds_toArray, List.set_cons_zero, List.set_cons_succ])))
            refine wpQuiet_nil ?_
            intro w' hC

            (try go_wp2_with fail)
            go_meet
            exact ⟨⟨_, rfl⟩, hC⟩
    case rest =>
      obtain ⟨⟨bb, rfl⟩, hB⟩ := hcut
      have HB0 := Lib.hid hB
      have c0 := hB.cell 0
      have c1 := hB.cell 1
      have c2 := hB.cell 2
      have c3 := hB.cell 3
      have c4 := hB.cell 4
      have c5 := hB.cell 5
      have c6 := hB.cell 6
      clear hB k2 k3 HRk HRv HLo HU hf
      cases bb
      case true =>
        go_wp2_with fail
        go_ret
        exact ⟨false, rfl, fun q => (by cases q), HB0.out.old⟩
      case false =>
        go_upto_region 3 with fail
        go_cut [3] (fun v3 wx => (∃ q, v3 = .bool q ∧ (kd = 2 ∨ kd = 5 → q = true)) ∧ wc = wx)
        case first =>
          clear h
          as_aux_lemma =>
          obtain ⟨b2, hb2⟩ : ∃ q, (kd == 2) = q := ⟨_, rfl⟩
          have Hb2 := Lib.hid hb2
          obtain ⟨b5, hb5⟩ : ∃ q, (kd == 5) = q := ⟨_, rfl⟩
          have Hb5 := Lib.hid hb5
          go_wp2_with fail
          all_goals go_meet
          all_goals exact ⟨⟨_, rfl, fun h => by have e2 := Hb2.out; have e5 := Hb5.out; clear Hb2 Hb5 HB0; rcases h with h | h <;> simp_all⟩, by trivial⟩
        case rest =>
          obtain ⟨⟨bk, rfl, hbk⟩, rfl⟩ := hcut
          have HBk := Lib.hid hbk
          clear hbk
          go_upto_region 4 with fail
          go_cut [4] (fun v4 wx => (∃ q, v4 = .bool q ∧ (kd = 3 ∨ kd = 4 ∨ kd = 15 → q = true)) ∧ wc = wx)
          case first =>
            clear h
            as_aux_lemma =>
            obtain ⟨b3, hb3⟩ : ∃ q, (kd == 3) = q := ⟨_, rfl⟩
            have Hb3 := Lib.hid hb3
            obtain ⟨b4, hb4⟩ : ∃ q, (kd == 4) = q := ⟨_, rfl⟩
            have Hb4 := Lib.hid hb4
            obtain ⟨b15, hb15⟩ : ∃ q, (kd == 15) = q := ⟨_, rfl⟩
            have Hb15 := Lib.hid hb15
            go_wp2_with fail
            all_goals go_meet
            all_goals exact ⟨⟨_, rfl, fun h => by have e3 := Hb3.out; have e4 := Hb4.out; have e15 := Hb15.out; clear Hb3 Hb4 Hb15 HB0; rcases h with h | h | h <;> simp_all⟩, by trivial⟩
          case rest =>
            obtain ⟨⟨bn, rfl, hbn⟩, rfl⟩ := hcut
            have HBn := Lib.hid hbn
            clear hbn
            go_upto_region 5 with fail
            go_cut [5] (fun v5 wx => (∃ q, v5 = .bool q ∧ (bn = true → q = true)) ∧ wc = wx)
            case first =>
              clear h
              as_aux_lemma =>
              obtain ⟨b5, hb5⟩ : ∃ q, (kd == 5) = q := ⟨_, rfl⟩
              have Hb5 := Lib.hid hb5
              obtain ⟨b16, hb16⟩ : ∃ q, (kd == 16) = q := ⟨_, rfl⟩
              have Hb16 := Lib.hid hb16
              obtain ⟨b17, hb17⟩ : ∃ q, (kd == 17) = q := ⟨_, rfl⟩
              have Hb17 := Lib.hid hb17
              obtain ⟨n1, hn1⟩ : ∃ q, (op != 1) = q := ⟨_, rfl⟩
              have Hn1 := Lib.hid hn1
              cases bn
              case true =>
                go_wp2_with fail
                go_meet
                exact ⟨⟨_, rfl, fun _ => rfl⟩, by trivial⟩
              case false =>
                cases b5
                case true =>
                  cases n1
                  case true =>
                    go_wp2_with fail
                    go_meet
                    exact ⟨⟨_, rfl, fun q => (by cases q)⟩, by trivial⟩
                  case false =>
                    cases b16
                    case true =>
                      go_wp2_with fail
                      go_meet
                      exact ⟨⟨_, rfl, fun q => (by cases q)⟩, by trivial⟩
                    case false =>
                      go_wp2_with fail
                      go_meet
                      exact ⟨⟨_, rfl, fun q => (by cases q)⟩, by trivial⟩
                case false =>
                  cases b16
                  case true =>
                    go_wp2_with fail
                    go_meet
                    exact ⟨⟨_, rfl, fun q => (by cases q)⟩, by trivial⟩
                  case false =>
                    go_wp2_with fail
                    go_meet
                    exact ⟨⟨_, rfl, fun q => (by cases q)⟩, by trivial⟩
            case rest =>
              obtain ⟨⟨bv, rfl, hbv⟩, rfl⟩ := hcut
              go_upto_region 6 with fail
              go_cut [99] (fun v99 wx => (∃ q, v99 = .bool q ∧ (q = false → (bk = true → key.toList.isEmpty = false) ∧ (bn = true → val.toList.isEmpty = false))) ∧ wc = wx)
              case first =>
                clear HBk HBn HB0 hr c1 c4 c5 c6
                rename_i K1 a1 K2 a2 J K3 a3 a4
                clear a1 a2
                revert w kd op key val na nb fl sz H wc bk bn bv
                revert u7 u8 u9 u10 u11 u12 u13 u14 u15 u16 u17 u18 u19 u20 u21 u22 u23 u24 u25 u26 u27 u28 u29 u30 u31 u32 u33 u34 u35 u36 u37 u38 u39 u40 u41 u42 u43 u44 u45 u46 u47 u48 u49 u50 u51 u52 u53 u54 u55 u56 u57 u58 u59 u60 u61 u62 u63 u64 u65 u66 u67 u68 u69 u70 u71 u72 u73 u74 u75 u76 u77 u78 u79 u80 u81 u82 u83 u84 u85 u86 u87 u88 u89 u90 u91 u92 u93 u94 u95 u96 u97 u98 u99 u100 u101 u102 u103 u104 u105 u106 u107 u108 u109 u110 u111 u112 u113 u114 u115 u116 u117 u118 u119 u120 u121 u122 u123 u124 u125 u126 u127 u128 u129 u130 u131 u132 u133 u134 u135 u138 u139 u140 u141 u142 u143 u144 u145 u146 u147 u148 u149 u150 u151 u152 u153 u154 u155 u156 u157 u158 u159 u160 u161 u162 u163 u164 u165 u166 u168 u169 u170 u171 u172 u173 u174 u175 u176 u177 u178 u179 u180 u181 u183 u184 u185 u186 u187 u188 u189 u190 u191 u192 u193 u194 u195 u196 u198 u199 u200 u201 u202 u203 u204 u205 u206 u207 u208 u209 u210 u211 u212 u213 u214 u215 u216 u217 u218 u219
                revert K1 J K3
                exact h.out
              case rest =>
                obtain ⟨⟨b6, rfl, h6⟩, rfl⟩ := hcut
                have H6 := Lib.hid h6
                clear h6
                cases b6
                case true =>
                  go_wp2_with fail
                  go_ret
                  exact ⟨false, rfl, fun q => (by cases q), HB0.out.old⟩
                case false =>
                  go_upto_region 9 with fail
                  go_cut [6, 134] (fun v6 v134 wx => (∃ q6, v6 = .bool q6) ∧ (∃ q, v134 = .bool q ∧ (q = false → -9999 ≤ na ∧ na ≤ 9999 ∧ -9999 ≤ nb ∧ nb ≤ 9999)) ∧ wc = wx)
                  case first =>
                    clear h
                    as_aux_lemma =>
                    obtain ⟨k6, hk6⟩ : ∃ q, (kd == 6) = q := ⟨_, rfl⟩
                    have Hk6 := Lib.hid hk6
                    obtain ⟨a0, ha0⟩ : ∃ q, (na != 0) = q := ⟨_, rfl⟩
                    have Ha0 := Lib.hid ha0
                    obtain ⟨b0, hb0⟩ : ∃ q, (nb != 0) = q := ⟨_, rfl⟩
                    have Hb0 := Lib.hid hb0
                    go_wp2_with fail
                    all_goals go_meet
                    all_goals refine ⟨⟨_, rfl⟩, ⟨_, rfl, fun h => ?_⟩, by trivial⟩
                    all_goals first
                      | (cases h; done)
                      | (simp at h; omega)
                      | omega
                  case rest =>
                    obtain ⟨⟨q6, rfl⟩, ⟨b9, rfl, h9⟩, rfl⟩ := hcut
                    have H9 := Lib.hid h9
                    clear h9
                    cases b9
                    case true =>
                      go_wp2_with fail
                      go_ret
                      exact ⟨false, rfl, fun q => (by cases q), HB0.out.old⟩
                    case false =>
                      clear h
                      as_aux_lemma =>
                      have HF : Hid ((kd = 5 → 1 ≤ op ∧ op ≤ 8 ∧ (fl = 0 ∨ fl = 1)) → (kd = 22 → 1 ≤ op ∧ op ≤ 4) → (kd = 6 → 0 ≤ fl ∧ fl ≤ 3) → (kd = 7 → fl = 0 ∨ fl = 2) → FOk ⟨kd, op, key, val, na, nb, fl, sz⟩) := fun h5 h22 h6 h7 =>
                        ⟨fun q => by
                            have := (H6.out rfl).1 (HBk.out q)
                            rcases Nat.eq_zero_or_pos key.size with z | z
                            · rw [empty_len.2 z] at this; cases this
                            · exact z, fun q => by
                            have := (H6.out rfl).2 (HBn.out q)
                            rcases Nat.eq_zero_or_pos val.size with z | z
                            · rw [empty_len.2 z] at this; cases this
                            · exact z, h5, h22, h6, H9.out rfl, h7⟩
                      clear HBk HBn H6 H9
                      obtain ⟨b5, hb5⟩ : ∃ q, (kd == 5) = q := ⟨_, rfl⟩
                      have Hb5 := Lib.hid hb5
                      obtain ⟨b22, hb22⟩ : ∃ q, (kd == 22) = q := ⟨_, rfl⟩
                      have Hb22 := Lib.hid hb22
                      obtain ⟨b6, hb6⟩ : ∃ q, (kd == 6) = q := ⟨_, rfl⟩
                      have Hb6 := Lib.hid hb6
                      obtain ⟨b7, hb7⟩ : ∃ q, (kd == 7) = q := ⟨_, rfl⟩
                      have Hb7 := Lib.hid hb7
                      obtain ⟨o0, ho0⟩ : ∃ q, (op == 0) = q := ⟨_, rfl⟩
                      have Ho0 := Lib.hid ho0
                      obtain ⟨n1, hn1⟩ : ∃ q, (op != 1) = q := ⟨_, rfl⟩
                      have Hn1 := Lib.hid hn1
                      obtain ⟨f0, hf0⟩ : ∃ q, (fl == 0) = q := ⟨_, rfl⟩
                      have Hf0 := Lib.hid hf0
                      obtain ⟨f2, hf2⟩ : ∃ q, (fl == 2) = q := ⟨_, rfl⟩
                      have Hf2 := Lib.hid hf2
                      go_wp2_with fail
                      all_goals go_ret
                      all_goals refine ⟨_, rfl, fun q => ?_, HB0.out.old⟩
                      all_goals first
                        | (cases q; done)
                        | (have e5 := Hb5.out; have e22 := Hb22.out; have e6 := Hb6.out; have e7 := Hb7.out; have eo := Ho0.out; have en := Hn1.out; have ef := Hf0.out; have e2 := Hf2.out
                           (try rw [show b5 = true by assumption] at e5)
                           (try rw [show b5 = false by assumption] at e5)
                           (try rw [show b22 = true by assumption] at e22)
                           (try rw [show b22 = false by assumption] at e22)
                           (try rw [show b6 = true by assumption] at e6)
                           (try rw [show b6 = false by assumption] at e6)
                           (try rw [show b7 = true by assumption] at e7)
                           (try rw [show b7 = false by assumption] at e7)
                           (try rw [show o0 = true by assumption] at eo)
                           (try rw [show f0 = true by assumption] at ef)
                           (try rw [show f2 = true by assumption] at e2)
                           refine HF.out (fun h => ?_) (fun h => ?_) (fun h => ?_) (fun h => ?_) <;> (simp at e5 e22 e6 e7 eo en ef e2 q; omega))
end Go.Proofs.YtnibpdmbccfgoaaGreatDoor
