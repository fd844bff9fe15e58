/- spec.ReadNth: the walk. -/
import Derived.Test.YtkdfdfhejibopaaDoorT427
import Derived.Test.YtkdfdfhejibopaaDoorT407
import Derived.Test.YtkdfdfhejibopaaDoorT419
namespace Go.Proofs.YtkdfdfhejibopaaDoor
open Go.RowKit
set_option linter.unusedVariables false

theorem results_tmp5 {fn : Func} {t u v x y : Tmp} (h : fn.results = #[.tmp t, .tmp u, .tmp v, .tmp x, .tmp y]) (tmps : Array Value) (P : Program) (w : World) :
    (results fn tmps).run P w = .ok (.tuple #[tmps.getD t undef, tmps.getD u undef, tmps.getD v undef, tmps.getD x undef, tmps.getD y undef]) w := by
  simp [results, h]

theorem lowS_size (s : ByteArray) : (lowS s).size = s.size := by
  show (s.data.toList.map Lib.lowerB).toArray.size = s.data.size
  rw [List.size_toArray, List.length_map, Array.length_toList]

/-- Whether a word with more letters stands at the beginning. -/
def moreB (L : ByteArray) : Bool := decide (2 < L.size ∧ L.extract 0 3 = oddT ∨ 3 < L.size ∧ L.extract 0 4 = evenT)
/-- What may stand last where a sign is without a number. -/
def sgB (c : Nat) : Bool := decide (c = 43 ∨ c = 45 ∨ isWs c = true ∨ c = 47)
/-- What the reference says of a+b: where it is sure. -/
def RnF (s : ByteArray) (a b : Int) (k : Nat) (ok : Bool) : Prop :=
  ∃ (a0 b0 : Int) (bd : Bool), CntS s a0 b0 k bd ∧ (bd = true → a = 0 ∧ b = 0) ∧ (bd = false → a = a0 ∧ b = b0) ∧ (k = 0 → moreB (lowS s) = false) ∧
    (bd = true → 0 < k → sgB (bAt s (k - 1)) = true → ¬ HasN (lowS s)) ∧
    (ok = true ↔ bd = false ∧ (k = s.size → 0 < k → lowS s ≠ oddT → lowS s ≠ evenT → HasN (lowS s) ∧ isDg (bAt s (k - 1)) = true))
def RnP (s : ByteArray) (w : World) (e : Ending) (w' : World) : Prop :=
  ∃ (a b : Int) (k : Nat) (ok sure : Bool), e = .returned (.tuple #[.int .i64 a, .int .i64 b, .int .i64 (k : Int), .bool ok, .bool sure]) ∧ Below w.heap.size w w' ∧ (sure = true → RnF s a b k ok)

set_option maxRecDepth 100000 in
set_option maxHeartbeats 8000000 in
theorem sReadNth_any (s : ByteArray) (w : World) (hs : s.size ≤ 1000) : Calls Tryd.prog 11 #[.string s] w (RnP s w) := by
  have HR := Lib.hid (RdB.made s w)
  have HRd : Hid (∀ U, Calls Tryd.prog 14 #[.string s] U (RbP (rdb s) U)) := fun U => rdb_any s U (by omega)
  have HC := Lib.hid (count_any s w.heap.size w.heap.size w _ hs HR.out)
  obtain ⟨L, hL⟩ : ∃ L, L = lowS s := ⟨_, rfl⟩
  have HLo := Lib.hid (fun U => specLower_any s U (by omega))
  have hLs : L.size = s.size := by rw [hL, lowS_size]
  rw [← hL] at HLo
  have eO : oddT.toList = [111, 100, 100] := by rw [ByteArray.toList_eq]; rfl
  have eE : evenT.toList = [101, 118, 101, 110] := by rw [ByteArray.toList_eq]; rfl
  have HEO := Lib.hid eO
  have HEE := Lib.hid eE
  clear eO eE
  have HSn := Lib.hid (fun U => someN_any L U (by omega))
  have HL := Lib.hid hL
  have HLs := Lib.hid hLs
  clear hL hLs
  go_enter Tryd.func11, Tryd.ntmps11
  go_upto_region 3 with fail
  refine HC.out.mono ?_
  rintro e1 w1 ⟨a, b, k, bd, u, rfl, hr, hk, ha1, ha2, hb1, hb2, hcnt⟩
  have HR1 := Lib.hid hr
  have HX := Lib.hid hcnt
  clear hr hcnt
  go_upto_region 4 with fail
  refine (HLo.out _).mono ?_
  rintro e1 w2 ⟨rfl, hb⟩
  have HR2 := Lib.hid (HR1.out.next hb)
  have c1 := HR2.out.rd.at_
  have c2 := HR2.out.c2
  clear hb
  go_upto_region 4 with fail
  obtain ⟨wo, rfl⟩ : ∃ wo : World, wo = w2 := ⟨_, rfl⟩
  go_cut [9] (fun v wx => v = .bool (decide (k = 0) && moreB L) ∧ wo = wx)
  case first =>
    as_aux_lemma =>
    by_cases h0 : k = 0
    · have m0 : ((k : Int) == 0) = true := beq_iff_eq.2 (by omega)
      have HV0 : Hid ((decide (k = 0) && moreB L) = moreB L) := by rw [Hid, decide_eq_true h0, Bool.true_and]
      clear h0
      by_cases q1 : 2 < L.size
      · have m1 : decide ((2 : Int) < (L.size : Int)) = true := decide_eq_true (by omega)
        by_cases q2 : L.extract 0 3 = oddT
        · have m2 : ((L.extract 0 3).toList == oddT.toList) = true := by rw [tl_beq]; exact decide_eq_true q2
          have HV : Hid ((decide (k = 0) && moreB L) = true) := by rw [Hid, HV0.out]; exact decide_eq_true (.inl ⟨q1, q2⟩)
          rw [HEO.out] at m2
          clear q2
          go_wp2_with fail
          go_meet
          exact ⟨by rw [HV.out], by trivial⟩
        · have m2 : ((L.extract 0 3).toList == oddT.toList) = false := by rw [tl_beq]; exact decide_eq_false q2
          rw [HEO.out] at m2
          by_cases q3 : 3 < L.size
          · have m3 : decide ((3 : Int) < (L.size : Int)) = true := decide_eq_true (by omega)
            have HV : Hid ((decide (k = 0) && moreB L) = ((L.extract 0 4).toList == evenT.toList)) := by
              rw [Hid, HV0.out, tl_beq]; exact decide_eq_decide.2 ⟨fun h => by rcases h with h | h; exact absurd h.2 q2; exact h.2, fun h => .inr ⟨q3, h⟩⟩
            obtain ⟨b4, hb4⟩ : ∃ b4, b4 = ((L.extract 0 4).toList == evenT.toList) := ⟨_, rfl⟩
            rw [← hb4] at HV
            have m4 := hb4.symm
            rw [HEE.out] at m4
            clear hb4 q2
            go_wp2_with fail
            go_meet
            exact ⟨by rw [HV.out], by trivial⟩
          · have m3 : decide ((3 : Int) < (L.size : Int)) = false := decide_eq_false (by omega)
            have HV : Hid ((decide (k = 0) && moreB L) = false) := by
              rw [Hid, HV0.out]; exact decide_eq_false (fun h => by rcases h with h | h; exact q2 h.2; exact q3 h.1)
            clear q2
            go_wp2_with fail
            go_meet
            exact ⟨by rw [HV.out], by trivial⟩
      · have m1 : decide ((2 : Int) < (L.size : Int)) = false := decide_eq_false (by omega)
        have m3 : decide ((3 : Int) < (L.size : Int)) = false := decide_eq_false (by omega)
        have HV : Hid ((decide (k = 0) && moreB L) = false) := by
          rw [Hid, HV0.out]; exact decide_eq_false (fun h => by rcases h with h | h; exact q1 h.1; exact absurd h.1 (by omega))
        go_wp2_with fail
        go_meet
        exact ⟨by rw [HV.out], by trivial⟩
    · have m0 : ((k : Int) == 0) = false := beq_eq_false_iff_ne.2 (by omega)
      have HV : Hid ((decide (k = 0) && moreB L) = false) := by rw [Hid, decide_eq_false h0, Bool.false_and]
      clear h0
      go_wp2_with fail
      go_meet
      exact ⟨by rw [HV.out], by trivial⟩
  case rest =>
    obtain ⟨rfl, rfl⟩ := hcut
    obtain ⟨mo, hmo⟩ : ∃ mo, mo = (decide (k = 0) && moreB L) := ⟨_, rfl⟩
    rw [← hmo]
    have HMo := Lib.hid hmo
    clear hmo
    have HCh : Hid (∀ (c : Nat), c < 256 → ∀ U, Calls Tryd.prog 22 #[.int .u8 (c : Int)] U (EscNum (.bool (isWs c)) U)) := fun c hc U => isSpace_any c hc U
    go_upto_region 5 with fail
    go_cut [10] (fun v wx => ∃ sg, v = .bool sg ∧ (sg = false → bd = true → 0 < k → sgB (bAt s (k - 1)) = true → ¬ HasN L) ∧ wo = wx)
    case first =>
      cases bd
      · go_wp2_with fail
        go_meet
        exact ⟨false, rfl, (fun _ h => by cases h), by trivial⟩
      · by_cases h0 : 0 < k
        · have m0 : decide ((0 : Int) < (k : Int)) = true := decide_eq_true (by omega)
          have hw : IntKind.i64.wrap ((k : Int) - 1) = ((k - 1 : Nat) : Int) := by
            have := IntWalk.i64_in ((k : Int) - 1) ⟨by omega, by omega⟩
            rw [this]; omega
          have hlt : k - 1 < s.size := by omega
          have hb := bAt_in hlt
          have HCb : Hid (bAt s (k - 1) = s[k - 1].toNat) := hb
          obtain ⟨bw, hbw⟩ : ∃ bw, bw = isWs s[k - 1].toNat := ⟨_, rfl⟩
          have HW2 : Hid (∀ U, Calls Tryd.prog 22 #[.int .u8 (s[k - 1].toNat : Int)] U (EscNum (.bool bw) U)) := fun U => by
            rw [hbw, ← hb]; exact HCh.out (bAt s (k - 1)) (bAt_lt _ _) U
          have HBw := Lib.hid hbw
          clear hb hbw
          by_cases h43 : s[k - 1].toNat = 43
          · have m43 : ((s[k - 1].toNat : Int) == 43) = true := beq_iff_eq.2 (by omega)
            clear h43
            go_wp2_with fail
            refine (HSn.out _).mono ?_
            rintro e1 w3 ⟨bn, rfl, hbn, rfl⟩
            have HB := Lib.hid hbn
            clear hbn
            go_wp2_with fail
            go_meet
            exact ⟨bn, rfl, (fun h _ _ _ hn => by rw [HB.out.2 hn] at h; cases h), by trivial⟩
          by_cases h45 : s[k - 1].toNat = 45
          · have m43 : ((s[k - 1].toNat : Int) == 43) = false := beq_eq_false_iff_ne.2 (by omega)
            have m45 : ((s[k - 1].toNat : Int) == 45) = true := beq_iff_eq.2 (by omega)
            clear h43 h45
            go_wp2_with fail
            refine (HSn.out _).mono ?_
            rintro e1 w3 ⟨bn, rfl, hbn, rfl⟩
            have HB := Lib.hid hbn
            clear hbn
            go_wp2_with fail
            go_meet
            exact ⟨bn, rfl, (fun h _ _ _ hn => by rw [HB.out.2 hn] at h; cases h), by trivial⟩
          have m43 : ((s[k - 1].toNat : Int) == 43) = false := beq_eq_false_iff_ne.2 (by omega)
          have m45 : ((s[k - 1].toNat : Int) == 45) = false := beq_eq_false_iff_ne.2 (by omega)
          cases bw
          · by_cases h47 : s[k - 1].toNat = 47
            · have m47 : ((s[k - 1].toNat : Int) == 47) = true := beq_iff_eq.2 (by omega)
              clear h43 h45 h47
              go_wp2_with fail
              refine (HW2.out _).mono ?_
              rintro e1 w3 ⟨rfl, rfl⟩
              go_wp2_with fail
              refine (HSn.out _).mono ?_
              rintro e1 w3 ⟨bn, rfl, hbn, rfl⟩
              have HB := Lib.hid hbn
              clear hbn
              go_wp2_with fail
              go_meet
              exact ⟨bn, rfl, (fun h _ _ _ hn => by rw [HB.out.2 hn] at h; cases h), by trivial⟩
            · have m47 : ((s[k - 1].toNat : Int) == 47) = false := beq_eq_false_iff_ne.2 (by omega)
              have HV : Hid (sgB (bAt s (k - 1)) = false) := by
                rw [Hid, HCb.out]; unfold sgB; rw [← HBw.out]; exact decide_eq_false (by simp; omega)
              clear h43 h45 h47
              go_wp2_with fail
              refine (HW2.out _).mono ?_
              rintro e1 w3 ⟨rfl, rfl⟩
              go_wp2_with fail
              go_meet
              exact ⟨false, rfl, (fun _ _ _ h => by rw [HV.out] at h; cases h), by trivial⟩
          · clear h43 h45
            go_wp2_with fail
            refine (HW2.out _).mono ?_
            rintro e1 w3 ⟨rfl, rfl⟩
            go_wp2_with fail
            refine (HSn.out _).mono ?_
            rintro e1 w3 ⟨bn, rfl, hbn, rfl⟩
            have HB := Lib.hid hbn
            clear hbn
            go_wp2_with fail
            go_meet
            exact ⟨bn, rfl, (fun h _ _ _ hn => by rw [HB.out.2 hn] at h; cases h), by trivial⟩
        · have m0 : decide ((0 : Int) < (k : Int)) = false := decide_eq_false (by omega)
          go_wp2_with fail
          go_meet
          exact ⟨false, rfl, (fun _ _ h => absurd h h0), by trivial⟩
    case rest =>
      obtain ⟨sg, rfl, hsg, rfl⟩ := hcut
      have HSg := Lib.hid hsg
      clear hsg
      go_upto_if 104 with fail
      go_cut [2, 3] (fun v2 v3 wx => ∃ a' b' : Int, v2 = .int .i64 a' ∧ v3 = .int .i64 b' ∧ (bd = true → a' = 0 ∧ b' = 0) ∧ (bd = false → a' = a ∧ b' = b) ∧ wo = wx)
      case first =>
        cases bd
        · go_wp2_with fail
          go_meet
          exact ⟨a, b, rfl, rfl, (fun h => by cases h), (fun _ => ⟨rfl, rfl⟩), by trivial⟩
        · go_wp2_with fail
          go_meet
          exact ⟨0, 0, rfl, rfl, (fun _ => ⟨rfl, rfl⟩), (fun h => by cases h), by trivial⟩
      case rest =>
        obtain ⟨a', b', rfl, rfl, hab1, hab2, rfl⟩ := hcut
        have HA1 := Lib.hid hab1
        have HA2 := Lib.hid hab2
        clear hab1 hab2
        go_upto_region 8 with fail
        go_cut [126] (fun v wx => v = .bool (decide (k = s.size ∧ 0 < k ∧ L ≠ oddT ∧ L ≠ evenT)) ∧ wo = wx)
        case first =>
          as_aux_lemma =>
            by_cases p1 : k = s.size
            · have m1 : ((k : Int) == (s.size : Int)) = true := beq_iff_eq.2 (by omega)
              by_cases p2 : 0 < k
              · have m2 : decide ((0 : Int) < (k : Int)) = true := decide_eq_true (by omega)
                by_cases p3 : L = oddT
                · have m3 : (L.toList == [111, 100, 100]) = true := by rw [← HEO.out, tl_beq]; exact decide_eq_true p3
                  have m3' : (L.toList != [111, 100, 100]) = false := by rw [bne, m3]; rfl
                  have HV : Hid (decide (k = s.size ∧ 0 < k ∧ L ≠ oddT ∧ L ≠ evenT) = false) := (decide_eq_false (fun h => h.2.2.1 p3))
                  clear p3 p1
                  go_wp2_with fail
                  go_meet
                  exact ⟨by rw [HV.out], by trivial⟩
                · have m3 : (L.toList == [111, 100, 100]) = false := by rw [← HEO.out, tl_beq]; exact decide_eq_false p3
                  have m3' : (L.toList != [111, 100, 100]) = true := by rw [bne, m3]; rfl
                  by_cases p4 : L = evenT
                  · have m4 : (L.toList == [101, 118, 101, 110]) = true := by rw [← HEE.out, tl_beq]; exact decide_eq_true p4
                    have m4' : (L.toList != [101, 118, 101, 110]) = false := by rw [bne, m4]; rfl
                    have HV : Hid (decide (k = s.size ∧ 0 < k ∧ L ≠ oddT ∧ L ≠ evenT) = false) := (decide_eq_false (fun h => h.2.2.2 p4))
                    clear p3 p4 p1
                    go_wp2_with fail
                    go_meet
                    exact ⟨by rw [HV.out], by trivial⟩
                  · have m4 : (L.toList == [101, 118, 101, 110]) = false := by rw [← HEE.out, tl_beq]; exact decide_eq_false p4
                    have m4' : (L.toList != [101, 118, 101, 110]) = true := by rw [bne, m4]; rfl
                    have HV : Hid (decide (k = s.size ∧ 0 < k ∧ L ≠ oddT ∧ L ≠ evenT) = true) := (decide_eq_true ⟨p1, p2, p3, p4⟩)
                    clear p3 p4 p1
                    go_wp2_with fail
                    go_meet
                    exact ⟨by rw [HV.out], by trivial⟩
              · have m2 : decide ((0 : Int) < (k : Int)) = false := decide_eq_false (by omega)
                have HV : Hid (decide (k = s.size ∧ 0 < k ∧ L ≠ oddT ∧ L ≠ evenT) = false) := (decide_eq_false (fun h => p2 h.2.1))
                clear p1
                go_wp2_with fail
                go_meet
                exact ⟨by rw [HV.out], by trivial⟩
            · have m1 : ((k : Int) == (s.size : Int)) = false := beq_eq_false_iff_ne.2 (by omega)
              have HV : Hid (decide (k = s.size ∧ 0 < k ∧ L ≠ oddT ∧ L ≠ evenT) = false) := (decide_eq_false (fun h => p1 h.1))
              clear p1
              go_wp2_with fail
              go_meet
              exact ⟨by rw [HV.out], by trivial⟩
        case rest =>
          obtain ⟨rfl, rfl⟩ := hcut
          obtain ⟨at2, hat2⟩ : ∃ at2, at2 = decide (k = s.size ∧ 0 < k ∧ L ≠ oddT ∧ L ≠ evenT) := ⟨_, rfl⟩
          rw [← hat2]
          have HAt := Lib.hid hat2
          have hpos : at2 = true → 0 < k := fun h => by rw [hat2] at h; exact (of_decide_eq_true h).2.1
          clear hat2
          have f2 := HR2.out.fz 2
          go_upto_if 126 with fail
          go_cut [] (fun wx => ∃ bd2 : Bool, (bd2 = false ↔ bd = false ∧ (at2 = true → HasN L ∧ isDg (bAt s (k - 1)) = true)) ∧ RdB s w.heap.size k bd2 u w.heap.size w wx)
          case first =>
            as_aux_lemma =>
              cases at2
              · go_wp2_with fail
                go_meet
                exact ⟨bd, ⟨fun h => ⟨h, fun q => by cases q⟩, fun h => h.1⟩, HR2.out⟩
              · have h0 := hpos rfl
                have hw : IntKind.i64.wrap ((k : Int) - 1) = ((k - 1 : Nat) : Int) := by
                  have := IntWalk.i64_in ((k : Int) - 1) ⟨by omega, by omega⟩
                  rw [this]; omega
                have hlt : k - 1 < s.size := by omega
                have HCb : Hid (bAt s (k - 1) = s[k - 1].toNat) := bAt_in hlt
                have HS2 : Hid (∀ b, RdB s w.heap.size k b u w.heap.size w (wo.setCell ⟨w.heap.size, 2, none⟩ (.bool b))) := fun b => HR2.out.setB b
                cases bd
                · go_wp2_with fail
                  refine (HSn.out _).mono ?_
                  rintro e1 w3 ⟨bn, rfl, hbn, rfl⟩
                  have HB := Lib.hid hbn
                  clear hbn
                  cases bn
                  · go_wp2_with fail
                    go_meet
                    exact ⟨true, ⟨(fun h => by cases h), fun h => by have := HB.out.2 (h.2 (by trivial)).1; cases this⟩, HS2.out true⟩
                  · by_cases h48 : s[k - 1].toNat < 48
                    · have m1 : decide ((s[k - 1].toNat : Int) < 48) = true := decide_eq_true (by omega)
                      have HD : Hid (isDg (bAt s (k - 1)) = false) := by rw [Hid, HCb.out]; exact decide_eq_false (by omega)
                      clear h48
                      go_wp2_with fail
                      go_meet
                      exact ⟨true, ⟨(fun h => by cases h), fun h => by have := (h.2 (by trivial)).2; rw [HD.out] at this; cases this⟩, HS2.out true⟩
                    · have m1 : decide ((s[k - 1].toNat : Int) < 48) = false := decide_eq_false (by omega)
                      by_cases h57 : 57 < s[k - 1].toNat
                      · have m2 : decide ((57 : Int) < (s[k - 1].toNat : Int)) = true := decide_eq_true (by omega)
                        have HD : Hid (isDg (bAt s (k - 1)) = false) := by rw [Hid, HCb.out]; exact decide_eq_false (by omega)
                        clear h48 h57
                        go_wp2_with fail
                        go_meet
                        exact ⟨true, ⟨(fun h => by cases h), fun h => by have := (h.2 (by trivial)).2; rw [HD.out] at this; cases this⟩, HS2.out true⟩
                      · have m2 : decide ((57 : Int) < (s[k - 1].toNat : Int)) = false := decide_eq_false (by omega)
                        have HD : Hid (isDg (bAt s (k - 1)) = true) := by rw [Hid, HCb.out]; exact decide_eq_true (by omega)
                        clear h48 h57
                        go_wp2_with fail
                        go_meet
                        exact ⟨false, ⟨(fun _ => ⟨by trivial, fun _ => ⟨HB.out.1 (by trivial), HD.out⟩⟩), fun _ => by trivial⟩, HS2.out false⟩
                · go_wp2_with fail
                  go_meet
                  exact ⟨true, ⟨(fun h => by cases h), fun h => by cases h.1⟩, HS2.out true⟩
          case rest =>
            obtain ⟨bd2, hbd2, hr⟩ := hcut
            have HB2 := Lib.hid hbd2
            have HR3 := Lib.hid hr
            clear hbd2 hr
            as_aux_lemma =>
            clear c1 c2
            have HR4 := Lib.hid (HR3.out.drew 1)
            go_wp2_with fail
            cases u
            · cases mo
              · cases sg
                · refine wp_region_quiet (C := fun w' => RdB s w.heap.size k bd2 false w.heap.size w w') (by kernel_rfl) (by kernel_rfl) HR4.out ?_
                  dsimp only
                  repeat
                    (first
                      | go_big_quiet_skip
                      | (go_big_quiet_want; go_big_quiet_op; go_big_quiet_on)
                      | (go_big_quiet_want
                         apply Exists.intro
                         refine ⟨fun w' hC => ?_, ?_⟩
                         · have d0 := hC.rd.at_
                           have d1 := hC.c2
                           have d2 := hC.c3
                           clear hC
                           go_simp
                           first
                             | done
                             | rfl
                             | exact ⟨rfl, rfl⟩
                         go_big_quiet_on
                         (try simp only [Act.put, List.setIfInBounds_toArray, List.set_cons_zero, List.set_cons_succ]))
                      | (go_big_quiet_want
                         refine ⟨.bool (rdb s), fun w' hC => ?_, ?_⟩
                         · go_simp
                           exact (HRd.out w').mono (fun _ _ hh => ⟨hh.1, by rw [← hh.2]; exact hC⟩)
                         go_big_quiet_on
                         (try simp only [Act.put, List.setIfInBounds_toArray, List.set_cons_zero, List.set_cons_succ])))
                  refine wpQuiet_nil ?_
                  intro w' hC
                  have HR5 := Lib.hid hC
                  clear hC
                  go_wp2_with fail
                  refine bodyPost_ret (results_tmp5 rfl _ _ _) rfl ?_
                  refine ⟨a', b', k, !bd2, rdb s, rfl, HR5.out.old, fun h => ⟨a, b, bd, HX.out (by trivial), HA1.out, HA2.out, ?_, ?_, ?_⟩⟩
                  · intro h0
                    have := HMo.out
                    rw [decide_eq_true h0, Bool.true_and, HL.out] at this
                    exact this.symm
                  · intro q1 q2 q3
                    rw [← HL.out]
                    exact HSg.out (by trivial) q1 q2 q3
                  · rw [← HL.out, Bool.not_eq_true', HB2.out, HAt.out, decide_eq_true_eq]
                    exact ⟨fun ⟨q1, q2⟩ => ⟨q1, fun q3 q4 q5 q6 => q2 ⟨q3, q4, q5, q6⟩⟩, fun ⟨q1, q2⟩ => ⟨q1, fun ⟨q3, q4, q5, q6⟩ => q2 q3 q4 q5 q6⟩⟩
                · refine wp_region_quiet (C := fun w' => RdB s w.heap.size k bd2 false w.heap.size w w') (by kernel_rfl) (by kernel_rfl) HR4.out ?_
                  dsimp only
                  repeat
                    (first
                      | go_big_quiet_skip
                      | (go_big_quiet_want; go_big_quiet_op; go_big_quiet_on)
                      | (go_big_quiet_want
                         apply Exists.intro
                         refine ⟨fun w' hC => ?_, ?_⟩
                         · have d0 := hC.rd.at_
                           have d1 := hC.c2
                           have d2 := hC.c3
                           clear hC
                           go_simp
                           first
                             | done
                             | rfl
                             | exact ⟨rfl, rfl⟩
                         go_big_quiet_on
                         (try simp only [Act.put, List.setIfInBounds_toArray, List.set_cons_zero, List.set_cons_succ]))
                  )
                  refine wpQuiet_nil ?_
                  intro w' hC
                  have HR5 := Lib.hid hC
                  clear hC
                  go_wp2_with fail
                  refine bodyPost_ret (results_tmp5 rfl _ _ _) rfl ?_
                  exact ⟨a', b', k, !bd2, false, rfl, HR5.out.old, (fun h => by cases h)⟩
              · refine wp_region_quiet (C := fun w' => RdB s w.heap.size k bd2 false w.heap.size w w') (by kernel_rfl) (by kernel_rfl) HR4.out ?_
                dsimp only
                repeat
                  (first
                    | go_big_quiet_skip
                    | (go_big_quiet_want; go_big_quiet_op; go_big_quiet_on)
                    | (go_big_quiet_want
                       apply Exists.intro
                       refine ⟨fun w' hC => ?_, ?_⟩
                       · have d0 := hC.rd.at_
                         have d1 := hC.c2
                         have d2 := hC.c3
                         clear hC
                         go_simp
                         first
                           | done
                           | rfl
                           | exact ⟨rfl, rfl⟩
                       go_big_quiet_on
                       (try simp only [Act.put, List.setIfInBounds_toArray, List.set_cons_zero, List.set_cons_succ]))
                )
                refine wpQuiet_nil ?_
                intro w' hC
                have HR5 := Lib.hid hC
                clear hC
                go_wp2_with fail
                refine bodyPost_ret (results_tmp5 rfl _ _ _) rfl ?_
                exact ⟨a', b', k, !bd2, false, rfl, HR5.out.old, (fun h => by cases h)⟩
            · refine wp_region_quiet (C := fun w' => RdB s w.heap.size k bd2 true w.heap.size w w') (by kernel_rfl) (by kernel_rfl) HR4.out ?_
              dsimp only
              repeat
                (first
                  | go_big_quiet_skip
                  | (go_big_quiet_want; go_big_quiet_op; go_big_quiet_on)
                  | (go_big_quiet_want
                     apply Exists.intro
                     refine ⟨fun w' hC => ?_, ?_⟩
                     · have d0 := hC.rd.at_
                       have d1 := hC.c2
                       have d2 := hC.c3
                       clear hC
                       go_simp
                       first
                         | done
                         | rfl
                         | exact ⟨rfl, rfl⟩
                     go_big_quiet_on
                     (try simp only [Act.put, List.setIfInBounds_toArray, List.set_cons_zero, List.set_cons_succ]))
              )
              refine wpQuiet_nil ?_
              intro w' hC
              have HR5 := Lib.hid hC
              clear hC
              go_wp2_with fail
              refine bodyPost_ret (results_tmp5 rfl _ _ _) rfl ?_
              exact ⟨a', b', k, !bd2, false, rfl, HR5.out.old, (fun h => by cases h)⟩
end Go.Proofs.YtkdfdfhejibopaaDoor
