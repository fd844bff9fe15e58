/- FnTextBelow: the walk. -/
import Derived.Test.YtjebadadimejpaaDoorT322
import Derived.Test.YtjebadadimejpaaDoorT18
namespace Go.Proofs.YtjebadadimejpaaDoor
open Go.RowKit
set_option linter.unusedVariables false

set_option maxRecDepth 100000 in
set_option maxHeartbeats 4000000 in
theorem FnTextBelow_walk (ad : Option Addr) (len c : Nat) (t : List Nd) (I : Int) (w : World) (h : NSl w w.heap.size ad t ∧ len = t.length) (_hI : (Lit.int .i64 I).wf = true) :
    Calls Tryd.prog 3 #[.slice ad len c, .int .i64 I] w fun e w' => e = .returned (.bool true) ∧ Below w.heap.size w w' := by
  obtain ⟨h, rfl⟩ := h
  have HH := Lib.hid h
  clear h
  go_enter Tryd.func3, Tryd.ntmps3
  go_wp2_with fail
  refine (zzFits1_any _ _ t _ HH.out).mono ?_
  rintro e w1 ⟨rfl, hb1⟩
  have HB1 := Lib.hid hb1
  clear hb1
  cases hf : fits1 t
  · go_wp2_with fail
    go_ret
    exact ⟨rfl, HB1.out⟩
  · go_wp2_with fail
    refine (right_any _ c t w1 (HH.out.up HB1.out) hf).mono ?_
    rintro e w2 ⟨b, rfl, hbR, hb2⟩
    have HB2 := Lib.hid (bnext HB1.out hb2)
    have HR := Lib.hid hbR
    clear hb2 hbR
    cases b
    · go_wp2_with fail
      go_ret
      exact ⟨rfl, HB2.out⟩
    · have hR := HR.out rfl
      have hle := hR.le
      go_wp2_with fail
      refine (within_any _ _ _ _ _).mono ?_
      rintro e w3 ⟨rfl, rfl⟩
      by_cases hI : 0 ≤ I ∧ I < t.length
      · obtain ⟨i, rfl⟩ := Int.eq_ofNat_of_zero_le hI.1
        have hi : i < t.length := by omega
        have e1 : decide (0 ≤ (i : Int)) = true := by simp
        have e2 : decide ((i : Int) < (t.length : Nat)) = true := by simpa using hi
        rw [e1, e2]
        have HR2 := Lib.hid hR
        have hNS := HH.out.up HB2.out
        obtain ⟨b, o, rfl, hbB, hcs⟩ := hNS.at_ (by omega)
        have g1 := (hcs i hi).1
        have HNS := Lib.hid hNS
        clear e1 e2 hI hR HR hf hcs hNS
        by_cases hk : t[i].kind = 3
        · rw [hk] at g1
          have hk1 : t[i].kind ≠ 1 := by omega
          have HTb := Lib.hid (textBelow_any (some ⟨b, o, none⟩) c t HR2.out i hi hk1 w2 HNS.out)
          have HOb := Lib.hid (fun w' (hb : Below w2.heap.size w2 w') => ownTextBelow_any (some ⟨b, o, none⟩) c t HR2.out i hi w' (HNS.out.up hb))
          have HSt := Lib.hid (fun w' (hb : Below w2.heap.size w2 w') => specText_any (some ⟨b, o, none⟩) c t HR2.out i hi w' (HNS.out.up hb))
          have HSo := Lib.hid (fun w' (hb : Below w2.heap.size w2 w') => specOwn_any (some ⟨b, o, none⟩) c t HR2.out i hi w' (HNS.out.up hb))
          obtain ⟨v, hv⟩ : ∃ v : ByteArray, v = ⟨(txt t i).toArray⟩ := ⟨_, rfl⟩
          have hs : strV (txt t i) = .string v := by rw [hv]; rfl
          obtain ⟨v2, hv2⟩ : ∃ v : ByteArray, v = ⟨(kidT t i).toArray⟩ := ⟨_, rfl⟩
          have hs2 : strV (kidT t i) = .string v2 := by rw [hv2]; rfl
          rw [hs] at HTb HSt
          rw [hs2] at HOb HSo
          clear hs hv hs2 hv2 hk hk1 HH
          go_wp2_with fail
          refine HTb.out.mono ?_
          rintro e w4 ⟨rfl, hb4⟩
          have HB4 := Lib.hid hb4
          clear hb4
          go_wp2_with fail
          refine (HOb.out w4 HB4.out).mono ?_
          rintro e w5 ⟨rfl, hb5⟩
          have HB5 := Lib.hid (bnext HB4.out hb5)
          clear hb5
          go_wp2_with fail
          refine (HSt.out w5 HB5.out).mono ?_
          rintro e w6 ⟨rfl, q, rfl⟩
          have HB6 : Hid (Below w2.heap.size w2 (w5.drewN q)) := below_drewN HB5.out q
          go_wp2_with fail
          refine (HSo.out _ HB6.out).mono ?_
          rintro e w7 ⟨rfl, hb7⟩
          have HB7 := Lib.hid (bnext HB6.out hb7)
          clear hb7
          go_wp2_with fail
          go_ret
          exact ⟨by simp, bnext HB2.out HB7.out⟩
        · have d : (t[i].kind != 3) = true := by simpa using hk
          obtain ⟨y, hy⟩ : ∃ y, y = t[i].kind := ⟨_, rfl⟩
          rw [← hy] at g1 d
          clear hy hk
          go_wp2_with fail
          go_ret
          exact ⟨rfl, HB2.out⟩
      · have e : (decide (0 ≤ I) && decide (I < (t.length : Nat))) = false := by simpa using hI
        rw [e]
        clear e hI
        go_wp2_with fail
        go_ret
        exact ⟨rfl, HB2.out⟩
end Go.Proofs.YtjebadadimejpaaDoor
