/- What each way to compare answers (the dash, the beginning, the end, a part). -/
import Derived.Test.YtfebdbfkpmjpeaaT91
namespace Go.Proofs.Ytfebdbfkpmjpeaa
open Go.RowKit
set_option linter.unusedVariables false

set_option maxRecDepth 100000 in
set_option maxHeartbeats 8000000 in
theorem asks_dash (p0 p1 : Nat) (f : Bool) (val : ByteArray) (hv : val.size ≤ 2147483647) (w : World) (h0 : w.cell? ⟨p0, 0, none⟩ = some (.string val)) (h1 : w.cell? ⟨p1, 0, none⟩ = some (.bool f)) (l0 : p0 < w.heap.size) (l1 : p1 < w.heap.size) :
    Asks_dash (some ⟨p0, 0, none⟩) (some ⟨p1, 0, none⟩) (RDash f val) w := by
  intro W s hb hs
  have c0 := (hb.cell (p := ⟨p0, 0, none⟩) l0).trans h0
  have c1 := (hb.cell (p := ⟨p1, 0, none⟩) l1).trans h1
  have hp0 := Nat.lt_of_lt_of_le l0 hb.size
  have hp1 := Nat.lt_of_lt_of_le l1 hb.size
  have HI := Lib.hid (insens_any f s val hs hv W)
  have HLow : Hid (∀ b, eqB f s.data.toList val.data.toList = b → (lowB f s.data.toList == lowB f val.data.toList) = b) := fun b h => by rw [← eqB_low]; exact h
  clear hb h0 h1 l0 l1
  obtain ⟨e0, he⟩ : ∃ b, b = eqB f s.data.toList val.data.toList := ⟨_, rfl⟩
  rw [← he] at HI
  have HE := Lib.hid he
  clear he
  cases e0
  · have HEq := Lib.hid (HLow.out _ HE.out.symm)
    by_cases hle : s.size ≤ val.size
    · have HF : Hid (RDash f val s false) := by unfold RDash; rw [Hid, HEq.out, dash_short hle]; rfl
      go_enter Try.func243, Try.ntmps243
      go_wp2_with fail
      refine HI.out.mono ?_
      rintro e w1 ⟨rfl, hb1⟩
      have d0 := (hb1.cell (p := ⟨p0, 0, none⟩) hp0).trans c0
      have HB1 := Lib.hid hb1
      clear hb1
      go_wp2_with fail
      go_ret
      exact ⟨false, rfl, HF.out, HB1.out⟩
    · have hlt : val.size < s.size := by omega
      have HL := Lib.hid (dash_long (f := f) hlt)
      have hsz : (s.extract 0 val.size).size ≤ 2147483647 := by rw [ByteArray.size_extract]; omega
      have HI2 := Lib.hid (fun W => insens_any f (s.extract 0 val.size) val hsz hv W)
      obtain ⟨e1, he1⟩ : ∃ b, b = eqB f (s.extract 0 val.size).data.toList val.data.toList := ⟨_, rfl⟩
      rw [← he1] at HL HI2
      have HDs : Hid ((s[val.size] == 45) = ((s[val.size].toNat : Int) == 45)) := by
        rw [Hid, Bool.eq_iff_iff, beq_iff_eq, beq_iff_eq, ← UInt8.toNat_inj]
        show s[val.size].toNat = 45 ↔ _
        omega
      have hle2 : val.size ≤ s.size := by omega
      clear he1 hsz hle
      cases e1
      · have HF : Hid (RDash f val s false) := by unfold RDash; rw [Hid, HEq.out, HL.out]; rfl
        go_enter Try.func243, Try.ntmps243
        go_wp2_with fail
        refine HI.out.mono ?_
        rintro e w1 ⟨rfl, hb1⟩
        have d0 := (hb1.cell (p := ⟨p0, 0, none⟩) hp0).trans c0
        have d1 := (hb1.cell (p := ⟨p1, 0, none⟩) hp1).trans c1
        have hsz1 := hb1.size
        have HB1 := Lib.hid hb1
        clear hb1 c0 c1 HI
        go_wp2_with fail
        first | go_region_law (first
          | (go_simp; go_at_call 217; refine (HI2.out _).mono ?_
             rintro e w2 ⟨rfl, hb2⟩
             have f0 := (hb2.cell (p := ⟨p0, 0, none⟩) (by simp; omega)).trans d0
             have HB2 := Lib.hid (HB1.out.drew.trans (hb2.mono (by simp; omega)))
             clear hb2)) | fail
        all_goals
          go_wp2_with fail
          go_ret
          exact ⟨false, rfl, HF.out, HB2.out⟩
      · cases hq : (s[val.size] == 45)
        · have HF : Hid (RDash f val s false) := by unfold RDash; rw [Hid, HEq.out, HL.out, hq]; rfl
          have dq : ((s[val.size].toNat : Int) == 45) = false := HDs.out.symm.trans hq
          clear hq HDs
          go_enter Try.func243, Try.ntmps243
          go_wp2_with fail
          refine HI.out.mono ?_
          rintro e w1 ⟨rfl, hb1⟩
          have d0 := (hb1.cell (p := ⟨p0, 0, none⟩) hp0).trans c0
          have d1 := (hb1.cell (p := ⟨p1, 0, none⟩) hp1).trans c1
          have hsz1 := hb1.size
          have HB1 := Lib.hid hb1
          clear hb1 c0 c1 HI
          go_wp2_with fail
          first | go_region_law (first
            | (go_simp; go_at_call 217; refine (HI2.out _).mono ?_
               rintro e w2 ⟨rfl, hb2⟩
               have f0 := (hb2.cell (p := ⟨p0, 0, none⟩) (by simp; omega)).trans d0
               have HB2 := Lib.hid (HB1.out.drew.trans (hb2.mono (by simp; omega)))
               clear hb2)) | fail
          all_goals
            go_wp2_with fail
            go_ret
            exact ⟨false, rfl, HF.out, HB2.out⟩
        · have HF : Hid (RDash f val s true) := by unfold RDash; rw [Hid, HEq.out, HL.out, hq]; rfl
          have dq : ((s[val.size].toNat : Int) == 45) = true := HDs.out.symm.trans hq
          clear hq HDs
          go_enter Try.func243, Try.ntmps243
          go_wp2_with fail
          refine HI.out.mono ?_
          rintro e w1 ⟨rfl, hb1⟩
          have d0 := (hb1.cell (p := ⟨p0, 0, none⟩) hp0).trans c0
          have d1 := (hb1.cell (p := ⟨p1, 0, none⟩) hp1).trans c1
          have hsz1 := hb1.size
          have HB1 := Lib.hid hb1
          clear hb1 c0 c1 HI
          go_wp2_with fail
          first | go_region_law (first
            | (go_simp; go_at_call 217; refine (HI2.out _).mono ?_
               rintro e w2 ⟨rfl, hb2⟩
               have f0 := (hb2.cell (p := ⟨p0, 0, none⟩) (by simp; omega)).trans d0
               have HB2 := Lib.hid (HB1.out.drew.trans (hb2.mono (by simp; omega)))
               clear hb2)) | fail
          all_goals
            go_wp2_with fail
            go_ret
            exact ⟨true, rfl, HF.out, HB2.out⟩
  · have HF : Hid (RDash f val s true) := by unfold RDash; rw [Hid, HLow.out _ HE.out.symm]; rfl
    go_enter Try.func243, Try.ntmps243
    go_wp2_with fail
    refine HI.out.mono ?_
    rintro e w1 ⟨rfl, hb1⟩
    have HB1 := Lib.hid hb1
    clear hb1
    go_wp2_with fail
    go_ret
    exact ⟨true, rfl, HF.out, HB1.out⟩
end Go.Proofs.Ytfebdbfkpmjpeaa
