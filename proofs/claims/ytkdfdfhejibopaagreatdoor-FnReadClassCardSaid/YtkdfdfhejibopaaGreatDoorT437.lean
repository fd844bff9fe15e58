/- The reader's rest of a name: bytes of names, and escapes. -/
import Derived.Test.YtkdfdfhejibopaaGreatDoorT436
import Derived.Test.YtkdfdfhejibopaaGreatDoorT420
import Derived.Deep.LoopGhost
import Derived.WalkMore
namespace Go.Proofs.YtkdfdfhejibopaaGreatDoor
open Go.RowKit
set_option linter.unusedVariables false

/-- A byte with which a name may begin. -/
def isBgG (c : Nat) : Bool := decide (97 ≤ c ∧ c ≤ 122) || decide (65 ≤ c ∧ c ≤ 90) || decide (c = 95) || decide (127 < c)
theorem isBgG_iff (c : Nat) : isBgG c = true ↔ (97 ≤ c ∧ c ≤ 122) ∨ (65 ≤ c ∧ c ≤ 90) ∨ c = 95 ∨ 127 < c := by
  unfold isBgG
  simp only [Bool.or_eq_true, decide_eq_true_eq, or_assoc]
theorem isBgG_no (c : Nat) : isBgG c = false ↔ ¬ ((97 ≤ c ∧ c ≤ 122) ∨ (65 ≤ c ∧ c ≤ 90) ∨ c = 95 ∨ 127 < c) := by
  rw [← isBgG_iff, Bool.not_eq_true]
def BooP (b : Bool) (w : World) (e : Ending) (w' : World) : Prop := e = .returned (.bool b) ∧ w = w'

set_option maxRecDepth 100000 in
set_option maxHeartbeats 2000000 in
theorem beginG_any (c : Nat) (hc : c < 256) (w : World) : Calls Tryz.prog 11 #[.int .u8 (c : Int)] w (BooP (isBgG c) w) := by
  have hcases : (128 ≤ c) ∨ (122 < c ∧ c ≤ 127) ∨ (97 ≤ c ∧ c ≤ 122) ∨ (c = 96) ∨ (c = 95) ∨ (90 < c ∧ c < 95) ∨ (65 ≤ c ∧ c ≤ 90) ∨ (57 < c ∧ c < 65) ∨ (c ≤ 57) := by omega
  rcases hcases with h | h | h | h | h | h | h | h | h
  all_goals
    have HV : Hid (isBgG c = true ↔ (97 ≤ c ∧ c ≤ 122) ∨ (65 ≤ c ∧ c ≤ 90) ∨ c = 95 ∨ 127 < c) := isBgG_iff c
    go_enter Tryz.func11, Tryz.ntmps11
    go_wp2_with fail
    all_goals go_ret
    all_goals exact ⟨ret_b (by rw [Bool.eq_iff_iff, HV.out]; simp; try omega), rfl⟩

set_option maxRecDepth 100000 in
set_option maxHeartbeats 2000000 in
theorem nameG_any (c : Nat) (hc : c < 256) (w : World) : Calls Tryz.prog 25 #[.int .u8 (c : Int)] w (BooP (isNm c) w) := by
  have HB := Lib.hid (fun U => beginG_any c hc U)
  obtain ⟨b, hb⟩ : ∃ b, b = isBgG c := ⟨_, rfl⟩
  rw [← hb] at HB
  cases b
  · have h0 := (isBgG_no c).1 hb.symm
    have HV : Hid (isNm c = true ↔ c = 45 ∨ (48 ≤ c ∧ c ≤ 57)) := by rw [Hid, isNm_iff]; omega
    clear hb h0
    by_cases h45 : c = 45
    · have m0 : ((c : Int) == 45) = true := beq_iff_eq.2 (by omega)
      have HT : Hid (isNm c = true) := by rw [Hid, HV.out]; exact .inl h45
      clear h45
      go_enter Tryz.func25, Tryz.ntmps25
      go_wp2_with fail
      refine (HB.out _).mono ?_
      rintro e1 w1 ⟨rfl, rfl⟩
      go_wp2_with fail
      go_ret
      exact ⟨ret_b HT.out, rfl⟩
    · have m0 : ((c : Int) == 45) = false := beq_eq_false_iff_ne.2 (by omega)
      have hcases : (57 < c) ∨ (48 ≤ c ∧ c ≤ 57) ∨ c < 48 := by omega
      have HT : Hid (isNm c = true ↔ 48 ≤ c ∧ c ≤ 57) := by rw [Hid, HV.out]; omega
      clear h45
      rcases hcases with h | h | h
      all_goals
        go_enter Tryz.func25, Tryz.ntmps25
        go_wp2_with fail
        refine (HB.out _).mono ?_
        rintro e1 w1 ⟨rfl, rfl⟩
        go_wp2_with fail
        all_goals go_ret
        all_goals exact ⟨ret_b (by rw [Bool.eq_iff_iff, HT.out]; simp; try omega), rfl⟩
  · have h0 := (isBgG_iff c).1 hb.symm
    have HV : Hid (isNm c = true) := by rw [Hid, isNm_iff]; omega
    clear hb h0
    go_enter Tryz.func25, Tryz.ntmps25
    go_wp2_with fail
    refine (HB.out _).mono ?_
    rintro e1 w1 ⟨rfl, rfl⟩
    go_wp2_with fail
    go_ret
    exact ⟨ret_b HV.out, rfl⟩

theorem RdW.c2 {s : ByteArray} {g k : Nat} {u : Bool} {B : Nat} {W w : World} (h : RdW s g k u B W w) : w.cell? ⟨g, 2, none⟩ = some (.bool false) := by rw [cell_of_row w g 2 _ _ _ h.blk]; rfl

/-- What the reference has read from a place on. -/
inductive NmG (s : ByteArray) (k : Nat) : ByteArray → Nat → Prop
  | zero : NmG s k ByteArray.empty k
  | chr {acc : ByteArray} {i : Nat} : NmG s k acc i → i < s.size → isNm (bAt s i) = true → NmG s k (acc ++ oneB s i) (i + 1)
  | esc {acc o : ByteArray} {i i1 : Nat} : NmG s k acc i → escAt s i = true → EscG s i o i1 → i1 ≤ s.size → NmG s k (acc ++ o) i1

def RsP (s : ByteArray) (g k : Nat) (B : Nat) (W : World) (e : Ending) (w' : World) : Prop :=
  ∃ (O : ByteArray) (i : Nat) (u : Bool), e = .returned (.string O) ∧ RdW s g i u B W w' ∧ i ≤ s.size ∧ O.size ≤ 4 * i ∧ (u = false → NmG s k O i) ∧ (i < s.size → isNm (bAt s i) = false ∧ escAt s i = false)

def RdV (v : Value) (s : ByteArray) (g i : Nat) (u : Bool) (B : Nat) (W : World) (e : Ending) (w' : World) : Prop := e = .returned v ∧ RdW s g i u B W w'

set_option maxRecDepth 100000 in
set_option maxHeartbeats 8000000 in
theorem rest_any (s : ByteArray) (g k : Nat) (B : Nat) (W w : World) (hs : s.size ≤ 1000) (hk : k ≤ s.size) (h : RdW s g k false B W w) :
    Calls Tryz.prog 17 #[.pointer (some ⟨g, 0, none⟩)] w (RsP s g k B W) := by
  have HR := Lib.hid h
  clear h
  go_enter Tryz.func17, Tryz.ntmps17
  go_wp2_with fail
  go_loopg [3] (s.size - k) (fun gk v3 wr => ∃ (O : ByteArray) (i : Nat) (u : Bool), gk = s.size - i ∧ v3 = .string O ∧ i ≤ s.size ∧ O.size ≤ 4 * i ∧ Hid (u = false → NmG s k O i) ∧ Hid (RdW s g i u B W wr))
  case atStart => exact ⟨ByteArray.empty, k, false, rfl, rfl, hk, Nat.zero_le _, fun _ => .zero, HR.out⟩
  case round =>
    obtain ⟨O, i, u, rfl, rfl, hi, hO, HA, HW⟩ := hrel
    clear HR
    obtain ⟨c0, c1⟩ := HW.out.rd
    have c2 := HW.out.c2
    have f1 := HW.out.fz 1
    by_cases hlt : i < s.size
    · obtain ⟨c, hc⟩ : ∃ c, c = bAt s i := ⟨_, rfl⟩
      have hc256 : c < 256 := by rw [hc]; exact bAt_lt _ _
      have HNm := Lib.hid (fun U => nameG_any c hc256 U)
      have HNx : Hid (∀ U, RdW s g i u B W U → Calls Tryz.prog 18 #[.pointer (some ⟨g, 0, none⟩)] U (RdV (.int .u8 (c : Int)) s g i u B W)) := fun U h => by
        rw [hc]
        refine (next_any s g i U (by omega) (by omega) h.rd).mono ?_
        rintro e w' ⟨rfl, q, rfl⟩
        exact ⟨rfl, h.drew q⟩
      unfold BooP at HNm
      have HD : Hid (∀ q, RdW s g i u B W (wr.drewN q)) := fun q => HW.out.drew q
      have hw1 : IntKind.i64.wrap ((i : Int) + 1) = ((i + 1 : Nat) : Int) := by
        have := IntWalk.i64_in ((i : Int) + 1) ⟨by omega, by omega⟩
        rw [this]; rfl
      cases hn : isNm c
      · rw [hn] at HNm
        have HEs := Lib.hid (fun U h => escF_any s g i U (by omega) hi h)
        have HNo : Hid (isNm (bAt s i) = false) := by rw [Hid, ← hc]; exact hn
        cases hE : escAt s i
        · rw [hE] at HEs
          have HE := Lib.hid hE
          clear hc hc256 hn hE
          go_wp2_with fail
          go_quiet (fail)
          go_wp2_with fail
          refine (HNx.out _ (HW.out.drew _)).mono ?_
          rintro e1 w1 ⟨rfl, hr1⟩
          have HR1 := Lib.hid hr1
          obtain ⟨d0, d1⟩ := hr1.rd
          have e1' := hr1.fz 1
          clear hr1 c0 c1 c2 f1
          go_wp2_with fail
          refine (HNm.out _).mono ?_
          rintro e1 w2 ⟨rfl, rfl⟩
          go_wp2_with fail
          refine (HEs.out _ d0).mono ?_
          rintro e1 w3 ⟨rfl, rfl⟩
          go_wp2_with fail
          go_ret
          exact ⟨O, i, u, rfl, HR1.out, hi, hO, HA.out, fun _ => ⟨HNo.out, HE.out⟩⟩
        · rw [hE] at HEs
          have HE := Lib.hid hE
          have HEG : Hid (∀ U, RdW s g i u B W U → Calls Tryz.prog 26 #[.pointer (some ⟨g, 0, none⟩)] U (EscRdG s g i u B W)) := fun U h => escapeG_any s g i u B W U (by omega) hE h
          clear hc hc256 hn hE
          go_wp2_with fail
          go_quiet (fail)
          go_wp2_with fail
          refine (HNx.out _ (HW.out.drew _)).mono ?_
          rintro e1 w1 ⟨rfl, hr1⟩
          have HR1 := Lib.hid hr1
          obtain ⟨d0, d1⟩ := hr1.rd
          have e1' := hr1.fz 1
          clear hr1 c0 c1 c2 f1
          go_wp2_with fail
          refine (HNm.out _).mono ?_
          rintro e1 w2 ⟨rfl, rfl⟩
          go_wp2_with fail
          refine (HEs.out _ d0).mono ?_
          rintro e1 w3 ⟨rfl, rfl⟩
          go_wp2_with fail
          refine (HEG.out _ HR1.out).mono ?_
          rintro e1 w4 ⟨o, i1, u1, rfl, hr4, hi1, hlt1, ho, hx⟩
          have HR4 := Lib.hid hr4
          have HA2 : Hid (u1 = false → NmG s k (O ++ o) i1) := fun q => (HA.out (hx q).1).esc HE.out (hx q).2 hi1
          have hO2 : (O ++ o).size ≤ 4 * i1 := by rw [ByteArray.size_append]; omega
          clear hr4 hx d0 d1 e1'
          go_wp2_with fail
          go_roundg (s.size - i1)
          case measure => omega
          case rel => exact ⟨_, i1, u1, rfl, rfl, hi1, hO2, HA2, HR4⟩
      · rw [hn] at HNm
        have HNy : Hid (isNm (bAt s i) = true) := by rw [Hid, ← hc]; exact hn
        clear hc hc256 hn
        have HA2 : Hid (u = false → NmG s k (O ++ oneB s i) (i + 1)) := fun q => (HA.out q).chr hlt HNy.out
        unfold oneB at HA2
        have hO2 : (O ++ s.extract i (i + 1)).size ≤ 4 * (i + 1) := by rw [ByteArray.size_append, ByteArray.size_extract]; omega
        go_wp2_with fail
        go_quiet (fail)
        go_wp2_with fail
        refine (HNx.out _ (HW.out.drew _)).mono ?_
        rintro e1 w1 ⟨rfl, hr1⟩
        have HR1 := Lib.hid hr1
        obtain ⟨d0, d1⟩ := hr1.rd
        have e1' := hr1.fz 1
        clear hr1 c0 c1 c2 f1
        go_wp2_with fail
        refine (HNm.out _).mono ?_
        rintro e1 w2 ⟨rfl, rfl⟩
        go_wp2_with fail
        go_quiet (fail)
        have HS : Hid (∀ U q x, x = ((i + 1 : Nat) : Int) → RdW s g i u B W U → RdW s g (i + 1) u B W ((U.drewN q).setCell ⟨g, 1, none⟩ (.int .i64 x))) := fun U q x hx h => (h.drew q).setI _ _ hx
        go_wp2_with fail
        go_roundg (s.size - (i + 1))
        case measure => omega
        case rel => exact ⟨_, i + 1, u, rfl, rfl, hlt, hO2, HA2, HS.out _ _ _ (by omega) HR1.out⟩
    · go_wp2_with fail
      go_quiet (fail)
      go_wp2_with fail
      go_ret
      exact ⟨O, i, u, rfl, HW.out.drew _, hi, hO, HA.out, fun q => absurd q hlt⟩
end Go.Proofs.YtkdfdfhejibopaaGreatDoor
