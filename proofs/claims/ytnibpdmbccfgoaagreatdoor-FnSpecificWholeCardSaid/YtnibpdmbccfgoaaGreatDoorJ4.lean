/- FnSpecificWhole: texts joined (joinf.py) -/
import Derived.Test.YtnibpdmbccfgoaaGreatDoorT456
import Derived.Test.YtnibpdmbccfgoaaGreatDoorT406
import Derived.WalkMore
import Derived.Deep.LoopGhost
namespace Go.Proofs.YtnibpdmbccfgoaaGreatDoor
open Go.RowKit
set_option linter.unusedVariables false

def isBgG (c : Nat) : Bool := decide (97 ≤ c ∧ c ≤ 122) || decide (65 ≤ c ∧ c ≤ 90) || decide (c = 95) || decide (127 < c)
theorem isBgG_iff (c : Nat) : isBgG c = true ↔ (97 ≤ c ∧ c ≤ 122) ∨ (65 ≤ c ∧ c ≤ 90) ∨ c = 95 ∨ 127 < c := by
  unfold isBgG
  simp only [Bool.or_eq_true, decide_eq_true_eq, or_assoc]
theorem isBgG_no (c : Nat) : isBgG c = false ↔ ¬ ((97 ≤ c ∧ c ≤ 122) ∨ (65 ≤ c ∧ c ≤ 90) ∨ c = 95 ∨ 127 < c) := by
  rw [← isBgG_iff, Bool.not_eq_true]
def BooP (b : Bool) (w : World) (e : Ending) (w' : World) : Prop := e = .returned (.bool b) ∧ w = w'

theorem nameStart_any (c : Nat) (hc : c < 256) (w : World) : Calls Tryz.prog 60 #[.int .u8 (c : Int)] w (BooP (isBgG c) w) := by
  have hcases : (128 ≤ c) ∨ (122 < c ∧ c ≤ 127) ∨ (97 ≤ c ∧ c ≤ 122) ∨ (c = 96) ∨ (c = 95) ∨ (90 < c ∧ c < 95) ∨ (65 ≤ c ∧ c ≤ 90) ∨ (57 < c ∧ c < 65) ∨ (c ≤ 57) := by omega
  rcases hcases with h | h | h | h | h | h | h | h | h
  all_goals
    have HV : Hid (isBgG c = true ↔ (97 ≤ c ∧ c ≤ 122) ∨ (65 ≤ c ∧ c ≤ 90) ∨ c = 95 ∨ 127 < c) := isBgG_iff c
    go_enter Tryz.func60, Tryz.ntmps60
    go_wp2_with fail
    all_goals go_ret
    all_goals exact ⟨ret_b (by rw [Bool.eq_iff_iff, HV.out]; simp; try omega), rfl⟩

def hereT (s t : ByteArray) (k : Nat) : Bool := decide (k + t.size ≤ s.size ∧ s.extract k (k + t.size) = t)

theorem here1 {s : ByteArray} {b : UInt8} {k : Nat} : hereT s ⟨#[b]⟩ k = decide (k < s.size ∧ bAt s k = b.toNat) := by
  unfold hereT
  refine decide_eq_decide.2 ?_
  have hsz : (ByteArray.mk #[b]).size = 1 := rfl
  rw [hsz]
  constructor
  · rintro ⟨q1, q2⟩
    refine ⟨by omega, ?_⟩
    have e := bAt_extract (s := s) (a := k) (b := k + 1) (x := 0) (by omega) q1
    rw [q2, Nat.add_zero] at e
    rw [← e]
    rfl
  · rintro ⟨q1, q2⟩
    refine ⟨by omega, ?_⟩
    apply ByteArray.ext
    apply Array.ext
    · have : (s.extract k (k + 1)).data.size = (s.extract k (k + 1)).size := rfl
      rw [this, ByteArray.size_extract, Nat.min_eq_left (by omega)]
      show k + 1 - k = 1
      omega
    · intro i h1 h2
      have h3 : i < 1 := h2
      obtain rfl : i = 0 := by omega
      have : (s.extract k (k + 1))[0]'h1 = s[k + 0] := ByteArray.getElem_extract ..
      have e : (s.extract k (k + 1)).data[0]'h1 = s[k + 0] := this
      rw [e]
      show s[k] = b
      rw [bAt_in q1] at q2
      exact UInt8.toNat_inj.1 q2
theorem here2 {s : ByteArray} {a b : UInt8} {k : Nat} : hereT s ⟨#[a, b]⟩ k = decide (k + 1 < s.size ∧ bAt s k = a.toNat ∧ bAt s (k + 1) = b.toNat) := by
  unfold hereT
  refine decide_eq_decide.2 ?_
  have hsz : (ByteArray.mk #[a, b]).size = 2 := rfl
  rw [hsz]
  constructor
  · rintro ⟨q1, q2⟩
    obtain ⟨r1, r2⟩ := (ext2 q1 a b).1 q2
    exact ⟨by omega, by rw [bAt_in (by omega), r1], by rw [bAt_in (by omega), r2]⟩
  · rintro ⟨q1, q2, q3⟩
    rw [bAt_in (by omega)] at q2
    rw [bAt_in (by omega)] at q3
    exact ⟨by omega, (ext2 (by omega) a b).2 ⟨UInt8.toNat_inj.1 q2, UInt8.toNat_inj.1 q3⟩⟩

end Go.Proofs.YtnibpdmbccfgoaaGreatDoor

namespace Go.Proofs.YtnibpdmbccfgoaaGreatDoor
open Go.RowKit
set_option linter.unusedVariables false

/-- A byte of a name. -/
def isNm (c : Nat) : Bool := decide (97 ≤ c ∧ c ≤ 122) || decide (65 ≤ c ∧ c ≤ 90) || decide (c = 95) || decide (127 < c) || decide (c = 45) || decide (48 ≤ c ∧ c ≤ 57)
theorem isNm_iff (c : Nat) : isNm c = true ↔ (97 ≤ c ∧ c ≤ 122) ∨ (65 ≤ c ∧ c ≤ 90) ∨ c = 95 ∨ 127 < c ∨ c = 45 ∨ (48 ≤ c ∧ c ≤ 57) := by
  unfold isNm
  simp only [Bool.or_eq_true, decide_eq_true_eq, or_assoc]
theorem isNm_no (c : Nat) : isNm c = false ↔ ¬ ((97 ≤ c ∧ c ≤ 122) ∨ (65 ≤ c ∧ c ≤ 90) ∨ c = 95 ∨ 127 < c ∨ c = 45 ∨ (48 ≤ c ∧ c ≤ 57)) := by
  rw [← isNm_iff, Bool.not_eq_true]

/-- One byte as a text. -/
def oneB (s : ByteArray) (i : Nat) : ByteArray := s.extract i (i + 1)

/-- What has been read from a place on. -/
inductive NmAc (s : ByteArray) (k : Nat) : ByteArray → Nat → Prop
  | zero : NmAc s k ByteArray.empty k
  | chr {acc : ByteArray} {i : Nat} : NmAc s k acc i → i < s.size → isNm (bAt s i) = true → NmAc s k (acc ++ oneB s i) (i + 1)
  | esc {acc o : ByteArray} {i i1 : Nat} : NmAc s k acc i → escAt s i = true → PEscIs s i o i1 → i1 ≤ s.size → NmAc s k (acc ++ o) i1

/-- Nothing of a name stands here. -/
def NmStop (s : ByteArray) (i : Nat) : Prop := i ≤ s.size ∧ (i < s.size → isNm (bAt s i) = false ∧ bAt s i ≠ 92)
/-- A backslash that begins no escape. -/
def NmBad (s : ByteArray) (i : Nat) : Prop := i < s.size ∧ bAt s i = 92 ∧ escAt s i = false

theorem pesc_size {s : ByteArray} {i i1 : Nat} {o : ByteArray} (h : PEscIs s i o i1) : o.size ≤ 4 ∧ i + 2 ≤ i1 := by
  obtain ⟨j, hx, h0, h1⟩ := h
  rcases Nat.eq_zero_or_pos j with c | c
  · obtain ⟨rfl, rfl⟩ := h0 c
    refine ⟨?_, Nat.le_refl _⟩
    rw [ByteArray.size_extract]; omega
  · obtain ⟨e1, e2⟩ := h1 c
    exact ⟨by rw [e2]; exact encode_size_le _, by have := wsEnd_ge s (i + 1 + j); omega⟩

theorem NmAc.size {s : ByteArray} {k : Nat} {acc : ByteArray} {i : Nat} (h : NmAc s k acc i) : k ≤ i ∧ acc.size ≤ 4 * (i - k) := by
  induction h with
  | zero => exact ⟨Nat.le_refl _, by rw [ByteArray.size_empty]; omega⟩
  | @chr acc i _ hi _ ih =>
    refine ⟨by omega, ?_⟩
    rw [ByteArray.size_append]
    have : (oneB s i).size ≤ 1 := by unfold oneB; rw [ByteArray.size_extract]; omega
    omega
  | @esc acc o i i1 _ _ hp _ ih =>
    have := pesc_size hp
    refine ⟨by omega, ?_⟩
    rw [ByteArray.size_append]
    omega

theorem NmAc.run {s : ByteArray} {k : Nat} {acc : ByteArray} {i : Nat} (h : NmAc s k acc i) : ∀ d, i + d ≤ s.size → (∀ x, x < d → isNm (bAt s (i + x)) = true) → NmAc s k (acc ++ s.extract i (i + d)) (i + d)
  | 0, _, _ => by
    rw [Nat.add_zero]
    have : s.extract i i = ByteArray.empty := by apply ByteArray.ext; rw [ByteArray.data_extract]; simp; exact Nat.min_le_left _ _
    rw [this, ByteArray.append_empty]
    exact h
  | d + 1, hd, hn => by
    have ih := NmAc.run h d (by omega) (fun x hx => hn x (by omega))
    have := ih.chr (by omega) (hn d (by omega))
    rw [ByteArray.append_assoc] at this
    have e : s.extract i (i + d) ++ oneB s (i + d) = s.extract i (i + (d + 1)) := by
      unfold oneB
      rw [ByteArray.extract_append_extract]
      congr 1 <;> omega
    rw [e] at this
    exact this

/-- How a name ends. -/
def NmNo (s : ByteArray) (k g : Nat) (D P : Value) (B : Nat) (W : World) (e : Ending) (w' : World) : Prop :=
  ∃ (v x : Value) (i' : Nat), ErrV v ∧ e = .returned (.tuple #[x, v]) ∧ PrW s g i' D P B W w' ∧ ∃ (acc : ByteArray) (i : Nat), NmAc s k acc i ∧ (NmBad s i ∨ (NmStop s i ∧ acc.size = 0))
def NmYes (s : ByteArray) (k g : Nat) (D P : Value) (B : Nat) (W : World) (e : Ending) (w' : World) : Prop :=
  ∃ (out : ByteArray) (i' : Nat), e = .returned (.tuple #[.string out, .nilIface]) ∧ PrW s g i' D P B W w' ∧ i' ≤ s.size ∧ NmAc s k out i' ∧ NmStop s i' ∧ 0 < out.size
def NmPost (s : ByteArray) (k g : Nat) (D P : Value) (B : Nat) (W : World) (e : Ending) (w' : World) : Prop := NmNo s k g D P B W e w' ∨ NmYes s k g D P B W e w'

def NmP (c : Nat) (w : World) (e : Ending) (w' : World) : Prop := e = .returned (.bool (isNm c)) ∧ w = w'

set_option maxRecDepth 100000 in
set_option maxHeartbeats 2000000 in
theorem nameChar_any (c : Nat) (hc : c < 256) (w : World) : Calls Tryz.prog 62 #[.int .u8 (c : Int)] w (NmP c w) := by
  have hcases : (127 < c) ∨ (122 < c ∧ c ≤ 127) ∨ (97 ≤ c ∧ c ≤ 122) ∨ (c = 96) ∨ (c = 95) ∨ (90 < c ∧ c < 95) ∨ (65 ≤ c ∧ c ≤ 90) ∨ (57 < c ∧ c < 65) ∨ (48 ≤ c ∧ c ≤ 57) ∨ (45 < c ∧ c < 48) ∨ c = 45 ∨ c < 45 := by omega
  rcases hcases with h | h | h | h | h | h | h | h | h | h | h | h
  all_goals
    have HV : Hid (isNm c = true ↔ (97 ≤ c ∧ c ≤ 122) ∨ (65 ≤ c ∧ c ≤ 90) ∨ c = 95 ∨ 127 < c ∨ c = 45 ∨ (48 ≤ c ∧ c ≤ 57)) := isNm_iff c
    go_enter Tryz.func62, Tryz.ntmps62
    go_wp2_with fail
    all_goals go_ret
    all_goals exact ⟨ret_b (by rw [Bool.eq_iff_iff, HV.out]; simp; try omega), rfl⟩
end Go.Proofs.YtnibpdmbccfgoaaGreatDoor

namespace Go.Proofs.YtnibpdmbccfgoaaGreatDoor
open Go.RowKit
set_option linter.unusedVariables false

def NmRun (s : ByteArray) (i : Nat) (v4 : Value) : Prop :=
  ∃ d : Nat, 0 < d ∧ i + d ≤ s.size ∧ v4 = .int .i64 ((i + d : Nat) : Int) ∧ ∀ x, x < d → isNm (bAt s (i + x)) = true

theorem empty_len {O : ByteArray} : O.toList = [] ↔ O.size = 0 := by
  rw [ByteArray.toList_eq]
  constructor
  · intro h
    have := congrArg List.length h
    rw [Array.length_toList] at this
    exact this
  · intro h
    have : O.data.toList.length = 0 := by rw [Array.length_toList]; exact h
    exact List.eq_nil_of_length_eq_zero this

/-- How a name ends. -/
def NmNoX (s : ByteArray) (k g : Nat) (D P : Value) (B : Nat) (W : World) (e : Ending) (w' : World) : Prop :=
  ∃ (v x : Value) (i' : Nat), ErrV v ∧ e = .returned (.tuple #[x, v]) ∧ PrX s g i' D P B W w' ∧ ∃ (acc : ByteArray) (i : Nat), NmAc s k acc i ∧ (NmBad s i ∨ (NmStop s i ∧ acc.size = 0))
def NmYesX (s : ByteArray) (k g : Nat) (D P : Value) (B : Nat) (W : World) (e : Ending) (w' : World) : Prop :=
  ∃ (out : ByteArray) (i' : Nat), e = .returned (.tuple #[.string out, .nilIface]) ∧ PrX s g i' D P B W w' ∧ i' ≤ s.size ∧ NmAc s k out i' ∧ NmStop s i' ∧ 0 < out.size
def NmPostX (s : ByteArray) (k g : Nat) (D P : Value) (B : Nat) (W : World) (e : Ending) (w' : World) : Prop := NmNoX s k g D P B W e w' ∨ NmYesX s k g D P B W e w'

/-- Behind the loop: what has been read, and that no more of the name stands there. -/
def NmLX (s : ByteArray) (k g : Nat) (D P : Value) (B : Nat) (W : World) (v2 v4 : Value) (wx : World) : Prop :=
  ∃ (O : ByteArray) (i i' : Nat), v2 = .string O ∧ v4 = .int .i64 (i : Int) ∧ O.size ≤ 400000 ∧ NmAc s k O i ∧ NmStop s i ∧ PrX s g i' D P B W wx

set_option maxRecDepth 100000 in
set_option maxHeartbeats 8000000 in
theorem pNameX_any (s : ByteArray) (g k : Nat) (D P : Value) (B : Nat) (W w : World) (hs : s.size ≤ 100000) (hk : k ≤ s.size) (h : PrX s g k D P B W w) :
    Calls Tryz.prog 52 #[.pointer (some ⟨g, 0, none⟩)] w (NmPostX s k g D P B W) := by
  have HR := Lib.hid h
  have c0 := h.c0
  have c1 := h.c1
  clear h
  go_enter Tryz.func52, Tryz.ntmps52
  go_wp2_with fail
  go_step3
  go_wp2_with fail
  go_step3
  go_upto_block 0 with fail
  go_cut [2, 4] (fun v2 v4 wx => NmLX s k g D P B W v2 v4 wx)
  case first =>
    go_wp2_with fail
    go_loopg [2, 4] (s.size - k) (fun gk v2 v4 wr => ∃ (O : ByteArray) (i i' : Nat), v2 = .string O ∧ v4 = .int .i64 (i : Int) ∧ gk = s.size - i ∧ O.size ≤ 4 * i ∧ i ≤ s.size ∧ Hid (NmAc s k O i) ∧ Hid (PrX s g i' D P B W wr))
    case atStart => exact ⟨ByteArray.empty, k, k, rfl, rfl, rfl, Nat.zero_le _, hk, NmAc.zero, HR.out⟩
    case round =>
      obtain ⟨O, i, i', rfl, rfl, rfl, hO, hi, HA, HW⟩ := hrel
      clear c0 c1
      have c0 := HW.out.c0
      have c1 := HW.out.c1
      have f1 := HW.out.fz 1
      by_cases hlt : i < s.size
      · obtain ⟨c, hc⟩ : ∃ c : Nat, c = bAt s i := ⟨_, rfl⟩
        have hc256 : c < 256 := by rw [hc]; exact bAt_lt _ _
        have HNm := Lib.hid (fun U => nameChar_any c hc256 U)
        have hb := bAt_in hlt
        rw [← hc] at hb
        unfold NmP at HNm
        rw [hb] at HNm
        cases hn : isNm c
        · rw [← hb, hn, hb] at HNm
          by_cases h92 : c = 92
          · have m0 : ((s[i].toNat : Int) == 92) = true := beq_iff_eq.2 (by omega)
            cases hE : escAt s i
            · -- no escape
              have HEs : Hid (∀ U, PrX s g i D P B W U → Calls Tryz.prog 63 #[.pointer (some ⟨g, 0, none⟩)] U (PEscNoX s g D P B W)) := fun U h => pEscNoX_any s g i D P B W U (by omega) hi hE h
              have HBad : Hid (NmBad s i) := ⟨hlt, by rw [← hc]; exact h92, hE⟩
              have HS := Lib.hid (HW.out.set i)
              clear hc hc256 hb hn h92 hE
              go_wp2_with fail
              refine (HNm.out _).mono ?_
              rintro e1 w1 ⟨rfl, rfl⟩
              go_wp2_with fail
              refine (HEs.out _ HS.out).mono ?_
              rintro e1 w1 ⟨v, x, i2, ⟨pp, rfl⟩, rfl, hr⟩
              have HR2 := Lib.hid hr
              clear hr
              go_wp2_with fail
              first
                | rw [Exit.noGoto_ret]
                | skip
              go_ret2
              exact .inl ⟨_, _, i2, ⟨pp, rfl⟩, rfl, HR2.out, O, i, HA.out, .inl HBad.out⟩
            · have HEs : Hid (∀ U, PrX s g i D P B W U → Calls Tryz.prog 63 #[.pointer (some ⟨g, 0, none⟩)] U (PEscYesX s g i D P B W)) := fun U h => pEscYesX_any s g i D P B W U (by omega) hE h
              have HE := Lib.hid hE
              have HS := Lib.hid (HW.out.set i)
              clear hc hc256 hb hn h92 hE
              go_wp2_with fail
              refine (HNm.out _).mono ?_
              rintro e1 w1 ⟨rfl, rfl⟩
              go_wp2_with fail
              refine (HEs.out _ HS.out).mono ?_
              rintro e1 w1 ⟨out, i2, rfl, hr, hle, hpe⟩
              have HR2 := Lib.hid hr
              have c1' := hr.c1
              have hsz := pesc_size hpe
              have HA2 := Lib.hid (HA.out.esc HE.out hpe hle)
              have hO2 : (O ++ out).size ≤ 4 * i2 := by rw [ByteArray.size_append]; omega
              have hOs := hsz.1
              have hlt2 := hsz.2
              clear hr hpe hsz c0 c1 f1
              go_wp2_with fail
              go_roundg (s.size - i2)
              case measure => omega
              case rel => exact ⟨_, i2, i2, rfl, rfl, rfl, hO2, hle, HA2, HR2⟩
          · have m0 : ((s[i].toNat : Int) == 92) = false := beq_eq_false_iff_ne.2 (by omega)
            have HSt : Hid (NmStop s i) := ⟨hi, fun _ => by rw [← hc]; exact ⟨hn, h92⟩⟩
            have hO4 : O.size ≤ 400000 := by omega
            clear hc hc256 hb hn h92
            go_wp2_with fail
            refine (HNm.out _).mono ?_
            rintro e1 w1 ⟨rfl, rfl⟩
            go_wp2_with fail
            go_meet
            exact ⟨O, i, i', rfl, rfl, hO4, HA.out, HSt.out, HW.out⟩
        · rw [← hb, hn, hb] at HNm
          have HN0 : Hid (isNm (bAt s i) = true) := by rw [Hid, ← hc]; exact hn
          clear hc hc256 hb hn
          go_wp2_with fail
          refine (HNm.out _).mono ?_
          rintro e1 w1 ⟨rfl, rfl⟩
          clear HNm
          go_upto_block 3 with fail
          obtain ⟨wo, rfl⟩ : ∃ wo : World, wo = wr := ⟨_, rfl⟩
          go_cut [4] (fun v4 wx => NmRun s i v4 ∧ wo = wx)
          case first =>
            go_wp2_with fail
            go_loopg [4] (s.size - i) (fun gk v4 wr => ∃ d : Nat, gk = s.size - (i + d) ∧ i + d ≤ s.size ∧ v4 = .int .i64 ((i + d : Nat) : Int) ∧ Hid (∀ x, x < d → isNm (bAt s (i + x)) = true) ∧ wo = wr)
            case atStart => exact ⟨0, rfl, hi, rfl, (fun x hx => absurd hx (Nat.not_lt_zero x)), rfl⟩
            case round =>
              obtain ⟨d, rfl, hd, rfl, HD, rfl⟩ := hrel
              by_cases hlt2 : i + d < s.size
              · obtain ⟨c, hc⟩ : ∃ c : Nat, c = bAt s (i + d) := ⟨_, rfl⟩
                have hc256 : c < 256 := by rw [hc]; exact bAt_lt _ _
                have HNm := Lib.hid (fun U => nameChar_any c hc256 U)
                have hb := bAt_in hlt2
                rw [← hc] at hb
                unfold NmP at HNm
                rw [hb] at HNm
                cases hn : isNm c
                · rw [← hb, hn, hb] at HNm
                  have hpos : 0 < d := by
                    rcases Nat.eq_zero_or_pos d with q | q
                    · subst q
                      have := HN0.out
                      rw [Nat.add_zero] at hc
                      rw [← hc, hn] at this; cases this
                    · exact q
                  clear hc hc256 hb hn
                  go_wp2_with fail
                  refine (HNm.out _).mono ?_
                  rintro e1 w1 ⟨rfl, rfl⟩
                  go_wp2_with fail
                  go_meet
                  exact ⟨⟨d, hpos, hd, rfl, HD.out⟩, rfl⟩
                · rw [← hb, hn, hb] at HNm
                  have HD2 : Hid (∀ x, x < d + 1 → isNm (bAt s (i + x)) = true) := fun x hx => by
                    by_cases q : x < d
                    · exact HD.out x q
                    · have : x = d := by omega
                      subst this; rw [← hc]; exact hn
                  clear hc hc256 hb hn
                  go_wp2_with fail
                  refine (HNm.out _).mono ?_
                  rintro e1 w1 ⟨rfl, rfl⟩
                  go_wp2_with fail
                  go_roundg (s.size - (i + (d + 1)))
                  case measure => omega
                  case rel => exact ⟨d + 1, rfl, by omega, by go_num, HD2, by trivial⟩
              · have hpos : 0 < d := by omega
                go_wp2_with fail
                go_meet
                exact ⟨⟨d, hpos, hd, rfl, HD.out⟩, rfl⟩
          case rest =>
            obtain ⟨⟨d, hpos, hd, rfl, hdn⟩, rfl⟩ := hcut
            have HA2 := Lib.hid (HA.out.run d hd hdn)
            have hXs : (s.extract i (i + d)).size ≤ d := by rw [ByteArray.size_extract]; omega
            have hO2 : (O ++ s.extract i (i + d)).size ≤ 4 * (i + d) := by rw [ByteArray.size_append]; omega
            clear hdn
            go_wp2_with fail
            go_roundg (s.size - (i + d))
            case measure => omega
            case rel => exact ⟨_, i + d, i', rfl, rfl, rfl, hO2, hd, HA2, HW⟩
      · have HSt : Hid (NmStop s i) := ⟨hi, fun q => absurd q hlt⟩
        have hO4 : O.size ≤ 400000 := by omega
        go_wp2_with fail
        go_meet
        exact ⟨O, i, i', rfl, rfl, hO4, HA.out, HSt.out, HW.out⟩
  case rest =>
    obtain ⟨O, i, i', rfl, rfl, hO, ha, hst, hr⟩ := hcut
    have HA := Lib.hid ha
    have HSt := Lib.hid hst
    have HW := Lib.hid hr
    have hi := hst.1
    clear c0 c1
    have f1 := hr.fz 1
    have c1 := hr.c1
    have HS := Lib.hid (hr.set i)
    clear ha hst hr
    by_cases h0 : O.size = 0
    · have m0 : O.toList = [] := empty_len.2 h0
      have m1 : O.toList.isEmpty = true := by rw [m0]; rfl
      have H0 := Lib.hid h0
      clear h0
      go_wp2_with fail
      refine (errNew_any _ _).mono ?_
      rintro e1 w1 ⟨v, ⟨pp, rfl⟩, rfl, hb⟩
      have HB := Lib.hid hb
      clear hb
      go_wp2_with fail
      go_ret2
      exact .inl ⟨_, _, i', ⟨pp, rfl⟩, rfl, HW.out.next HB.out, O, i, HA.out, .inr ⟨HSt.out, H0.out⟩⟩
    · have m1 : O.toList.isEmpty = false := by
        cases hh : O.toList.isEmpty
        · rfl
        · exact absurd (empty_len.1 (List.isEmpty_iff.1 hh)) h0
      have hpos : 0 < O.size := by omega
      clear h0
      go_wp2_with fail
      go_ret2
      exact .inr ⟨O, i, rfl, HS.out, hi, HA.out, HSt.out, hpos⟩
end Go.Proofs.YtnibpdmbccfgoaaGreatDoor
