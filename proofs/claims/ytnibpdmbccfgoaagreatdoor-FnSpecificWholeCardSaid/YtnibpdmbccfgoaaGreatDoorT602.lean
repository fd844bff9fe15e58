/- parseIdentifier, for longer texts. -/
import Derived.Test.YtnibpdmbccfgoaaGreatDoorJ4
import Derived.Test.YtnibpdmbccfgoaaGreatDoorShelf
import Derived.Deep.DeepCutAuto
import Derived.Deep.CutBlock
namespace Go.Proofs.YtnibpdmbccfgoaaGreatDoor
open Go.RowKit
set_option linter.unusedVariables false

/-- Hyphens from k on. -/
structure HyA (s : ByteArray) (k n : Nat) : Prop where
  le : k + n ≤ s.size
  all : ∀ x, x < n → bAt s (k + x) = 45
  stop : k + n < s.size → bAt s (k + n) ≠ 45
def rep (n : Nat) : ByteArray := ⟨(Lib.repeatL [45] n).toArray⟩
/-- Where a name may be read. -/
def begS (s : ByteArray) (h : Nat) : Prop := h < s.size ∧ (isBgG (bAt s h) = true ∨ bAt s h = 92)
def IdNo (s : ByteArray) (k : Nat) : Prop := ∃ n, HyA s k n ∧ (¬ begS s (k + n) ∨ (begS s (k + n) ∧ ∃ acc i, NmAc s (k + n) acc i ∧ (NmBad s i ∨ (NmStop s i ∧ acc.size = 0))))
def IdYes (s : ByteArray) (k : Nat) (O : ByteArray) (i : Nat) : Prop := ∃ n acc, HyA s k n ∧ begS s (k + n) ∧ NmAc s (k + n) acc i ∧ NmStop s i ∧ 0 < acc.size ∧ O = rep n ++ acc
def IdP (s : ByteArray) (k g : Nat) (D P : Value) (B : Nat) (W : World) (e : Ending) (w' : World) : Prop :=
  (∃ (v x : Value) (i : Nat), ErrV v ∧ e = .returned (.tuple #[x, v]) ∧ PrX s g i D P B W w' ∧ IdNo s k) ∨
  (∃ (O : ByteArray) (i : Nat), e = .returned (.tuple #[.string O, .nilIface]) ∧ PrX s g i D P B W w' ∧ i ≤ s.size ∧ IdYes s k O i)

set_option maxRecDepth 100000 in
set_option maxHeartbeats 8000000 in
theorem pIdentifier_any (s : ByteArray) (g k : Nat) (D P : Value) (B : Nat) (W w : World) (hs : s.size ≤ 100000) (hk : k ≤ s.size) (h : PrX s g k D P B W w) :
    Calls Tryz.prog 50 #[.pointer (some ⟨g, 0, none⟩)] w (IdP s k g D P B W) := by
  have HR := Lib.hid h
  clear h
  go_enter Tryz.func50, Tryz.ntmps50
  go_upto_block 0 with fail
  go_cut [4] (fun v wx => ∃ n : Nat, v = .int .i64 (n : Int) ∧ HyA s k n ∧ PrX s g (k + n) D P B W wx)
  case first =>
    go_wp2_with fail
    go_loopg [4] (s.size - k) (fun gk v wr => ∃ n h : Nat, Hid (h = k + n) ∧ gk = s.size - h ∧ v = .int .i64 (n : Int) ∧ n ≤ h ∧ h ≤ s.size ∧ Hid (∀ x, x < n → bAt s (k + x) = 45) ∧ Hid (PrX s g h D P B W wr))
    case atStart => exact ⟨0, k, rfl, rfl, rfl, Nat.zero_le _, hk, (fun x hx => absurd hx (Nat.not_lt_zero x)), HR.out⟩
    case round =>
      obtain ⟨n, h, HH, rfl, rfl, hn, hh, HA, HW⟩ := hrel
      have c0 := HW.out.c0
      have c1 := HW.out.c1
      have f1 := HW.out.fz 1
      by_cases hlt : h < s.size
      · have hb := bAt_in hlt
        have hg2 : decide (h < s.size) = true := decide_eq_true hlt
        have hg1 : decide ((h : Int) < (s.size : Int)) = true := decide_eq_true (by omega)
        by_cases h45 : s[h].toNat = 45
        · have m0 : ((s[h].toNat : Int) == 45) = true := beq_iff_eq.2 (by omega)
          have HA2 : Hid (∀ x, x < n + 1 → bAt s (k + x) = 45) := fun x hx => by
            by_cases q : x < n
            · exact HA.out x q
            · obtain rfl : x = n := by omega
              rw [← HH.out, hb]; exact h45
          have HH2 : Hid (h + 1 = k + (n + 1)) := by have := HH.out; rw [Hid]; omega
          have HS : Hid (∀ U q x, x = ((h + 1 : Nat) : Int) → PrX s g h D P B W U → PrX s g (h + 1) D P B W ((U.drewN q).setCell ⟨g, 1, none⟩ (.int .i64 x))) := fun U q x hx h => (h.drew q).setI _ _ hx
          clear hb h45
          go_wp2_with fail
          go_quiet (fail)
          go_wp2_with fail
          go_roundg (s.size - (h + 1))
          case measure => omega
          case rel => exact ⟨n + 1, h + 1, HH2, rfl, by go_num, by omega, hlt, HA2, HS.out _ _ _ (by omega) HW.out⟩
        · have m0 : ((s[h].toNat : Int) == 45) = false := beq_eq_false_iff_ne.2 (by omega)
          have HY : Hid (HyA s k n) := ⟨by rw [← HH.out]; exact hh, HA.out, fun _ => by rw [← HH.out, hb]; exact h45⟩
          have HW2 : Hid (∀ q, PrX s g (k + n) D P B W (wr.drewN q)) := fun q => by rw [← HH.out]; exact HW.out.drew q
          clear hb h45
          go_wp2_with fail
          go_quiet (fail)
          go_wp2_with fail
          go_meet
          exact ⟨n, rfl, HY.out, HW2.out _⟩
      · have HY : Hid (HyA s k n) := ⟨by rw [← HH.out]; exact hh, HA.out, fun q => absurd (by rw [HH.out]; exact q) hlt⟩
        have HW2 : Hid (∀ q, PrX s g (k + n) D P B W (wr.drewN q)) := fun q => by rw [← HH.out]; exact HW.out.drew q
        have hg2 : decide (h < s.size) = false := decide_eq_false hlt
        have hg1 : decide ((h : Int) < (s.size : Int)) = false := decide_eq_false (by omega)
        go_wp2_with fail
        go_quiet (fail)
        go_wp2_with fail
        go_meet
        exact ⟨n, rfl, HY.out, HW2.out _⟩
  case rest =>
    obtain ⟨n, rfl, hy, hr⟩ := hcut
    have HY := Lib.hid hy
    have HW := Lib.hid hr
    have hle := hy.le
    obtain ⟨h, hh⟩ : ∃ h, h = k + n := ⟨_, rfl⟩
    rw [← hh] at HW hle
    have HH := Lib.hid hh
    have hn1 : n ≤ 100000 := by omega
    have c0 := HW.out.c0
    have c1 := HW.out.c1
    clear hy hr hh
    by_cases hlt : h < s.size
    · have hb := bAt_in hlt
      obtain ⟨c, hc⟩ : ∃ c, c = bAt s h := ⟨_, rfl⟩
      have hc256 : c < 256 := by rw [hc]; exact bAt_lt _ _
      have HNs := Lib.hid (fun U => nameStart_any c hc256 U)
      have HC := Lib.hid hc
      rw [← hc] at hb
      unfold BooP at HNs
      obtain ⟨b, hbb⟩ : ∃ b, b = isBgG c := ⟨_, rfl⟩
      rw [← hbb, hb] at HNs
      have HBb := Lib.hid hbb
      have HNm : Hid (∀ U, PrX s g h D P B W U → Calls Tryz.prog 52 #[.pointer (some ⟨g, 0, none⟩)] U (NmPostX s h g D P B W)) := fun U hU => pNameX_any s g h D P B W U hs hle hU
      have hyes : (b = true ∨ s[h].toNat = 92) → begS s (k + n) := fun q => by
        rw [← HH.out]
        refine ⟨hlt, ?_⟩
        rw [← HC.out, ← HBb.out, hb]
        exact q
      have hno : b = false → s[h].toNat ≠ 92 → ¬ begS s (k + n) := fun q1 q2 q3 => by
        rw [← HH.out] at q3
        have := q3.2
        rw [← HC.out, ← HBb.out, hb] at this
        rcases this with q | q
        · rw [q1] at q; cases q
        · exact q2 q
      by_cases h92 : s[h].toNat = 92
      · have m0 : ((s[h].toNat : Int) == 92) = true := beq_iff_eq.2 (by omega)
        have HYes := Lib.hid (hyes (.inr h92))
        clear hyes hno hc hc256 hb hbb h92
        cases b
        · go_wp2_with fail
          go_quiet (fail)
          go_wp2_with fail
          go_quiet (fail)
          go_wp2_with fail
          refine (HNs.out _).mono ?_
          rintro e1 w1 ⟨rfl, rfl⟩
          go_wp2_with fail
          refine (HNm.out _ (HW.out.drew _)).mono ?_
          rintro e1 w2 (⟨v, x, i', ⟨pp, rfl⟩, rfl, hr3, hbad⟩ | ⟨out, i', rfl, hr3, hi', hac, hst, hpos⟩)
          · have HR3 := Lib.hid hr3
            have HX : Hid (IdNo s k) := ⟨n, HY.out, .inr ⟨HYes.out, by rw [← HH.out]; exact hbad⟩⟩
            clear hr3 hbad
            by_cases h0 : 0 < n
            · have m1 : decide ((0 : Int) < (n : Int)) = true := decide_eq_true (by omega)
              go_wp2_with fail
              go_ret2
              exact .inl ⟨_, _, i', ⟨pp, rfl⟩, rfl, HR3.out, HX.out⟩
            · have m1 : decide ((0 : Int) < (n : Int)) = false := decide_eq_false (by omega)
              go_wp2_with fail
              go_ret2
              exact .inl ⟨_, _, i', ⟨pp, rfl⟩, rfl, HR3.out, HX.out⟩
          · have HR3 := Lib.hid hr3
            have hsz := hac.size.2
            have hosz : out.size ≤ 400000 := by omega
            have HX : Hid (∀ O, O = rep n ++ out → IdYes s k O i') := fun O q => ⟨n, out, HY.out, HYes.out, by rw [← HH.out]; exact hac, hst, hpos, q⟩
            have hRp : Hid (∀ U, Calls Tryz.prog 61 #[.string ⟨#[45]⟩, .int .i64 n] U fun e w' => e = .returned (.string (rep n)) ∧ Below U.heap.size U w') := fun U => Tryz.strings_Repeat ⟨#[45]⟩ n U (by omega) (by show 1 * n ≤ _; omega)
            obtain ⟨R, hR⟩ : ∃ R, R = rep n := ⟨_, rfl⟩
            have hRs : R.size ≤ 100000 := by
              rw [hR]
              show (Lib.repeatL [45] n).toArray.size ≤ 100000
              rw [List.size_toArray, Lib.repeatL_length]
              simp; omega
            rw [← hR] at hRp HX
            have hR0 : n = 0 → R = ByteArray.empty := fun q => by rw [hR, q]; rfl
            have HR0 := Lib.hid hR0
            clear hr3 hac hst hpos hsz hR hR0
            by_cases h0 : 0 < n
            · have m1 : decide ((0 : Int) < (n : Int)) = true := decide_eq_true (by omega)
              have hsum : (R ++ out).size ≤ 500000 := by rw [ByteArray.size_append]; omega
              go_wp2_with fail
              refine (hRp.out _).mono ?_
              rintro e1 w4 ⟨rfl, hb4⟩
              have HR4 := Lib.hid (HR3.out.next hb4)
              clear hb4
              go_wp2_with fail
              go_ret2
              exact .inr ⟨_, i', rfl, HR4.out, hi', HX.out _ rfl⟩
            · have m1 : decide ((0 : Int) < (n : Int)) = false := decide_eq_false (by omega)
              have HE : Hid (out = R ++ out) := by
                  have q : n = 0 := by omega
                  rw [Hid, HR0.out q]; exact ByteArray.empty_append.symm
              go_wp2_with fail
              go_ret2
              exact .inr ⟨_, i', rfl, HR3.out, hi', HX.out _ HE.out⟩
        · go_wp2_with fail
          go_quiet (fail)
          go_wp2_with fail
          go_quiet (fail)
          go_wp2_with fail
          refine (HNs.out _).mono ?_
          rintro e1 w1 ⟨rfl, rfl⟩
          go_wp2_with fail
          refine (HNm.out _ (HW.out.drew _)).mono ?_
          rintro e1 w2 (⟨v, x, i', ⟨pp, rfl⟩, rfl, hr3, hbad⟩ | ⟨out, i', rfl, hr3, hi', hac, hst, hpos⟩)
          · have HR3 := Lib.hid hr3
            have HX : Hid (IdNo s k) := ⟨n, HY.out, .inr ⟨HYes.out, by rw [← HH.out]; exact hbad⟩⟩
            clear hr3 hbad
            by_cases h0 : 0 < n
            · have m1 : decide ((0 : Int) < (n : Int)) = true := decide_eq_true (by omega)
              go_wp2_with fail
              go_ret2
              exact .inl ⟨_, _, i', ⟨pp, rfl⟩, rfl, HR3.out, HX.out⟩
            · have m1 : decide ((0 : Int) < (n : Int)) = false := decide_eq_false (by omega)
              go_wp2_with fail
              go_ret2
              exact .inl ⟨_, _, i', ⟨pp, rfl⟩, rfl, HR3.out, HX.out⟩
          · have HR3 := Lib.hid hr3
            have hsz := hac.size.2
            have hosz : out.size ≤ 400000 := by omega
            have HX : Hid (∀ O, O = rep n ++ out → IdYes s k O i') := fun O q => ⟨n, out, HY.out, HYes.out, by rw [← HH.out]; exact hac, hst, hpos, q⟩
            have hRp : Hid (∀ U, Calls Tryz.prog 61 #[.string ⟨#[45]⟩, .int .i64 n] U fun e w' => e = .returned (.string (rep n)) ∧ Below U.heap.size U w') := fun U => Tryz.strings_Repeat ⟨#[45]⟩ n U (by omega) (by show 1 * n ≤ _; omega)
            obtain ⟨R, hR⟩ : ∃ R, R = rep n := ⟨_, rfl⟩
            have hRs : R.size ≤ 100000 := by
              rw [hR]
              show (Lib.repeatL [45] n).toArray.size ≤ 100000
              rw [List.size_toArray, Lib.repeatL_length]
              simp; omega
            rw [← hR] at hRp HX
            have hR0 : n = 0 → R = ByteArray.empty := fun q => by rw [hR, q]; rfl
            have HR0 := Lib.hid hR0
            clear hr3 hac hst hpos hsz hR hR0
            by_cases h0 : 0 < n
            · have m1 : decide ((0 : Int) < (n : Int)) = true := decide_eq_true (by omega)
              have hsum : (R ++ out).size ≤ 500000 := by rw [ByteArray.size_append]; omega
              go_wp2_with fail
              refine (hRp.out _).mono ?_
              rintro e1 w4 ⟨rfl, hb4⟩
              have HR4 := Lib.hid (HR3.out.next hb4)
              clear hb4
              go_wp2_with fail
              go_ret2
              exact .inr ⟨_, i', rfl, HR4.out, hi', HX.out _ rfl⟩
            · have m1 : decide ((0 : Int) < (n : Int)) = false := decide_eq_false (by omega)
              have HE : Hid (out = R ++ out) := by
                  have q : n = 0 := by omega
                  rw [Hid, HR0.out q]; exact ByteArray.empty_append.symm
              go_wp2_with fail
              go_ret2
              exact .inr ⟨_, i', rfl, HR3.out, hi', HX.out _ HE.out⟩
      · have m0 : ((s[h].toNat : Int) == 92) = false := beq_eq_false_iff_ne.2 (by omega)
        cases b
        · have HNo := Lib.hid (hno rfl h92)
          clear hyes hno hc hc256 hb hbb h92
          go_wp2_with fail
          go_quiet (fail)
          go_wp2_with fail
          go_quiet (fail)
          go_wp2_with fail
          refine (HNs.out _).mono ?_
          rintro e1 w1 ⟨rfl, rfl⟩
          go_wp2_with fail
          refine (errNew_any _ _).mono ?_
          rintro e1 w2 ⟨v, ⟨pp, rfl⟩, rfl, hb2⟩
          have HB2 := Lib.hid hb2
          clear hb2
          go_wp2_with fail
          go_ret2
          exact .inl ⟨_, _, h, ⟨pp, rfl⟩, rfl, (HW.out.drew _).next HB2.out, n, HY.out, .inl HNo.out⟩
        · have HYes := Lib.hid (hyes (.inl rfl))
          clear hyes hno hc hc256 hb hbb h92
          go_wp2_with fail
          go_quiet (fail)
          go_wp2_with fail
          go_quiet (fail)
          go_wp2_with fail
          refine (HNs.out _).mono ?_
          rintro e1 w1 ⟨rfl, rfl⟩
          go_wp2_with fail
          refine (HNm.out _ (HW.out.drew _)).mono ?_
          rintro e1 w2 (⟨v, x, i', ⟨pp, rfl⟩, rfl, hr3, hbad⟩ | ⟨out, i', rfl, hr3, hi', hac, hst, hpos⟩)
          · have HR3 := Lib.hid hr3
            have HX : Hid (IdNo s k) := ⟨n, HY.out, .inr ⟨HYes.out, by rw [← HH.out]; exact hbad⟩⟩
            clear hr3 hbad
            by_cases h0 : 0 < n
            · have m1 : decide ((0 : Int) < (n : Int)) = true := decide_eq_true (by omega)
              go_wp2_with fail
              go_ret2
              exact .inl ⟨_, _, i', ⟨pp, rfl⟩, rfl, HR3.out, HX.out⟩
            · have m1 : decide ((0 : Int) < (n : Int)) = false := decide_eq_false (by omega)
              go_wp2_with fail
              go_ret2
              exact .inl ⟨_, _, i', ⟨pp, rfl⟩, rfl, HR3.out, HX.out⟩
          · have HR3 := Lib.hid hr3
            have hsz := hac.size.2
            have hosz : out.size ≤ 400000 := by omega
            have HX : Hid (∀ O, O = rep n ++ out → IdYes s k O i') := fun O q => ⟨n, out, HY.out, HYes.out, by rw [← HH.out]; exact hac, hst, hpos, q⟩
            have hRp : Hid (∀ U, Calls Tryz.prog 61 #[.string ⟨#[45]⟩, .int .i64 n] U fun e w' => e = .returned (.string (rep n)) ∧ Below U.heap.size U w') := fun U => Tryz.strings_Repeat ⟨#[45]⟩ n U (by omega) (by show 1 * n ≤ _; omega)
            obtain ⟨R, hR⟩ : ∃ R, R = rep n := ⟨_, rfl⟩
            have hRs : R.size ≤ 100000 := by
              rw [hR]
              show (Lib.repeatL [45] n).toArray.size ≤ 100000
              rw [List.size_toArray, Lib.repeatL_length]
              simp; omega
            rw [← hR] at hRp HX
            have hR0 : n = 0 → R = ByteArray.empty := fun q => by rw [hR, q]; rfl
            have HR0 := Lib.hid hR0
            clear hr3 hac hst hpos hsz hR hR0
            by_cases h0 : 0 < n
            · have m1 : decide ((0 : Int) < (n : Int)) = true := decide_eq_true (by omega)
              have hsum : (R ++ out).size ≤ 500000 := by rw [ByteArray.size_append]; omega
              go_wp2_with fail
              refine (hRp.out _).mono ?_
              rintro e1 w4 ⟨rfl, hb4⟩
              have HR4 := Lib.hid (HR3.out.next hb4)
              clear hb4
              go_wp2_with fail
              go_ret2
              exact .inr ⟨_, i', rfl, HR4.out, hi', HX.out _ rfl⟩
            · have m1 : decide ((0 : Int) < (n : Int)) = false := decide_eq_false (by omega)
              have HE : Hid (out = R ++ out) := by
                  have q : n = 0 := by omega
                  rw [Hid, HR0.out q]; exact ByteArray.empty_append.symm
              go_wp2_with fail
              go_ret2
              exact .inr ⟨_, i', rfl, HR3.out, hi', HX.out _ HE.out⟩
    · have HNo : Hid (¬ begS s (k + n)) := fun q => hlt (by have := q.1; rw [← HH.out] at this; exact this)
      go_wp2_with fail
      go_quiet (fail)
      go_wp2_with fail
      refine (errNew_any _ _).mono ?_
      rintro e1 w1 ⟨v, ⟨pp, rfl⟩, rfl, hb⟩
      have HB := Lib.hid hb
      clear hb
      go_wp2_with fail
      go_ret2
      exact .inl ⟨_, _, h, ⟨pp, rfl⟩, rfl, (HW.out.drew _).next HB.out, n, HY.out, .inl HNo.out⟩
end Go.Proofs.YtnibpdmbccfgoaaGreatDoor
