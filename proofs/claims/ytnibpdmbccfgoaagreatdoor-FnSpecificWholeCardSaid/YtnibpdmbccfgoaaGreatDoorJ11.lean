/- FnSpecificWhole: texts joined (joinf.py) -/
import Derived.Test.YtnibpdmbccfgoaaGreatDoorJ1
import Derived.Test.YtnibpdmbccfgoaaGreatDoorJ10
import Derived.Test.YtnibpdmbccfgoaaGreatDoorT668
namespace Go.Proofs.YtnibpdmbccfgoaaGreatDoor
open Go.RowKit
set_option linter.unusedVariables false

theorem smpB_iff {k : Int} : smpB k = true ↔ isSmp k := by unfold smpB isSmp; rw [decide_eq_true_eq]
theorem cpxB_iff {k : Int} : cpxB k = true ↔ isCpx k := by unfold cpxB isCpx isSmp; rw [decide_eq_true_eq]
def ShpQ (u : ST) : Prop := Shp u ∧ (18 ≤ u.top.kind ∧ u.top.kind ≤ 20 → NoPs u.flat)
theorem kid_at {L : List Sn} {i : Nat} {u : ST} (hu : AtT L i u) {j : Nat} (hj : j < u.kids.list.length) :
    ∃ q, (posL (i + 1) u.kids.list)[j]? = some q ∧ AtT L q u.kids.list[j] ∧ ∃ hq : q < L.length, L[q] = (u.kids.list[j]).top := by
  have hj2 : j < (posL (i + 1) u.kids.list).length := by rw [posL_len]; exact hj
  have h := posL_at u.kids.list (i + 1) hu.kids j hj hj2
  exact ⟨_, List.getElem?_eq_getElem hj2, h, h.top⟩
theorem kid_at2 {L : List Sn} {i : Nat} {u v : ST} (hu : AtT L i u) {j : Nat} (hj : u.kids.list[j]? = some v) : ∃ q, (posL (i + 1) u.kids.list)[j]? = some q ∧ AtT L q v ∧ ∃ hq : q < L.length, L[q] = v.top := by
  obtain ⟨h1, e⟩ := List.getElem?_eq_some_iff.1 hj
  obtain ⟨q, h2, h3, h4⟩ := kid_at hu h1
  rw [e] at h3 h4
  exact ⟨q, h2, h3, h4⟩
theorem two_of {l : List ST} (h : l.length = 2) : ∃ v v', l = [v, v'] := by
  match l, h with
  | [v, v'], _ => exact ⟨v, v', rfl⟩
theorem one_of {l : List ST} (h : l.length = 1) : ∃ v, l = [v] := by
  match l, h with
  | [v], _ => exact ⟨v, rfl⟩
theorem KRow.get {w : World} {lo : Nat} {p : Option Addr} {ps : List Nat} (h : KRow w lo p ps) {j q : Nat} (hq : ps[j]? = some q) : ∃ b, p = some ⟨b, 0, none⟩ ∧ b < w.heap.size ∧ w.cell? ⟨b, j, none⟩ = some (.int .i64 (q : Int)) := by
  obtain ⟨hj, e⟩ := List.getElem?_eq_some_iff.1 hq
  obtain ⟨b, h1, h2, h3⟩ := h.at_ (by omega)
  exact ⟨b, h1, h2, by rw [← e]; exact h3 j hj⟩

set_option maxRecDepth 100000 in
set_option maxHeartbeats 8000000 in
theorem selShaped_any (a : Option Addr) (c : Nat) (L : List Sn) (hL : L.length ≤ 1000) (hc : L.length ≤ c) (i : Nat) (u : ST) (w : World) (h : SSl w w.heap.size a L) (hu : AtT L i u) (hok : u.Ok) :
    Calls Tryz.prog 18 #[.slice a L.length c, .int .i64 (i : Int)] w (TruB (ShpQ u) w) := by
  have HKd : Hid (Calls Tryz.prog 22 #[.slice a L.length c, .int .i64 (i : Int)] w (KdP L i u w)) := selKids_any a c L hL i u w h hu hok
  have hle := hu.le
  obtain ⟨hi, htop⟩ := hu.top
  obtain ⟨b, o, rfl, hbB, hcs⟩ := h.at_ (by omega)
  have HH := Lib.hid h
  have HU := Lib.hid hu
  have HO := Lib.hid hok
  -- cells in whatever world
  have HC : Hid (∀ wr, Below w.heap.size w wr → ∀ q (hq : q < L.length), SnC wr b (o + q * 8) L[q]) := fun wr hb q hq => (hcs q hq).1.below hb hbB
  have HT := Lib.hid htop
  clear h hu hok hcs htop
  go_enter Tryz.func18, Tryz.ntmps18
  go_wp2_with fail
  refine HKd.out.mono ?_
  rintro e1 w1 ⟨p, cp, rfl, hb1, hk1⟩
  have hcell := HC.out w1 hb1 i hi
  obtain ⟨c0, c1, c2, c3, c4, c5, c6, c7⟩ := hcell
  have HB1 := Lib.hid hb1
  have HK1 := Lib.hid hk1
  obtain ⟨X, hX⟩ : ∃ X, X = L[i] := ⟨_, rfl⟩
  rw [← hX] at c0 c1 c2 c3 c4 c5 c6 c7
  have HX2 : Hid (L[i] = X) := hX.symm
  have HX : Hid (X = u.top) := by rw [Hid, hX]; exact HT.out
  obtain ⟨kd, hkd⟩ : ∃ kd, kd = X.kind := ⟨_, rfl⟩
  rw [← hkd] at c0
  have HKd2 : Hid (kd = u.top.kind) := by rw [Hid, hkd, HX.out]
  clear hb1 hk1 hX hkd HT HKd
  go_upto_region 4 with fail
  refine wp_gen (R := fun U => Below w.heap.size w U ∧ KRow U w.heap.size p (posL (i + 1) u.kids.list)) ⟨HB1.out.alloc HB1.out.size _, HK1.out.below ((Below.refl _ _).alloc (Nat.le_refl _) _)⟩ ?_
  rintro W1 ⟨hBW, hKW⟩
  have HBW := Lib.hid hBW
  have HKW := Lib.hid hKW
  have c0 := (HC.out W1 hBW i hi).c0
  rw [HX2.out, HX.out, ← HKd2.out] at c0
  clear c1 c2 c3 c4 c5 c6 c7 HB1 HK1 hBW hKW
  have hno : ∀ b, b = false → Hid (b = true → ShpQ u) := fun b hb q => by rw [hb] at q; cases q
  have HNo := Lib.hid hno
  clear hno
  have hkl : u.kids.list.length ≤ 1000 := by
    have : u.kids.list.length ≤ u.flat.length := by
      rw [u.flat_cons, SK.flat_list]
      have : ∀ l : List ST, l.length ≤ (l.flatMap ST.flat).length := by
        intro l
        induction l with
        | nil => simp
        | cons x l ih => rw [List.flatMap_cons, List.length_append, List.length_cons]; have := x.len_pos; omega
      have := this u.kids.list
      simp; simpa using Nat.le_succ_of_le this
    omega
  by_cases k23 : kd = 23
  · have m23 : (kd == 23) = true := beq_iff_eq.2 k23
    have HK23 := Lib.hid k23
    clear k23
    go_wp2_with fail
    go_loopg [7] u.kids.list.length (fun gk v7 wr => ∃ k : Nat, gk = u.kids.list.length - k ∧ k ≤ u.kids.list.length ∧ v7 = .int .i64 k ∧ Hid (∀ j (hj : j < u.kids.list.length), j < k → isCpx (u.kids.list[j]).top.kind) ∧ W1 = wr)
    case atStart => exact ⟨0, rfl, Nat.zero_le _, rfl, (fun j _ q => absurd q (Nat.not_lt_zero j)), rfl⟩
    case round =>
      obtain ⟨k, rfl, hk, rfl, HA, rfl⟩ := hrel
      by_cases hlt : k < u.kids.list.length
      · obtain ⟨q, hq, hqt, hql, hqtop⟩ := kid_at HU.out hlt
        have hc0 := (HC.out W1 HBW.out q hql).c0
        rw [hqtop] at hc0
        obtain ⟨bk, rfl, hbk, hck⟩ := HKW.out.get hq
        obtain ⟨kk, hkk⟩ : ∃ kk, kk = (u.kids.list[k]).top.kind := ⟨_, rfl⟩
        rw [← hkk] at hc0
        have HKK := Lib.hid hkk
        clear hkk hqtop hqt
        have HCx := Lib.hid (isComplex_any kk W1)
        go_wp2_with fail
        refine HCx.out.mono ?_
        rintro e2 w2 ⟨rfl, rfl⟩
        cases hb : cpxB kk
        · clear hb
          go_wp2_with fail
          go_ret
          exact ⟨false, rfl, HNo.out false rfl, HBW.out⟩
        · have HS : Hid (∀ j (hj : j < u.kids.list.length), j < k + 1 → isCpx (u.kids.list[j]).top.kind) := fun j hj q => by
            by_cases c : j < k
            · exact HA.out j hj c
            · obtain rfl : j = k := by omega
              rw [← HKK.out]
              exact cpxB_iff.1 hb
          clear hb
          go_wp2_with fail
          go_roundg (u.kids.list.length - (k + 1))
          case measure => omega
          case rel => exact ⟨k + 1, rfl, by omega, by go_num, HS.out, by trivial⟩
      · by_cases h0 : 0 < u.kids.list.length
        · have HQ : Hid (ShpQ u) := ⟨.inl ⟨by rw [← HKd2.out]; exact HK23.out, h0, fun v hv => by
            obtain ⟨j, hj, rfl⟩ := List.getElem_of_mem hv
            exact HA.out j hj (by omega)⟩, fun q => by rw [← HKd2.out, HK23.out] at q; omega⟩
          go_wp2_with fail
          go_ret
          exact ⟨true, rfl, fun _ => HQ.out, HBW.out⟩
        · go_wp2_with fail
          go_ret
          exact ⟨false, rfl, HNo.out false rfl, HBW.out⟩
  have m23 : (kd == 23) = false := beq_eq_false_iff_ne.2 k23
  have HN23 : Hid (¬ kd = 23) := k23
  clear k23
  by_cases k18 : 18 ≤ kd ∧ kd ≤ 20
  · have HK18 := Lib.hid k18
    have h3 : kd = 18 ∨ kd = 19 ∨ kd = 20 := by omega
    clear k18
    rcases h3 with k | k | k
    · have m18 : (kd == 18) = true := beq_iff_eq.2 k
      clear k
      by_cases h1 : u.kids.list.length = 1
      · have m1 : ((u.kids.list.length : Int) == 1) = true := beq_iff_eq.2 (by omega)
        have hlp : 0 < u.kids.list.length := by omega
        obtain ⟨v, hv⟩ := one_of h1
        obtain ⟨q, hq, hqt, hql, hqtop⟩ := kid_at2 HU.out (j := 0) (v := v) (by rw [hv]; rfl)
        have hc0 := (HC.out W1 HBW.out q hql).c0
        rw [hqtop] at hc0
        obtain ⟨bk, rfl, hbk, hck⟩ := HKW.out.get hq
        obtain ⟨kk, hkk⟩ : ∃ kk, kk = v.top.kind := ⟨_, rfl⟩
        rw [← hkk] at hc0
        have HKK := Lib.hid hkk
        have HV := Lib.hid hv
        clear hkk hqtop hqt h1 hv
        by_cases k3 : kk = 23
        · have m3 : (kk == 23) = true := beq_iff_eq.2 k3
          have HK3 := Lib.hid k3
          clear k3
          have HSB := Lib.hid (selBeneath_any (some ⟨b, o, none⟩) c L hL hc i u W1 ((HH.out.below HBW.out).more HBW.out.size) HU.out HO.out)
          go_wp2_with fail
          refine HSB.out.mono ?_
          rintro e2 w2 ⟨a', c', rfl, hsl, rfl⟩
          have HHP := Lib.hid (hasPseudo_any a' c' u.flat (by omega) W1 hsl)
          clear hsl
          go_wp2_with fail
          refine HHP.out.mono ?_
          rintro e3 w3 ⟨r, rfl, hrr, rfl⟩
          cases r
          · have HQ : Hid (ShpQ u) := ⟨.inr (.inl ⟨by rw [← HKd2.out]; exact HK18.out.1, by rw [← HKd2.out]; exact HK18.out.2, v, HV.out, by rw [← HKK.out]; exact HK3.out⟩), fun _ => hrr rfl⟩
            clear hrr
            go_wp2_with fail
            go_ret
            exact ⟨true, rfl, fun _ => HQ.out, HBW.out⟩
          · clear hrr
            go_wp2_with fail
            go_ret
            exact ⟨false, rfl, HNo.out false rfl, HBW.out⟩
        · have m3 : (kk == 23) = false := beq_eq_false_iff_ne.2 k3
          clear k3
          go_wp2_with fail
          go_ret
          exact ⟨false, rfl, HNo.out false rfl, HBW.out⟩
      · have m1 : ((u.kids.list.length : Int) == 1) = false := beq_eq_false_iff_ne.2 (by omega)
        clear h1
        go_wp2_with fail
        go_ret
        exact ⟨false, rfl, HNo.out false rfl, HBW.out⟩
    · have m18 : (kd == 18) = false := beq_eq_false_iff_ne.2 (by omega)
      have m19 : (kd == 19) = true := beq_iff_eq.2 k
      clear k
      by_cases h1 : u.kids.list.length = 1
      · have m1 : ((u.kids.list.length : Int) == 1) = true := beq_iff_eq.2 (by omega)
        have hlp : 0 < u.kids.list.length := by omega
        obtain ⟨v, hv⟩ := one_of h1
        obtain ⟨q, hq, hqt, hql, hqtop⟩ := kid_at2 HU.out (j := 0) (v := v) (by rw [hv]; rfl)
        have hc0 := (HC.out W1 HBW.out q hql).c0
        rw [hqtop] at hc0
        obtain ⟨bk, rfl, hbk, hck⟩ := HKW.out.get hq
        obtain ⟨kk, hkk⟩ : ∃ kk, kk = v.top.kind := ⟨_, rfl⟩
        rw [← hkk] at hc0
        have HKK := Lib.hid hkk
        have HV := Lib.hid hv
        clear hkk hqtop hqt h1 hv
        by_cases k3 : kk = 23
        · have m3 : (kk == 23) = true := beq_iff_eq.2 k3
          have HK3 := Lib.hid k3
          clear k3
          have HSB := Lib.hid (selBeneath_any (some ⟨b, o, none⟩) c L hL hc i u W1 ((HH.out.below HBW.out).more HBW.out.size) HU.out HO.out)
          go_wp2_with fail
          refine HSB.out.mono ?_
          rintro e2 w2 ⟨a', c', rfl, hsl, rfl⟩
          have HHP := Lib.hid (hasPseudo_any a' c' u.flat (by omega) W1 hsl)
          clear hsl
          go_wp2_with fail
          refine HHP.out.mono ?_
          rintro e3 w3 ⟨r, rfl, hrr, rfl⟩
          cases r
          · have HQ : Hid (ShpQ u) := ⟨.inr (.inl ⟨by rw [← HKd2.out]; exact HK18.out.1, by rw [← HKd2.out]; exact HK18.out.2, v, HV.out, by rw [← HKK.out]; exact HK3.out⟩), fun _ => hrr rfl⟩
            clear hrr
            go_wp2_with fail
            go_ret
            exact ⟨true, rfl, fun _ => HQ.out, HBW.out⟩
          · clear hrr
            go_wp2_with fail
            go_ret
            exact ⟨false, rfl, HNo.out false rfl, HBW.out⟩
        · have m3 : (kk == 23) = false := beq_eq_false_iff_ne.2 k3
          clear k3
          go_wp2_with fail
          go_ret
          exact ⟨false, rfl, HNo.out false rfl, HBW.out⟩
      · have m1 : ((u.kids.list.length : Int) == 1) = false := beq_eq_false_iff_ne.2 (by omega)
        clear h1
        go_wp2_with fail
        go_ret
        exact ⟨false, rfl, HNo.out false rfl, HBW.out⟩
    · have m18 : (kd == 18) = false := beq_eq_false_iff_ne.2 (by omega)
      have m19 : (kd == 19) = false := beq_eq_false_iff_ne.2 (by omega)
      have m20 : (kd == 20) = true := beq_iff_eq.2 k
      clear k
      by_cases h1 : u.kids.list.length = 1
      · have m1 : ((u.kids.list.length : Int) == 1) = true := beq_iff_eq.2 (by omega)
        have hlp : 0 < u.kids.list.length := by omega
        obtain ⟨v, hv⟩ := one_of h1
        obtain ⟨q, hq, hqt, hql, hqtop⟩ := kid_at2 HU.out (j := 0) (v := v) (by rw [hv]; rfl)
        have hc0 := (HC.out W1 HBW.out q hql).c0
        rw [hqtop] at hc0
        obtain ⟨bk, rfl, hbk, hck⟩ := HKW.out.get hq
        obtain ⟨kk, hkk⟩ : ∃ kk, kk = v.top.kind := ⟨_, rfl⟩
        rw [← hkk] at hc0
        have HKK := Lib.hid hkk
        have HV := Lib.hid hv
        clear hkk hqtop hqt h1 hv
        by_cases k3 : kk = 23
        · have m3 : (kk == 23) = true := beq_iff_eq.2 k3
          have HK3 := Lib.hid k3
          clear k3
          have HSB := Lib.hid (selBeneath_any (some ⟨b, o, none⟩) c L hL hc i u W1 ((HH.out.below HBW.out).more HBW.out.size) HU.out HO.out)
          go_wp2_with fail
          refine HSB.out.mono ?_
          rintro e2 w2 ⟨a', c', rfl, hsl, rfl⟩
          have HHP := Lib.hid (hasPseudo_any a' c' u.flat (by omega) W1 hsl)
          clear hsl
          go_wp2_with fail
          refine HHP.out.mono ?_
          rintro e3 w3 ⟨r, rfl, hrr, rfl⟩
          cases r
          · have HQ : Hid (ShpQ u) := ⟨.inr (.inl ⟨by rw [← HKd2.out]; exact HK18.out.1, by rw [← HKd2.out]; exact HK18.out.2, v, HV.out, by rw [← HKK.out]; exact HK3.out⟩), fun _ => hrr rfl⟩
            clear hrr
            go_wp2_with fail
            go_ret
            exact ⟨true, rfl, fun _ => HQ.out, HBW.out⟩
          · clear hrr
            go_wp2_with fail
            go_ret
            exact ⟨false, rfl, HNo.out false rfl, HBW.out⟩
        · have m3 : (kk == 23) = false := beq_eq_false_iff_ne.2 k3
          clear k3
          go_wp2_with fail
          go_ret
          exact ⟨false, rfl, HNo.out false rfl, HBW.out⟩
      · have m1 : ((u.kids.list.length : Int) == 1) = false := beq_eq_false_iff_ne.2 (by omega)
        clear h1
        go_wp2_with fail
        go_ret
        exact ⟨false, rfl, HNo.out false rfl, HBW.out⟩
  have HN18 : Hid (¬ (18 ≤ kd ∧ kd ≤ 20)) := k18
  have m18 : (kd == 18) = false := beq_eq_false_iff_ne.2 (by omega)
  have m19 : (kd == 19) = false := beq_eq_false_iff_ne.2 (by omega)
  have m20 : (kd == 20) = false := beq_eq_false_iff_ne.2 (by omega)
  clear k18
  by_cases k21 : kd = 21
  · have m21 : (kd == 21) = true := beq_iff_eq.2 k21
    have HK21 := Lib.hid k21
    clear k21
    go_wp2_with fail
    go_loopg [8] u.kids.list.length (fun gk v7 wr => ∃ k : Nat, gk = u.kids.list.length - k ∧ k ≤ u.kids.list.length ∧ v7 = .int .i64 k ∧ Hid (∀ j (hj : j < u.kids.list.length), j < k → isSmp (u.kids.list[j]).top.kind ∧ (0 < j → (u.kids.list[j]).top.kind ≠ 2)) ∧ W1 = wr)
    case atStart => exact ⟨0, rfl, Nat.zero_le _, rfl, (fun j _ q => absurd q (Nat.not_lt_zero j)), rfl⟩
    case round =>
      obtain ⟨k, rfl, hk, rfl, HA, rfl⟩ := hrel
      by_cases hlt : k < u.kids.list.length
      · obtain ⟨q, hq, hqt, hql, hqtop⟩ := kid_at HU.out hlt
        have hc0 := (HC.out W1 HBW.out q hql).c0
        rw [hqtop] at hc0
        obtain ⟨bk, rfl, hbk, hck⟩ := HKW.out.get hq
        obtain ⟨kk, hkk⟩ : ∃ kk, kk = (u.kids.list[k]).top.kind := ⟨_, rfl⟩
        rw [← hkk] at hc0
        have HKK := Lib.hid hkk
        clear hkk hqtop hqt
        have HCx := Lib.hid (isSimple_any kk W1)
        have step : ∀ (h1 : smpB kk = true) (h2 : 0 < k → kk ≠ 2), Hid (∀ j (hj : j < u.kids.list.length), j < k + 1 → isSmp (u.kids.list[j]).top.kind ∧ (0 < j → (u.kids.list[j]).top.kind ≠ 2)) := fun h1 h2 j hj q => by
          by_cases c : j < k
          · exact HA.out j hj c
          · obtain rfl : j = k := by omega
            rw [← HKK.out]
            exact ⟨smpB_iff.1 h1, h2⟩
        have HS := Lib.hid step
        clear step
        go_wp2_with fail
        refine HCx.out.mono ?_
        rintro e2 w2 ⟨rfl, rfl⟩
        cases hb : smpB kk
        · clear hb
          go_wp2_with fail
          go_ret
          exact ⟨false, rfl, HNo.out false rfl, HBW.out⟩
        · have HB := Lib.hid hb
          clear hb
          by_cases k2 : kk = 2
          · have m2 : (kk == 2) = true := beq_iff_eq.2 k2
            by_cases k0 : 0 < k
            · clear k2
              go_wp2_with fail
              go_ret
              exact ⟨false, rfl, HNo.out false rfl, HBW.out⟩
            · clear k2
              go_wp2_with fail
              go_roundg (u.kids.list.length - (k + 1))
              case measure => omega
              case rel => exact ⟨k + 1, rfl, by omega, by go_num, HS.out HB.out (fun q => absurd q k0), by trivial⟩
          · have m2 : (kk == 2) = false := beq_eq_false_iff_ne.2 k2
            have HK2 : Hid (kk ≠ 2) := k2
            clear k2
            go_wp2_with fail
            go_roundg (u.kids.list.length - (k + 1))
            case measure => omega
            case rel => exact ⟨k + 1, rfl, by omega, by go_num, HS.out HB.out (fun _ => HK2.out), by trivial⟩
      · have HQ : Hid (ShpQ u) := ⟨.inr (.inr (.inl ⟨by rw [← HKd2.out]; exact HK21.out, fun v hv => by
            obtain ⟨j, hj, rfl⟩ := List.getElem_of_mem hv
            exact (HA.out j hj (by omega)).1, fun v hv => by
            obtain ⟨j, hj, rfl⟩ := List.getElem_of_mem hv
            rw [List.length_drop] at hj
            rw [List.getElem_drop]
            exact (HA.out (1 + j) (by omega) (by omega)).2 (by omega)⟩)), fun q => by rw [← HKd2.out, HK21.out] at q; omega⟩
        go_wp2_with fail
        go_ret
        exact ⟨true, rfl, fun _ => HQ.out, HBW.out⟩
  have m21 : (kd == 21) = false := beq_eq_false_iff_ne.2 k21
  have HN21 : Hid (¬ kd = 21) := k21
  clear k21
  by_cases k22 : kd = 22
  · have m22 : (kd == 22) = true := beq_iff_eq.2 k22
    have HK22 := Lib.hid k22
    clear k22
    by_cases h2 : u.kids.list.length = 2
    · have m2 : ((u.kids.list.length : Int) == 2) = true := beq_iff_eq.2 (by omega)
      have hlp : 0 < u.kids.list.length := by omega
      have hlp1 : 1 < u.kids.list.length := by omega
      obtain ⟨v, v', hv⟩ := two_of h2
      obtain ⟨q, hq, hqt, hql, hqtop⟩ := kid_at2 HU.out (j := 0) (v := v) (by rw [hv]; rfl)
      have hc0 := (HC.out W1 HBW.out q hql).c0
      rw [hqtop] at hc0
      obtain ⟨bk, rfl, hbk, hck⟩ := HKW.out.get hq
      obtain ⟨kk, hkk⟩ : ∃ kk, kk = v.top.kind := ⟨_, rfl⟩
      rw [← hkk] at hc0
      obtain ⟨q', hq', hqt', hql', hqtop'⟩ := kid_at2 HU.out (j := 1) (v := v') (by rw [hv]; rfl)
      have hc1 := (HC.out W1 HBW.out q' hql').c0
      rw [hqtop'] at hc1
      obtain ⟨bk', hbe, _, hck'⟩ := HKW.out.get hq'
      obtain rfl : bk = bk' := by cases hbe; rfl
      obtain ⟨kk', hkk'⟩ : ∃ kk, kk = v'.top.kind := ⟨_, rfl⟩
      rw [← hkk'] at hc1
      have HKK := Lib.hid hkk
      have HKK' := Lib.hid hkk'
      have HV := Lib.hid hv
      have HSB := Lib.hid (selBeneath_any (some ⟨b, o, none⟩) c L hL hc q _ W1 ((HH.out.below HBW.out).more HBW.out.size) hqt (HO.out.kids.mem _ (by rw [hv]; exact List.mem_cons_self ..)))
      have HFl : Hid (v.flat.length ≤ 1000) := by have := hqt.le; exact Nat.le_trans (by omega) hL
      clear hkk hqtop hqt hkk' hqtop' hqt' h2 hbe hq hq' hv
      have HCx := Lib.hid (isComplex_any kk W1)
      have HCx' := Lib.hid (isComplex_any kk' W1)
      go_wp2_with fail
      refine HCx.out.mono ?_
      rintro e2 w2 ⟨rfl, rfl⟩
      cases hb : cpxB kk
      · clear hb
        go_wp2_with fail
        go_ret
        exact ⟨false, rfl, HNo.out false rfl, HBW.out⟩
      have HB := Lib.hid hb
      clear hb
      go_wp2_with fail
      refine HCx'.out.mono ?_
      rintro e2 w2 ⟨rfl, rfl⟩
      cases hb : cpxB kk'
      · clear hb
        go_wp2_with fail
        go_ret
        exact ⟨false, rfl, HNo.out false rfl, HBW.out⟩
      have HB' := Lib.hid hb
      clear hb
      by_cases k3 : kk' = 22
      · have m3 : (kk' != 22) = false := by rw [k3]; rfl
        clear k3
        go_wp2_with fail
        go_ret
        exact ⟨false, rfl, HNo.out false rfl, HBW.out⟩
      have m3 : (kk' != 22) = true := by simp; exact k3
      have HQ : Hid (ShpQ u) := ⟨.inr (.inr (.inr (.inl ⟨by rw [← HKd2.out]; exact HK22.out, v, v', HV.out, by rw [← HKK.out]; exact cpxB_iff.1 HB.out, by rw [← HKK'.out]; exact cpxB_iff.1 HB'.out, by rw [← HKK'.out]; exact k3⟩))), fun q => by rw [← HKd2.out, HK22.out] at q; omega⟩
      clear k3
      go_wp2_with fail
      refine HSB.out.mono ?_
      rintro e2 w2 ⟨a', c', rfl, hsl, rfl⟩
      have HHP := Lib.hid (hasPseudo_any a' c' _ HFl.out W1 hsl)
      clear hsl
      go_wp2_with fail
      refine HHP.out.mono ?_
      rintro e3 w3 ⟨r, rfl, _, rfl⟩
      cases r
      · go_wp2_with fail
        go_ret
        exact ⟨true, rfl, fun _ => HQ.out, HBW.out⟩
      · go_wp2_with fail
        go_ret
        exact ⟨false, rfl, HNo.out false rfl, HBW.out⟩
    · have m2 : ((u.kids.list.length : Int) == 2) = false := beq_eq_false_iff_ne.2 (by omega)
      clear h2
      go_wp2_with fail
      go_ret
      exact ⟨false, rfl, HNo.out false rfl, HBW.out⟩
  have m22 : (kd == 22) = false := beq_eq_false_iff_ne.2 k22
  have HSm := Lib.hid (isSimple_any kd W1)
  cases hb : smpB kd
  · have HB := Lib.hid hb
    clear hb k22
    go_wp2_with fail
    refine HSm.out.mono ?_
    rintro e2 w2 ⟨rfl, rfl⟩
    rw [HB.out]
    go_wp2_with fail
    go_ret
    exact ⟨false, rfl, HNo.out false rfl, HBW.out⟩
  · have hsm : 1 ≤ kd ∧ kd ≤ 20 := smpB_iff.1 hb
    have HB := Lib.hid hb
    clear hb
    by_cases h0 : u.kids.list.length = 0
    · have HQ : Hid (ShpQ u) := ⟨.inr (.inr (.inr (.inr ⟨by rw [← HKd2.out]; exact hsm.1, by rw [← HKd2.out]; have := HN18.out; omega, List.length_eq_zero_iff.1 h0⟩))), fun q => by rw [← HKd2.out] at q; exact absurd q HN18.out⟩
      have m0 : ((u.kids.list.length : Int) == 0) = true := beq_iff_eq.2 (by omega)
      clear k22 hsm
      go_wp2_with fail
      refine HSm.out.mono ?_
      rintro e2 w2 ⟨rfl, rfl⟩
      rw [HB.out]
      go_wp2_with fail
      go_ret
      exact ⟨true, rfl, fun _ => HQ.out, HBW.out⟩
    · have m0 : ((u.kids.list.length : Int) == 0) = false := beq_eq_false_iff_ne.2 (by omega)
      clear k22 hsm
      go_wp2_with fail
      refine HSm.out.mono ?_
      rintro e2 w2 ⟨rfl, rfl⟩
      rw [HB.out]
      go_wp2_with fail
      go_ret
      exact ⟨false, rfl, HNo.out false rfl, HBW.out⟩
end Go.Proofs.YtnibpdmbccfgoaaGreatDoor

namespace Go.Proofs.YtnibpdmbccfgoaaGreatDoor
open Go.RowKit
set_option linter.unusedVariables false

mutual
def ST.subs : ST → List ST
  | .nd x ks => .nd x ks :: ks.subs
def SK.subs : SK → List ST
  | .nil => []
  | .cons t ks => t.subs ++ ks.subs
end
mutual
theorem ST.subs_len : ∀ t : ST, t.subs.length = t.flat.length
  | .nd x ks => by
    show (_ :: ks.subs).length = (x :: ks.flat).length
    rw [List.length_cons, List.length_cons, SK.subs_len ks]
theorem SK.subs_len : ∀ ks : SK, ks.subs.length = ks.flat.length
  | .nil => rfl
  | .cons t ks => by
    show (t.subs ++ ks.subs).length = (t.flat ++ ks.flat).length
    rw [List.length_append, List.length_append, ST.subs_len t, SK.subs_len ks]
end
mutual
theorem ST.subs_at {L : List Sn} : ∀ (t : ST) (i : Nat), AtT L i t → ∀ (j : Nat) (u : ST), t.subs[j]? = some u → AtT L (i + j) u
  | .nd x ks, i, h, j, u, hu => by
    have hu : (ST.nd x ks :: ks.subs)[j]? = some u := hu
    cases j with
    | zero => rw [List.getElem?_cons_zero] at hu; cases hu; exact h
    | succ j =>
      rw [List.getElem?_cons_succ] at hu
      obtain ⟨r, h⟩ := h
      have h2 : L.drop (i + 1) = ks.flat ++ r := by
        rw [← List.drop_drop, h]; rfl
      rw [show i + (j + 1) = i + 1 + j by omega]
      exact SK.subs_at ks (i + 1) r h2 j u hu
theorem SK.subs_at {L : List Sn} : ∀ (ks : SK) (i : Nat) (r : List Sn), L.drop i = ks.flat ++ r → ∀ (j : Nat) (u : ST), ks.subs[j]? = some u → AtT L (i + j) u
  | .nil, i, r, h, j, u, hu => by
    have hu : ([] : List ST)[j]? = some u := hu
    cases hu
  | .cons t ks, i, r, h, j, u, hu => by
    have hu : (t.subs ++ ks.subs)[j]? = some u := hu
    have h : L.drop i = t.flat ++ ks.flat ++ r := h
    rw [List.append_assoc] at h
    by_cases c : j < t.subs.length
    · rw [List.getElem?_append_left c] at hu
      exact ST.subs_at t i ⟨_, h⟩ j u hu
    · rw [List.getElem?_append_right (by omega)] at hu
      have h2 : L.drop (i + t.flat.length) = ks.flat ++ r := by rw [← List.drop_drop, h, List.drop_left]
      have := SK.subs_at ks _ r h2 _ u hu
      rw [t.subs_len] at this c
      rw [show i + j = i + t.flat.length + (j - t.flat.length) by omega]
      exact this
end
mutual
theorem ST.subs_ok : ∀ t : ST, t.Ok → ∀ u ∈ t.subs, u.Ok
  | .nd x ks, h, u, hu => by
    rcases List.mem_cons.1 (show u ∈ (ST.nd x ks :: ks.subs) from hu) with rfl | q
    · exact h
    · exact SK.subs_ok ks h.2 u q
theorem SK.subs_ok : ∀ ks : SK, ks.Ok → ∀ u ∈ ks.subs, u.Ok
  | .nil, h, u, hu => by
    have hu : u ∈ ([] : List ST) := hu
    cases hu
  | .cons t ks, h, u, hu => by
    rcases List.mem_append.1 (show u ∈ t.subs ++ ks.subs from hu) with q | q
    · exact ST.subs_ok t h.1 u q
    · exact SK.subs_ok ks h.2 u q
end
mutual
theorem ST.subs_all {P : ST → Prop} : ∀ t : ST, (∀ u ∈ t.subs, P u) → t.All P
  | .nd x ks, h => ⟨h _ (show _ ∈ (ST.nd x ks :: ks.subs) from List.mem_cons_self ..), SK.subs_all ks (fun u hu => h u (show _ ∈ (ST.nd x ks :: ks.subs) from List.mem_cons_of_mem _ hu))⟩
theorem SK.subs_all {P : ST → Prop} : ∀ ks : SK, (∀ u ∈ ks.subs, P u) → ks.All P
  | .nil, h => trivial
  | .cons t ks, h => ⟨ST.subs_all t (fun u hu => h u (show _ ∈ t.subs ++ ks.subs from List.mem_append_left _ hu)), SK.subs_all ks (fun u hu => h u (show _ ∈ t.subs ++ ks.subs from List.mem_append_right _ hu))⟩
end
mutual
theorem ST.subs_mem {P : ST → Prop} : ∀ t : ST, t.All P → ∀ u ∈ t.subs, P u
  | .nd x ks, h, u, hu => by
    rcases List.mem_cons.1 (show u ∈ (ST.nd x ks :: ks.subs) from hu) with rfl | q
    · exact h.1
    · exact SK.subs_mem ks h.2 u q
theorem SK.subs_mem {P : ST → Prop} : ∀ ks : SK, ks.All P → ∀ u ∈ ks.subs, P u
  | .nil, h, u, hu => by
    have hu : u ∈ ([] : List ST) := hu
    cases hu
  | .cons t ks, h, u, hu => by
    rcases List.mem_append.1 (show u ∈ t.subs ++ ks.subs from hu) with q | q
    · exact ST.subs_mem t h.1 u q
    · exact SK.subs_mem ks h.2 u q
end
/-- A selector, all of whose nodes are as their kinds say. -/
def RtQ (L : List Sn) : Prop := ∃ t : ST, t.Ok ∧ L = t.flat ∧ t.All (fun u => FOk u.top ∧ ShpQ u)
theorem szq_whole {L : List Sn} (hp : 0 < L.length) (h : SzQ L 0 L.length) (hs : L[0].size = (L.length : Int)) : ∃ t : ST, t.Ok ∧ L = t.flat := by
  obtain ⟨u, hok, hat, _⟩ := h
  refine ⟨u, hok, ?_⟩
  obtain ⟨_, ht⟩ := hat.top
  have e := hok.size
  rw [← ht, hs] at e
  obtain ⟨r, hr⟩ := hat
  rw [List.drop_zero] at hr
  have hl := congrArg List.length hr
  rw [List.length_append] at hl
  have hr0 : r = [] := List.eq_nil_of_length_eq_zero (by omega)
  rw [hr, hr0, List.append_nil]

set_option maxRecDepth 100000 in
set_option maxHeartbeats 8000000 in
theorem selRight_any (a : Option Addr) (c : Nat) (L : List Sn) (hL : L.length ≤ 60) (hc : L.length ≤ c) (w : World) (h : SSl w w.heap.size a L) (hf : ∀ x ∈ L, Fit6 x) :
    Calls Tryz.prog 12 #[.slice a L.length c] w (TruB (RtQ L) w) := by
  by_cases h0 : L.length = 0
  · rw [h0]
    go_enter Tryz.func12, Tryz.ntmps12
    go_wp2_with fail
    go_ret
    exact ⟨false, rfl, fun q => (by cases q), Below.refl _ _⟩
  have hp : 0 < L.length := by omega
  have m0 : ((L.length : Int) == 0) = false := beq_eq_false_iff_ne.2 (by omega)
  have HZ : Hid (Calls Tryz.prog 16 #[.slice a L.length c, .int .i64 0, .int .i64 L.length] w (SomeB (fun b => b = true → SzQ L 0 L.length) w)) :=
    selSized_any a c L hL 60 0 L.length 0 L.length w rfl rfl h hp (Nat.le_refl _) (Nat.zero_le _) (by omega)
  have HH := Lib.hid h
  obtain ⟨b, o, rfl, hbB, hcs⟩ := h.at_ hp
  have HC : Hid (∀ wr, Below w.heap.size w wr → ∀ q (hq : q < L.length), SnC wr b (o + q * 8) L[q] ∧ SnR L[q]) := fun wr hb q hq => ⟨(hcs q hq).1.below hb hbB, (hcs q hq).2⟩
  have c7 := (hcs 0 hp).1.c7
  have HF := Lib.hid hf
  clear h hcs hf
  rw [Nat.zero_mul, Nat.add_zero] at c7
  obtain ⟨sz, hsz⟩ : ∃ sz, L[0].size = sz := ⟨_, rfl⟩
  rw [hsz] at c7
  have HSz := Lib.hid hsz
  clear hsz
  by_cases c1 : sz = (L.length : Int)
  · have m1 : (sz != (L.length : Int)) = false := by rw [c1]; exact bne_self_eq_false _
    go_enter Tryz.func12, Tryz.ntmps12
    go_wp2_with fail
    refine HZ.out.mono ?_
    rintro e1 w1 ⟨r, rfl, hr, rfl⟩
    cases r
    case false =>
      go_wp2_with fail
      go_ret
      exact ⟨false, rfl, fun q => (by cases q), Below.refl _ _⟩
    case true =>
      obtain ⟨t, hok, hflat⟩ := szq_whole hp (hr rfl) (HSz.out.trans c1)
      have HT : Hid (t.Ok ∧ L = t.flat) := ⟨hok, hflat⟩
      have hsl := t.subs_len
      have HA : Hid (∀ j u, t.subs[j]? = some u → AtT L j u ∧ u.Ok) := fun j u hu => ⟨by
          have := ST.subs_at (L := L) t 0 ⟨[], by rw [List.drop_zero, List.append_nil, hflat]⟩ j u hu
          rwa [Nat.zero_add] at this, t.subs_ok hok u (List.mem_of_getElem? hu)⟩
      rw [← hflat] at hsl
      clear hok hflat hr HZ
      go_wp2_with fail
      go_loopg [3] (L.length) (fun gk x wr => ∃ k : Nat, gk = L.length - k ∧ k ≤ L.length ∧ x = .int .i64 k ∧ Hid (∀ j u, j < k → t.subs[j]? = some u → FOk u.top ∧ ShpQ u) ∧ Hid (Below w.heap.size w wr))
      case atStart => exact ⟨0, rfl, Nat.zero_le _, rfl, (fun j _ q => absurd q (Nat.not_lt_zero j)), Below.refl _ _⟩
      case round =>
        obtain ⟨k, rfl, hk, rfl, HG, HB⟩ := hrel
        by_cases hlt : k < L.length
        · obtain ⟨hcs, hrs⟩ := HC.out wr HB.out k hlt
          obtain ⟨d0, d1, d2, d3, d4, d5, d6, d7⟩ := hcs
          obtain ⟨u, hu⟩ : ∃ u, t.subs[k]? = some u := ⟨_, List.getElem?_eq_getElem (by omega)⟩
          obtain ⟨hat, hok⟩ := HA.out k u hu
          have HU := Lib.hid hu
          have HUt : Hid (L[k] = u.top) := hat.top.2
          have HX : Hid (∀ U, Calls Tryz.prog 17 #[.agg #[.int .i64 L[k].kind, .int .i64 L[k].op, .string L[k].key, .string L[k].val, .int .i64 L[k].a, .int .i64 L[k].b, .int .i64 L[k].flag, .int .i64 L[k].size]] U (TruB (FOk L[k]) U)) := fun U => selFields_any L[k] U hrs (HF.out _ (List.getElem_mem hlt))
          have HY : Hid (∀ U, Below w.heap.size w U → Calls Tryz.prog 18 #[.slice (some ⟨b, o, none⟩) L.length c, .int .i64 (k : Int)] U (TruB (ShpQ u) U)) := fun U hU => selShaped_any (some ⟨b, o, none⟩) c L (by omega) hc k u U ((HH.out.below hU).more hU.size) hat hok
          clear hrs hu hat hok
          go_wp2_with fail
          refine (HX.out _).mono ?_
          rintro e2 w2 ⟨r2, rfl, hr2, hb2⟩
          dsimp only
          have HB2 : Hid (Below w.heap.size w w2) := bnext HB.out hb2
          have HR2 := Lib.hid hr2
          clear hr2 hb2 d0 d1 d2 d3 d4 d5 d6 d7
          cases r2
          case false =>
            go_wp2_with fail
            go_ret
            exact ⟨false, rfl, fun q => (by cases q), HB2.out⟩
          case true =>
            go_wp2_with fail
            refine (HY.out _ HB2.out).mono ?_
            rintro e3 w3 ⟨r3, rfl, hr3, hb3⟩
            dsimp only
            have HB3 : Hid (Below w.heap.size w w3) := bnext HB2.out hb3
            have HR3 := Lib.hid hr3
            clear hr3 hb3
            cases r3
            case false =>
              go_wp2_with fail
              go_ret
              exact ⟨false, rfl, fun q => (by cases q), HB3.out⟩
            case true =>
              go_wp2_with fail
              go_roundg (L.length - (k + 1))
              case measure => omega
              case rel =>
                refine ⟨k + 1, rfl, by omega, by go_num, (fun j v hj hv => ?_), HB3.out⟩
                by_cases e : j = k
                · subst e
                  have : v = u := Option.some.inj (hv.symm.trans HU.out)
                  rw [this]
                  have h1 := HR2.out (by trivial)
                  rw [HUt.out] at h1
                  exact ⟨h1, HR3.out (by trivial)⟩
                · exact HG.out j v (by omega) hv
        · have hk2 : k = L.length := by omega
          subst hk2
          have HQ : Hid (RtQ L) := ⟨t, HT.out.1, HT.out.2, ST.subs_all t (fun u hu => by
              obtain ⟨j, hj, e⟩ := List.getElem_of_mem hu
              exact HG.out j u (by omega) (List.getElem?_eq_some_iff.2 ⟨hj, e⟩))⟩
          obtain ⟨hcs, hrs⟩ := HC.out wr HB.out 0 hp
          have d0 := hcs.c0
          rw [Nat.zero_mul, Nat.add_zero] at d0
          have HE : Hid (∀ U, Calls Tryz.prog 19 #[.int .i64 L[0].kind] U (BoB (cpxB L[0].kind) U)) := fun U => isComplex_any _ U
          obtain ⟨kd, hkd⟩ : ∃ kd, L[0].kind = kd := ⟨_, rfl⟩
          rw [hkd] at d0 HE
          clear hcs hrs hkd
          obtain ⟨q23, hq23⟩ : ∃ q, (kd == 23) = q := ⟨_, rfl⟩
          cases q23
          case true =>
            go_wp2_with fail
            go_ret
            exact ⟨true, rfl, fun _ => HQ.out, HB.out⟩
          case false =>
            go_wp2_with fail
            refine (HE.out _).mono ?_
            rintro e2 w2 ⟨rfl, rfl⟩
            go_wp2_with fail
            go_ret
            exact ⟨_, rfl, fun _ => HQ.out, HB.out⟩
  · have m1 : (sz != (L.length : Int)) = true := bne_iff_ne.2 c1
    go_enter Tryz.func12, Tryz.ntmps12
    go_wp2_with fail
    go_ret
    exact ⟨false, rfl, fun q => (by cases q), Below.refl _ _⟩
end Go.Proofs.YtnibpdmbccfgoaaGreatDoor

namespace Go.Proofs.YtnibpdmbccfgoaaGreatDoor
open Go.RowKit
set_option linter.unusedVariables false

set_option maxRecDepth 100000 in
set_option maxHeartbeats 4000000 in
theorem small9_any (s : ByteArray) (w : World) (hs : s.size ≤ 2147483647) : Calls Tryz.prog 11 #[.string s] w (AnyB w) := by
  go_enter Tryz.func11, Tryz.ntmps11
  go_wp2_with fail
  go_loopg [3] (s.size) (fun gk x wr => ∃ k : Nat, gk = s.size - k ∧ k ≤ s.size ∧ x = .int .i64 k ∧ w = wr)
  case atStart => exact ⟨0, rfl, Nat.zero_le _, rfl, rfl⟩
  case round =>
    obtain ⟨k, rfl, hk, rfl, rfl⟩ := hrel
    by_cases hlt : k < s.size
    · obtain ⟨c, hc⟩ : ∃ c : UInt8, c = s[k] := ⟨_, rfl⟩
      obtain ⟨n, hn⟩ : ∃ n : Nat, n = c.toNat := ⟨_, rfl⟩
      go_wp2_with fail
      all_goals first
        | (go_ret
           exact ⟨_, rfl, rfl⟩)
        | (go_roundg (s.size - (k + 1))
           case measure => omega
           case rel => exact ⟨k + 1, rfl, by omega, by go_num, by trivial⟩)
    · go_wp2_with fail
      go_ret
      exact ⟨_, rfl, rfl⟩

def mn9 (x : Sn) : Nat := min (x.key.size + x.val.size) 1000
def sum9 (L : List Sn) (k : Nat) : Nat := ((L.take k).map mn9).sum
theorem sum9_succ {L : List Sn} {k : Nat} (h : k < L.length) : sum9 L (k + 1) = sum9 L k + mn9 L[k] := by
  unfold sum9
  rw [List.take_succ_eq_append_getElem h, List.map_append, List.sum_append]
  simp
theorem sum9_le (L : List Sn) : ∀ k, sum9 L k ≤ 1000 * k
  | 0 => Nat.le_refl _
  | k + 1 => by
    by_cases h : k < L.length
    · rw [sum9_succ h]
      have := sum9_le L k
      have : mn9 L[k] ≤ 1000 := Nat.min_le_right _ _
      omega
    · have := sum9_le L k
      have e : sum9 L (k + 1) = sum9 L k := by
        unfold sum9
        rw [List.take_of_length_le (by omega), List.take_of_length_le (by omega)]
      omega
/-- What laws.written9 tells if it is so. -/
def WrQ (L : List Sn) : Prop := L.length ≤ 60 ∧ sum9 L L.length ≤ 500 ∧ RtQ L

set_option maxRecDepth 100000 in
set_option maxHeartbeats 8000000 in
theorem written9_any (a : Option Addr) (c : Nat) (L : List Sn) (hc : L.length ≤ c) (w : World) (h : SSl w w.heap.size a L) (hf : ∀ x ∈ L, Fit6 x) :
    Calls Tryz.prog 5 #[.slice a L.length c] w (TruB (WrQ L) w) := by
  have hm := h.1
  unfold maxLen at hm
  by_cases hl : 60 < L.length
  · go_enter Tryz.func5, Tryz.ntmps5
    go_wp2_with fail
    go_ret
    exact ⟨false, rfl, fun q => (by cases q), Below.refl _ _⟩
  · have HS : Hid (Calls Tryz.prog 12 #[.slice a L.length c] w (TruB (RtQ L) w)) := selRight_any a c L (by omega) hc w h hf
    have HF := Lib.hid hf
    have HH := Lib.hid h
    clear h hf
    go_enter Tryz.func5, Tryz.ntmps5
    go_wp2_with fail
    go_loopg [3, 4] (L.length) (fun gk s x wr => ∃ k : Nat, gk = L.length - k ∧ k ≤ L.length ∧ s = .int .i64 (sum9 L k : Nat) ∧ x = .int .i64 k ∧ Hid (Below w.heap.size w wr))
    case atStart => exact ⟨0, rfl, Nat.zero_le _, rfl, rfl, Below.refl _ _⟩
    case round =>
      obtain ⟨k, rfl, hk, rfl, rfl, HB⟩ := hrel
      by_cases hlt : k < L.length
      · obtain ⟨b, o, rfl, hbB, hcs⟩ := HH.out.at_ (by omega)
        obtain ⟨hc1, hr⟩ := hcs k hlt
        have HD : Hid (Below w.heap.size w wr.drew) := HB.out.drew
        have hc1' := hc1.below HB.out hbB
        have hc2 := hc1.below HD.out hbB
        have d2 := hc1'.c2
        have d3 := hc1'.c3
        have D0 := Lib.hid hc2.c0
        have D3 := Lib.hid hc2.c3
        obtain ⟨f1, f2⟩ := HF.out _ (List.getElem_mem hlt)
        have e9 := sum9_succ hlt
        have l9 := sum9_le L k
        obtain ⟨kd, hkd⟩ : ∃ kd, kd = L[k].kind := ⟨_, rfl⟩
        rw [← hkd] at D0
        have HSm : Hid (∀ U, Calls Tryz.prog 11 #[.string L[k].val] U (AnyB U)) := fun U => small9_any L[k].val U f2
        have HMn : Hid ((sum9 L k : Int) + min ((L[k].key.size : Int) + (L[k].val.size : Int)) 1000 = (sum9 L (k + 1) : Nat)) := by
          have : mn9 L[k] = min (L[k].key.size + L[k].val.size) 1000 := rfl
          rw [Hid]
          omega
        clear hc1 hc1' hc2 hr hcs hkd
        go_upto_region 7 with fail
        go_region
        rw [HMn.out]
        have d0 := D0.out
        have d3' := D3.out
        clear d2 d3
        obtain ⟨b15, hb15⟩ : ∃ q, (kd == 15) = q := ⟨_, rfl⟩
        obtain ⟨b16, hb16⟩ : ∃ q, (kd == 16) = q := ⟨_, rfl⟩
        obtain ⟨b17, hb17⟩ : ∃ q, (kd == 17) = q := ⟨_, rfl⟩
        go_wp2_with fail
        all_goals first
          | (go_roundg (L.length - (k + 1))
             case measure => omega
             case rel => exact ⟨k + 1, rfl, by omega, by first | (rw [e9]; go_num) | (rw [e9]; rfl), by go_num, HD.out⟩)
          | (refine (HSm.out _).mono ?_
             rintro e1 w1 ⟨q, rfl, rfl⟩
             dsimp only
             cases q
             · go_wp2_with fail
               go_ret
               exact ⟨false, rfl, fun q => (by cases q), HD.out⟩
             · go_wp2_with fail
               go_roundg (L.length - (k + 1))
               case measure => omega
               case rel => exact ⟨k + 1, rfl, by omega, by first | (rw [e9]; go_num) | (rw [e9]; rfl), by go_num, HD.out⟩)
      · have hk2 : k = L.length := by omega
        subst hk2
        by_cases c5 : sum9 L L.length ≤ 500
        · have HS2 : Hid (Calls Tryz.prog 12 #[.slice a L.length c] wr (TruB (RtQ L) wr)) := selRight_any a c L (by omega) hc wr ((HH.out.below HB.out).more HB.out.size) HF.out
          have HQ : Hid (RtQ L → WrQ L) := fun h => ⟨by omega, c5, h⟩
          go_wp2_with fail
          refine HS2.out.mono ?_
          rintro e1 w1 ⟨q, rfl, hq, hb⟩
          dsimp only
          have HB2 : Hid (Below w.heap.size w w1) := bnext HB.out hb
          have HQ2 : Hid (q = true → WrQ L) := fun h => HQ.out (hq h)
          clear hq hb
          go_wp2_with fail
          go_ret
          exact ⟨q, rfl, HQ2.out, HB2.out⟩
        · go_wp2_with fail
          go_ret
          exact ⟨false, rfl, fun q => (by cases q), HB.out⟩
end Go.Proofs.YtnibpdmbccfgoaaGreatDoor
