/- A compound as a text (spec.writtenCompound), given how its kids are written. -/
import Derived.Test.YtnibpdmbccfgoaaGreatDoorJ15
import Derived.Test.YtnibpdmbccfgoaaGreatDoorJ11
import Derived.Test.YtnibpdmbccfgoaaGreatDoorT659
namespace Go.Proofs.YtnibpdmbccfgoaaGreatDoor
open Go.RowKit
set_option linter.unusedVariables false

theorem bOf_toList (l : List UInt8) : (bOf l).toList = l := by rw [ByteArray.toList_eq]; simp [bOf]
def pairs (l : List ST) : List (Int × List UInt8) := l.map (fun u => (u.top.kind, u.wr))
def foldT (l : List ST) (k : Nat) : List UInt8 × List UInt8 := ((pairs l).take k).foldl cmpStep ([], [])
theorem foldT_succ {l : List ST} {k : Nat} (h : k < l.length) : foldT l (k + 1) = cmpStep (foldT l k) (l[k].top.kind, l[k].wr) := by
  unfold foldT
  have hl : k < (pairs l).length := by unfold pairs; rw [List.length_map]; exact h
  rw [List.take_succ_eq_append_getElem hl, List.foldl_append]
  have : (pairs l)[k] = (l[k].top.kind, l[k].wr) := List.getElem_map _
  rw [this]; rfl
theorem foldT_len (l : List ST) (k : Nat) : (foldT l k).1.length + (foldT l k).2.length ≤ lenS (pairs l) + (pairs l).length := by
  unfold foldT
  have h := cmp_len ((pairs l).take k) [] []
  have h1 : lenS ((pairs l).take k) ≤ lenS (pairs l) := by
    have : lenS (pairs l) = lenS ((pairs l).take k) + lenS ((pairs l).drop k) := by
      unfold lenS
      rw [← List.sum_append, ← List.map_append, List.take_append_drop]
    omega
  have h2 : ((pairs l).take k).length ≤ (pairs l).length := by rw [List.length_take]; omega
  simp only [List.length_nil] at h
  omega

set_option maxRecDepth 100000 in
set_option maxHeartbeats 8000000 in
theorem writtenCompound_of (a : Option Addr) (c : Nat) (L : List Sn) (hL : L.length ≤ 1000) (i : Nat) (u : ST) (w : World) (h : SSl w w.heap.size a L) (hu : AtT L i u) (hok : u.Ok) (hval : u.top.val = ⟨#[]⟩) (h21 : u.top.kind = 21)
    (hlen : (u.flat.map wtB).sum ≤ 100000)
    (hK : ∀ v ∈ u.kids.list, ∀ (q : Nat) (V : World), AtT L q v → Below w.heap.size w V → Calls Tryz.prog 14 #[.slice a L.length c, .int .i64 (q : Int)] V (StrB (bOf v.wr) V)) :
    Calls Tryz.prog 23 #[.slice a L.length c, .int .i64 (i : Int)] w (StrB (bOf u.wr) w) := by
  have HKd : Hid (Calls Tryz.prog 22 #[.slice a L.length c, .int .i64 (i : Int)] w (KdP L i u w)) := selKids_any a c L hL i u w h hu hok
  have hle := hu.le
  obtain ⟨hi, htop⟩ := hu.top
  obtain ⟨b, o, rfl, hbB, hcs⟩ := h.at_ (by omega)
  have HU := Lib.hid hu
  have HC : Hid (∀ wr, Below w.heap.size w wr → ∀ q (hq : q < L.length), SnC wr b (o + q * 8) L[q]) := fun wr hb q hq => (hcs q hq).1.below hb hbB
  have HT := Lib.hid htop
  have HK := Lib.hid hK
  have HVal : Hid (u.top.val = ⟨#[]⟩) := hval
  have hcm : lenS (pairs u.kids.list) + (pairs u.kids.list).length ≤ 100000 := by
    have h1 := SK.wrs_len u.kids
    have h2 : (u.kids.flat.map wtB).sum ≤ (u.flat.map wtB).sum := by rw [u.flat_cons, List.map_cons, List.sum_cons]; omega
    have h3 : u.kids.wrs = pairs u.kids.list := SK.wrs_list u.kids
    rw [h3] at h1
    omega
  have hfl : ∀ k, (foldT u.kids.list k).1.length + (foldT u.kids.list k).2.length ≤ 100000 := fun k => Nat.le_trans (foldT_len _ _) hcm
  have HFL := Lib.hid hfl
  have HSz : Hid (∀ v ∈ u.kids.list, v.wr.length ≤ 100000) := fun v hv => by have := ST.kid_sum hv; have := v.wr_len; omega
  have HWr : Hid (u.wr = cmpE (foldT u.kids.list u.kids.list.length)) := by
    rw [Hid, (ST.wr_cmp h21).1]
    unfold cmpL foldT pairs
    rw [List.take_of_length_le (by rw [List.length_map]; exact Nat.le_refl _)]
  have hkl : u.kids.list.length ≤ 100000 := by
    have : (pairs u.kids.list).length = u.kids.list.length := by unfold pairs; rw [List.length_map]
    omega
  clear h hu hok hcs htop hK hval h21 hlen hcm hfl
  go_enter Tryz.func23, Tryz.ntmps23
  go_wp2_with fail
  refine HKd.out.mono ?_
  rintro e1 w1 ⟨p, cp, rfl, hb1, hk1⟩
  have HB1 := Lib.hid hb1
  have HK1 := Lib.hid hk1
  clear hb1 hk1 HKd
  go_wp2_with fail
  go_loopg [6, 7, 8] u.kids.list.length (fun gk v6 v7 v8 wr => ∃ (k : Nat) (F R : ByteArray), gk = u.kids.list.length - k ∧ v8 = .int .i64 k ∧ v6 = .string F ∧ v7 = .string R ∧ k ≤ u.kids.list.length ∧ F.size ≤ 100000 ∧ R.size ≤ 100000 ∧ Hid (F = bOf (foldT u.kids.list k).1 ∧ R = bOf (foldT u.kids.list k).2) ∧ Hid (Below w.heap.size w wr) ∧ Hid (KRow wr w.heap.size p (posL (i + 1) u.kids.list)))
  case atStart => exact ⟨0, ⟨#[]⟩, ⟨#[]⟩, rfl, rfl, rfl, rfl, Nat.zero_le _, by decide, by decide, ⟨rfl, rfl⟩, HB1.out, HK1.out⟩
  case round =>
    obtain ⟨k, F, R, rfl, rfl, rfl, rfl, hk, hF, hR, HFR, HB, HKr⟩ := hrel
    by_cases hlt : k < u.kids.list.length
    · obtain ⟨q, hq, hqt, hql, hqtop⟩ := kid_at HU.out hlt
      have hc0 := (HC.out wr HB.out q hql).c0
      rw [hqtop] at hc0
      obtain ⟨bk, rfl, hbk, hck⟩ := HKr.out.get hq
      obtain ⟨kk, hkk⟩ : ∃ kk, kk = (u.kids.list[k]).top.kind := ⟨_, rfl⟩
      obtain ⟨X, hX⟩ : ∃ X, X = bOf (u.kids.list[k]).wr := ⟨_, rfl⟩
      rw [← hkk] at hc0
      have HW : Hid (∀ V, Below w.heap.size w V → Calls Tryz.prog 14 #[.slice (some ⟨b, o, none⟩) L.length c, .int .i64 (q : Int)] V (StrB X V)) := fun V hV => by rw [hX]; exact HK.out _ (List.getElem_mem _) q V hqt hV
      have hst := foldT_succ hlt
      have h1 := HFL.out (k + 1)
      have HB2 : Hid (∀ V, Below wr.heap.size wr V → Below w.heap.size w V ∧ KRow V w.heap.size (some ⟨bk, 0, none⟩) (posL (i + 1) u.kids.list)) := fun V hV => ⟨bnext HB.out hV, HKr.out.below hV⟩
      obtain ⟨hF1, hR1⟩ := HFR.out
      rw [← hkk] at hst
      clear hkk hqtop hqt hq
      have hXs : X.size ≤ 100000 := by rw [hX, bOf_size]; exact HSz.out _ (List.getElem_mem _)
      have HX := Lib.hid hX
      have HFl1 := Lib.hid h1
      have HSt := Lib.hid hst
      clear h1 hst hX
      by_cases k2 : kk = 2
      · have m2 : (kk == 2) = true := beq_iff_eq.2 k2
        have HS : Hid (X = bOf (foldT u.kids.list (k + 1)).1 ∧ R = bOf (foldT u.kids.list (k + 1)).2) := by
          rw [Hid, HSt.out]; unfold cmpStep; rw [if_pos k2]; exact ⟨HX.out, hR1⟩
        clear k2 hF1 hR1
        go_wp2_with fail
        refine (HW.out _ HB.out).mono ?_
        rintro e1 w2 ⟨rfl, hb2⟩
        have HB3 := Lib.hid (HB2.out _ hb2)
        clear hb2
        go_wp2_with fail
        go_roundg (u.kids.list.length - (k + 1))
        case measure => omega
        case rel => exact ⟨k + 1, _, _, rfl, by go_num, rfl, rfl, by omega, hXs, hR, HS.out, HB3.out.1, HB3.out.2⟩
      · have m2 : (kk == 2) = false := beq_eq_false_iff_ne.2 k2
        by_cases k1 : kk = 1
        · have m1 : (kk == 1) = true := beq_iff_eq.2 k1
          cases hf : F.toList.isEmpty
          · have HS : Hid (F = bOf (foldT u.kids.list (k + 1)).1 ∧ R = bOf (foldT u.kids.list (k + 1)).2) := by
              rw [Hid, HSt.out]; unfold cmpStep; rw [if_neg k2, if_pos k1]
              have : ¬ (foldT u.kids.list k).1 = [] := fun q => by rw [hF1, bOf_toList, q] at hf; cases hf
              rw [if_neg this]; exact ⟨hF1, hR1⟩
            clear k2 k1 hF1 hR1
            go_wp2_with fail
            go_roundg (u.kids.list.length - (k + 1))
            case measure => omega
            case rel => exact ⟨k + 1, _, _, rfl, by go_num, rfl, rfl, by omega, hF, hR, HS.out, HB.out, HKr.out⟩
          · have HS : Hid ((⟨#[42]⟩ : ByteArray) = bOf (foldT u.kids.list (k + 1)).1 ∧ R = bOf (foldT u.kids.list (k + 1)).2) := by
              rw [Hid, HSt.out]; unfold cmpStep; rw [if_neg k2, if_pos k1]
              have : (foldT u.kids.list k).1 = [] := by rw [hF1, bOf_toList] at hf; exact List.isEmpty_iff.1 hf
              rw [if_pos this]; exact ⟨rfl, hR1⟩
            clear k2 k1 hF1 hR1
            go_wp2_with fail
            go_roundg (u.kids.list.length - (k + 1))
            case measure => omega
            case rel => exact ⟨k + 1, _, _, rfl, by go_num, rfl, rfl, by omega, by decide, hR, HS.out, HB.out, HKr.out⟩
        · have m1 : (kk == 1) = false := beq_eq_false_iff_ne.2 k1
          have HS : Hid (F = bOf (foldT u.kids.list (k + 1)).1 ∧ R ++ X = bOf (foldT u.kids.list (k + 1)).2) := by
            rw [Hid, HSt.out]; unfold cmpStep; rw [if_neg k2, if_neg k1]
            exact ⟨hF1, by rw [hR1, HX.out, bOf_app]⟩
          have hRX : (R ++ X).size ≤ 100000 := by rw [HS.out.2, bOf_size]; have := HFl1.out; omega
          clear k2 k1 hF1 hR1
          go_wp2_with fail
          refine (HW.out _ HB.out).mono ?_
          rintro e1 w2 ⟨rfl, hb2⟩
          have HB3 := Lib.hid (HB2.out _ hb2)
          clear hb2
          go_wp2_with fail
          go_roundg (u.kids.list.length - (k + 1))
          case measure => omega
          case rel => exact ⟨k + 1, _, _, rfl, by go_num, rfl, rfl, by omega, hF, hRX, HS.out, HB3.out.1, HB3.out.2⟩
    · have hk2 : k = u.kids.list.length := by omega
      have hcell := (HC.out wr HB.out i hi).c3
      rw [HT.out, HVal.out] at hcell
      have HE : Hid (u.wr = cmpE ((foldT u.kids.list k).1, (foldT u.kids.list k).2)) := by rw [Hid, hk2]; exact HWr.out
      obtain ⟨hF1, hR1⟩ := HFR.out
      have hFR2 : F ++ R = bOf ((foldT u.kids.list k).1 ++ (foldT u.kids.list k).2) := by rw [hF1, hR1, bOf_app]
      cases hf : (F ++ R).toList.isEmpty
      · have HS : Hid (F ++ R = bOf u.wr) := by
          rw [Hid, HE.out]; unfold cmpE
          have : ¬ (foldT u.kids.list k).1 ++ (foldT u.kids.list k).2 = [] := fun q => by rw [hFR2, bOf_toList, q] at hf; cases hf
          rw [if_neg this]; exact hFR2
        clear hF1 hR1 hFR2 hk2
        go_wp2_with fail
        go_ret
        exact ⟨by rw [← HS.out]; rfl, HB.out⟩
      · have HS : Hid (u.wr = [42]) := by
          rw [Hid, HE.out]; unfold cmpE
          have : (foldT u.kids.list k).1 ++ (foldT u.kids.list k).2 = [] := by rw [hFR2, bOf_toList] at hf; exact List.isEmpty_iff.1 hf
          rw [if_pos this]
        clear hF1 hR1 hFR2 hk2
        go_wp2_with fail
        go_ret
        exact ⟨by rw [HS.out]; rfl, HB.out⟩
end Go.Proofs.YtnibpdmbccfgoaaGreatDoor
