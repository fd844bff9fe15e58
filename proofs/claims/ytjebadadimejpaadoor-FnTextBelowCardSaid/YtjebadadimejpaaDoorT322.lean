/- The reference's texts: spec.TextOf and spec.OwnText. -/
import Derived.Test.YtjebadadimejpaaDoorT321
import Derived.Deep.QuietTactic
import Derived.BigQuiet
import Derived.IntWalk
namespace Go.Proofs.YtjebadadimejpaaDoor
open Go.RowKit
set_option linter.unusedVariables false

theorem bcat (a : List UInt8) (x : ByteArray) : (⟨a.toArray⟩ : ByteArray) ++ x = ⟨(a ++ x.data.toList).toArray⟩ := by
  apply ByteArray.ext
  rw [ByteArray.data_append]
  apply Array.ext'
  simp

def TxOfRel (t : List Nd) (i : Nat) (w : World) (o x : Value) (wr : World) : Prop :=
  ∃ (j : Nat) (X : ByteArray), j ≤ sz t i ∧ o = .string X ∧ Hid (X = ⟨(txtR t i j).toArray⟩) ∧ x = .int .i64 ((i + j : Nat) : Int) ∧ ∃ q, wr = w.drewN q

set_option maxRecDepth 100000 in
set_option maxHeartbeats 4000000 in
theorem specText_any (a : Option Addr) (c : Nat) (t : List Nd) (hR : RightP t) (i : Nat) (hi : i < t.length) (w : World) (h : NSl w w.heap.size a t) :
    Calls Tryd.prog 9 #[.slice a t.length c, .int .i64 (i : Int)] w fun e w' => e = .returned (strV (txt t i)) ∧ ∃ q, w' = w.drewN q := by
  have hle := hR.le
  obtain ⟨_, l2, l3⟩ := hR.lamK hi
  obtain ⟨b, o, rfl, hbB, hcs⟩ := h.at_ (by omega)
  have hsi := (hcs i hi).2.2.2.2.1
  have hs0 := (hR.lam i (Nat.zero_le _) hi).1
  rw [size_at hi hs0] at hsi
  have HC := Lib.hid hcs
  clear hcs h hs0
  go_enter Tryd.func9, Tryd.ntmps9
  go_wp2_with fail
  go_loopw [5, 6] (fun o x wr => TxOfRel t i w o x wr) (fun _ x _ => i + sz t i - (intOf x).toNat)
  case atStart => exact ⟨0, ⟨#[]⟩, Nat.zero_le _, rfl, rfl, by go_num, 0, rfl⟩
  case round =>
    obtain ⟨j, X, hj, rfl, HX, rfl, q, rfl⟩ := hrel
    have e1 : IntKind.i64.wrap ((i : Int) + (sz t i : Nat)) = (i : Int) + (sz t i : Nat) := IntWalk.i64_in _ ⟨by omega, by omega⟩
    by_cases hlt : j < sz t i
    · have d1 : decide (((i + j : Nat) : Int) < (i : Int) + (sz t i : Nat)) = true := by simp; omega
      have hlt2 : i + j < t.length := by omega
      obtain ⟨g1, _, g3, _, _, hok⟩ := HC.out (i + j) hlt2
      have htx := hok.text
      have HT := Lib.hid (txtR_succ t i j)
      by_cases hk : t[i + j].kind = 4
      · have d2 : (t[i + j].kind == 4) = true := by simp [hk]
        have HO : Hid (ownT t (i + j) = t[i + j].text.data.toList) := by rw [Hid]; unfold ownT; rw [getD_at hlt2, if_pos hk]
        obtain ⟨y, hy⟩ : ∃ y, y = t[i + j].kind := ⟨_, rfl⟩
        obtain ⟨x, hx⟩ : ∃ x, x = t[i + j].text := ⟨_, rfl⟩
        rw [← hx] at HO htx g3
        rw [← hy] at d2 g1
        clear hy hx hok hk
        have hXl : X.size ≤ 800000 := by
          have h1 := txtR_len hR i j
          have h2 : X.size = (txtR t i j).length := by rw [HX.out]; rfl
          omega
        have hxl : x.size ≤ 4000 := by
          have h1 := ownT_len hR (i + j)
          rw [HO.out] at h1; exact h1
        have hno : X.size + x.size ≤ 9223372036854775807 := by omega
        have HX2 : Hid (X ++ x = ⟨(txtR t i (j + 1)).toArray⟩) := by rw [Hid, HX.out, bcat, HT.out, HO.out]
        go_wp2_with fail
        go_roundw
        case rel => exact ⟨j + 1, X ++ x, by omega, rfl, HX2.out, by go_num, _, by first | rfl | rw [World.drewN_drewN]⟩
        case measure => simp [intOf]; omega
      · have d2 : (t[i + j].kind == 4) = false := by simpa using hk
        have HO : Hid (ownT t (i + j) = []) := by rw [Hid]; unfold ownT; rw [getD_at hlt2, if_neg hk]
        have HX2 : Hid (X = ⟨(txtR t i (j + 1)).toArray⟩) := by rw [Hid, HX.out, HT.out, HO.out, List.append_nil]
        obtain ⟨y, hy⟩ : ∃ y, y = t[i + j].kind := ⟨_, rfl⟩
        rw [← hy] at d2 g1
        clear hy hok hk
        go_wp2_with fail
        go_roundw
        case rel => exact ⟨j + 1, X, by omega, rfl, HX2.out, by go_num, _, by first | rfl | rw [World.drewN_drewN]⟩
        case measure => simp [intOf]; omega
    · have e : j = sz t i := by omega
      have d1 : decide (((i + j : Nat) : Int) < (i : Int) + (sz t i : Nat)) = false := by simp; omega
      have HX2 : Hid (Value.string X = strV (txt t i)) := by rw [Hid, HX.out, e]; rfl
      go_wp2_with fail
      go_ret
      exact ⟨by first | exact congrArg Ending.returned HX2.out | (rw [← HX2.out]; rfl), _, by first | rfl | rw [World.drewN_drewN]⟩

def OtRel (t : List Nd) (i : Nat) (w : World) (o x : Value) (wr : World) : Prop :=
  ∃ (j : Nat) (X : ByteArray), j ≤ (kidsL t i).length ∧ o = .string X ∧ Hid (X = ⟨(((kidsL t i).take j).flatMap (ownT t)).toArray⟩) ∧ x = .int .i64 (j : Int) ∧ Below w.heap.size w wr

set_option maxRecDepth 100000 in
set_option maxHeartbeats 4000000 in
theorem specOwn_any (a : Option Addr) (c : Nat) (t : List Nd) (hR : RightP t) (i : Nat) (hi : i < t.length) (w : World) (h : NSl w w.heap.size a t) :
    Calls Tryd.prog 10 #[.slice a t.length c, .int .i64 (i : Int)] w fun e w' => e = .returned (strV (kidT t i)) ∧ Below w.heap.size w w' := by
  have hle := hR.le
  have HKi := Lib.hid (kids_any a c t hle i (i : Int) rfl w h hi (fun k h1 h2 => by have := hR.lam k (Nat.zero_le _) (by have := (hR.lamK hi).2.2; omega); have h3 := (hR.lam i (Nat.zero_le _) hi).2.2.2; exact ⟨this.1, this.2.1, (by by_cases e : k = i; (subst e; exact Nat.le_refl _); exact h3 k (by omega) h2), this.2.2.2⟩) (hR.lamK hi).2.2 (hR.lamK hi).2.1)
  obtain ⟨b, o, rfl, hbB, hcs⟩ := h.at_ (by omega)
  have HC := Lib.hid hcs
  have hKl := kidsL_le hR hi
  have HKt : Hid (∀ k (h : k < (kidsL t i).length), (kidsL t i)[k] < t.length) := fun k h => (kid_sz hR hi h).2.1
  clear hcs h
  go_enter Tryd.func10, Tryd.ntmps10
  go_wp2_with fail
  refine HKi.out.mono ?_
  rintro e w1 ⟨ak, ck, rfl, hrs, hb1⟩
  have HRs := Lib.hid hrs
  have HB1 := Lib.hid hb1
  clear hrs hb1
  go_wp2_with fail
  go_loopw [5, 7] (fun o x wr => OtRel t i w1 o x wr) (fun _ x _ => (kidsL t i).length - (intOf x).toNat)
  case atStart => exact ⟨0, ⟨#[]⟩, Nat.zero_le _, rfl, rfl, by go_num, Below.refl _ _⟩
  case round =>
    obtain ⟨j, X, hj, rfl, HX, rfl, hb⟩ := hrel
    have HB := Lib.hid hb
    clear hb
    by_cases hlt : j < (kidsL t i).length
    · obtain ⟨bk, ok, rfl, hbk, hck⟩ := HRs.out.at_ (by rw [ints_length]; omega)
      have g0 := (HB.out.cell (p := ⟨bk, ok + j, none⟩) hbk).trans (hck j (by rw [ints_length]; exact hlt))
      replace g0 : wr.cell? ⟨bk, ok + j, none⟩ = some (.int .i64 ((kidsL t i)[j] : Int)) := by rw [g0]; simp [ints]
      have hq := HKt.out j hlt
      obtain ⟨g1, _, g3, _, _, hok⟩ := HC.out _ hq
      have hbN : Below w.heap.size w wr := bnext HB1.out HB.out
      have g1' := (hbN.cell (p := ⟨b, o + (kidsL t i)[j] * 5, none⟩) hbB).trans g1
      have g3' := (hbN.cell (p := ⟨b, o + (kidsL t i)[j] * 5 + 2, none⟩) hbB).trans g3
      have htx := hok.text
      have hXl : X.size ≤ 800000 := by
        have h1 := flat_own_len hR ((kidsL t i).take j)
        rw [List.length_take] at h1
        have h2 : X.size = (((kidsL t i).take j).flatMap (ownT t)).length := by rw [HX.out]; rfl
        omega
      have HAcc : Hid (((kidsL t i).take (j + 1)).flatMap (ownT t) = ((kidsL t i).take j).flatMap (ownT t) ++ ownT t (kidsL t i)[j]) := by
        rw [Hid, List.take_succ_eq_append_getElem hlt]
        simp only [List.flatMap_append, List.flatMap_cons, List.flatMap_nil, List.append_nil]
      by_cases hk : t[(kidsL t i)[j]].kind = 4
      · have d2 : (t[(kidsL t i)[j]].kind == 4) = true := by simp [hk]
        have HO : Hid (ownT t (kidsL t i)[j] = t[(kidsL t i)[j]].text.data.toList) := by rw [Hid]; unfold ownT; rw [getD_at hq, if_pos hk]
        have hxl := ownT_len hR (kidsL t i)[j]
        rw [HO.out] at hxl
        obtain ⟨y, hy⟩ : ∃ y, y = t[(kidsL t i)[j]].kind := ⟨_, rfl⟩
        obtain ⟨x, hx⟩ : ∃ x, x = t[(kidsL t i)[j]].text := ⟨_, rfl⟩
        rw [← hx] at HO htx g3' hxl
        rw [← hy] at d2 g1'
        have hxs : x.size ≤ 4000 := hxl
        obtain ⟨q, hqq⟩ : ∃ q, q = (kidsL t i)[j] := ⟨_, rfl⟩
        have HX2 : Hid (X ++ x = ⟨(((kidsL t i).take (j + 1)).flatMap (ownT t)).toArray⟩) := by rw [Hid, HX.out, bcat, HAcc.out, HO.out]
        have hqt : q < t.length := by rw [hqq]; exact hq
        rw [← hqq] at g0 g1' g3'
        clear hqq hy hx hok hk HO HAcc hxl g1 g3 hbN hck
        have hno : X.size + x.size ≤ 9223372036854775807 := by omega
        go_wp2_with fail
        go_roundw
        case rel => exact ⟨j + 1, X ++ x, by omega, rfl, HX2.out, by go_num, by first | exact HB.out | exact HB.out.drew | exact below_drewN HB.out _⟩
        case measure => simp [intOf]; omega
      · have d2 : (t[(kidsL t i)[j]].kind == 4) = false := by simpa using hk
        have HO : Hid (ownT t (kidsL t i)[j] = []) := by rw [Hid]; unfold ownT; rw [getD_at hq, if_neg hk]
        have HX2 : Hid (X = ⟨(((kidsL t i).take (j + 1)).flatMap (ownT t)).toArray⟩) := by rw [Hid, HX.out, HAcc.out, HO.out, List.append_nil]
        obtain ⟨y, hy⟩ : ∃ y, y = t[(kidsL t i)[j]].kind := ⟨_, rfl⟩
        rw [← hy] at d2 g1'
        obtain ⟨q, hqq⟩ : ∃ q, q = (kidsL t i)[j] := ⟨_, rfl⟩
        have hqt : q < t.length := by rw [hqq]; exact hq
        rw [← hqq] at g0 g1'
        clear hqq hy hok hk HO HAcc g1 g3 g3' hbN hck
        go_wp2_with fail
        go_roundw
        case rel => exact ⟨j + 1, X, by omega, rfl, HX2.out, by go_num, by first | exact HB.out | exact HB.out.drew | exact below_drewN HB.out _⟩
        case measure => simp [intOf]; omega
    · have e : j = (kidsL t i).length := by omega
      have HX2 : Hid (Value.string X = strV (kidT t i)) := by rw [Hid, HX.out, e, List.take_length]; rfl
      go_wp2_with fail
      go_ret
      exact ⟨by first | exact congrArg Ending.returned HX2.out | (rw [← HX2.out]; rfl), bnext HB1.out (by first | exact HB.out | exact HB.out.drew | exact below_drewN HB.out _)⟩
end Go.Proofs.YtjebadadimejpaaDoor
