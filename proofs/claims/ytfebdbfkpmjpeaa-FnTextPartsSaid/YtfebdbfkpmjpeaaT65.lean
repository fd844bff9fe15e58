/- The reference's texts of one node. -/
import Derived.Test.YtfebdbfkpmjpeaaT64
import Derived.Deep.QuietTactic
import Derived.BigQuiet
import Derived.IntWalk
namespace Go.Proofs.Ytfebdbfkpmjpeaa
open Go.RowKit
set_option linter.unusedVariables false

theorem bcat (a : List UInt8) (x : ByteArray) : (⟨a.toArray⟩ : ByteArray) ++ x = ⟨(a ++ x.data.toList).toArray⟩ := by
  apply ByteArray.ext
  rw [ByteArray.data_append]
  apply Array.ext'
  simp

def TxtsRel (t : List Nd) (i : Nat) (w : World) (o s x : Value) (wr : World) : Prop :=
  ∃ (j : Nat) (b : Bool) (X : ByteArray), j ≤ sz t i ∧ o = .string X ∧ Hid (X = ⟨(txtR t i j).toArray⟩) ∧ s = .bool b ∧ x = .int .i64 ((i + j : Nat) : Int) ∧ ∃ q, wr = w.drewN q

set_option maxRecDepth 100000 in
set_option maxHeartbeats 4000000 in
theorem texts_any (a : Option Addr) (c : Nat) (t : List Nd) (hR : RightP t) (i : Nat) (hi : i < t.length) (b2 o2 c2 : Nat) (w : World) (h : NSl w w.heap.size a t) (hc : w.cell? ⟨b2, o2, none⟩ = some (.int .i64 (i : Int))) :
    Calls Try.prog 51 #[.slice a t.length c, .slice (some ⟨b2, o2, none⟩) 1 c2, .string ⟨#[]⟩, .bool false, .string ⟨#[]⟩] w fun e w' => e = .returned (.tuple #[strV (txt t i), .bool true]) ∧ ∃ q, w' = w.drewN q := by
  have hle := hR.le
  obtain ⟨_, l2, l3⟩ := hR.lamK hi
  obtain ⟨b, o, rfl, hbB, hcs⟩ := h.at_ (by omega)
  have hsi := (hcs i hi).2.2.2.2.1
  have hs0 := (hR.lam i (Nat.zero_le _) hi).1
  rw [size_at hi hs0] at hsi
  have HC := Lib.hid hcs
  clear hcs h hs0
  go_enter Try.func51, Try.ntmps51
  go_wp2_with fail
  refine wp_loop_rounds 2 ?_
  rw [rounds_succ]
  go_wp2_with fail
  go_loopw [12, 13, 15, 16] (fun o sb x _ wr => TxtsRel t i w o sb x wr) (fun _ _ x _ _ => i + sz t i - (intOf x).toNat)
  case atStart => exact ⟨0, false, ⟨#[]⟩, Nat.zero_le _, rfl, rfl, rfl, by go_num, 0, rfl⟩
  case round =>
    obtain ⟨j, sb, X, hj, rfl, HX, rfl, rfl, q, rfl⟩ := hrel
    have e1 : IntKind.i64.wrap ((i : Int) + (sz t i : Nat)) = (i : Int) + (sz t i : Nat) := IntWalk.i64_in _ ⟨by omega, by omega⟩
    by_cases hlt : j < sz t i
    · have d1 : decide (((i + j : Nat) : Int) < (i : Int) + (sz t i : Nat)) = true := by simp; omega
      have hlt2 : i + j < t.length := by omega
      obtain ⟨g1, _, g3, _, _, hok⟩ := HC.out (i + j) hlt2
      have htx := hok.text
      have HT := Lib.hid (txtR_succ t i j)
      by_cases hk : t[i + j].kind = 4
      · have d2 : (t[i + j].kind != 4) = false := by simp [hk]
        have HO : Hid (ownT t (i + j) = t[i + j].text.data.toList) := by rw [Hid]; unfold ownT; rw [getD_at hlt2, if_pos hk]
        obtain ⟨y, hy⟩ : ∃ y, y = t[i + j].kind := ⟨_, rfl⟩
        obtain ⟨x, hx⟩ : ∃ x, x = t[i + j].text := ⟨_, rfl⟩
        rw [← hx] at HO htx g3
        rw [← hy] at d2 g1
        clear hy hx hok hk
        have hXl : X.size ≤ 800000 := by
          have h1 := txtR_len hR i j
          have h2 : X.size = (txtR t i j).length := by rw [HX.out]; rfl
          omega
        have hxl : x.size ≤ 4000 := by
          have h1 := ownT_len hR (i + j)
          rw [HO.out] at h1; exact h1
        have hno : X.size + x.size ≤ 9223372036854775807 := by omega
        have HX2 : Hid (X ++ x = ⟨(txtR t i (j + 1)).toArray⟩) := by rw [Hid, HX.out, bcat, HT.out, HO.out]
        cases sb
        · go_wp2_with fail
          go_quiet (fail)
          go_wp2_with fail
          go_roundw
          case rel => exact ⟨j + 1, true, X ++ x, by omega, rfl, HX2.out, rfl, by go_num, _, by first | rfl | rw [World.drewN_drewN]⟩
          case measure => simp [intOf]; omega
        · have he : X ++ (⟨#[]⟩ : ByteArray) = X := by
            apply ByteArray.ext; rw [ByteArray.data_append]; simp
          go_wp2_with fail
          go_quiet (fail)
          go_wp2_with fail
          go_roundw
          case rel => exact ⟨j + 1, true, X ++ x, by omega, rfl, HX2.out, rfl, by go_num, _, by first | rfl | rw [World.drewN_drewN]⟩
          case measure => simp [intOf]; omega
      · have d2 : (t[i + j].kind != 4) = true := by simpa using hk
        have HO : Hid (ownT t (i + j) = []) := by rw [Hid]; unfold ownT; rw [getD_at hlt2, if_neg hk]
        have HX2 : Hid (X = ⟨(txtR t i (j + 1)).toArray⟩) := by rw [Hid, HX.out, HT.out, HO.out, List.append_nil]
        obtain ⟨y, hy⟩ : ∃ y, y = t[i + j].kind := ⟨_, rfl⟩
        rw [← hy] at d2 g1
        clear hy hok hk
        go_wp2_with fail
        go_quiet (fail)
        go_wp2_with fail
        go_roundw
        case rel => exact ⟨j + 1, sb, X, by omega, rfl, HX2.out, rfl, by go_num, _, by first | rfl | rw [World.drewN_drewN]⟩
        case measure => simp [intOf]; omega
    · have d1 : decide (((i + j : Nat) : Int) < (i : Int) + (sz t i : Nat)) = false := by simp; omega
      have HF : Hid (X = ⟨(txt t i).toArray⟩) := by
        rw [Hid, HX.out, show j = sz t i by omega]; rfl
      go_wp2_with fail
      go_quiet (fail)
      go_wp2_with fail
      rw [rounds_succ]
      go_wp2_with fail
      go_ret2
      exact ⟨by rw [HF.out]; rfl, _, rfl⟩
end Go.Proofs.Ytfebdbfkpmjpeaa
