/- White space cut off by the program's own helper (cascadia): nothing is left of white space alone, and of nothing else. -/
import Derived.Test.YtfebdbfkpmjpeaaT76
import Derived.Test.YtfebdbfkpmjpeaaT6
import Derived.Lib.RuneCount
namespace Go.Proofs.Ytfebdbfkpmjpeaa
open Go.RowKit
set_option linter.unusedVariables false

def TrimPost_c (s : ByteArray) (w : World) (e : Ending) (w' : World) : Prop := ∃ v : ByteArray, e = .returned (.string v) ∧ (v.toList.isEmpty = true → Sp s 0) ∧ Below w.heap.size w w'
def TrimRel_c (s : ByteArray) (w : World) (f t : Value) (wr : World) : Prop :=
  ∃ pos, wr = w.iter s pos ∧ ((f = .int .i64 (s.size : Nat) ∧ t = .int .i64 0 ∧ Pre s pos) ∨ ∃ a b : Nat, f = .int .i64 a ∧ t = .int .i64 b ∧ a < b ∧ b ≤ s.size)
theorem extract_no {s : ByteArray} {a b : Nat} (h : a < b) (h2 : b ≤ s.size) : (s.extract a b).toList.isEmpty = false := by
  cases h3 : (s.extract a b).toList.isEmpty
  · rfl
  · have := emp_yes h3
    rw [ByteArray.size_extract] at this
    omega

set_option maxRecDepth 100000 in
set_option maxHeartbeats 1000000 in
theorem trim_any_c (s : ByteArray) (w : World) (hs : s.size ≤ 2147483647) : Calls Try.prog 202 #[.string s] w (TrimPost_c s w) := by
  go_enter Try.func202, Try.ntmps202
  go_wp2_with fail
  go_loopw [3, 4] (fun f t wr => TrimRel_c s w f t wr) (fun _ _ wr => s.size - wr.iterPos w.heap.size)
  case atStart => exact ⟨0, rfl, .inl ⟨rfl, rfl, .zero⟩⟩
  case round =>
    obtain ⟨pos, rfl, hrel⟩ := hrel
    by_cases hlt : pos < s.size
    · have hnx := fun ty => run_next_any (P := Try.prog) w s pos ty hlt
      have hd := Lib.decode_width_pos s pos hlt
      have HP := Lib.hid (fun (h : Pre s pos) (h2 : isSp (Utf8.decode s pos).1 = true) => Pre.step pos h hlt h2)
      have hr := decode_le s pos
      obtain ⟨q, hq⟩ : ∃ q, q = (Utf8.decode s pos).2 := ⟨_, rfl⟩
      obtain ⟨r, hrr⟩ : ∃ r, r = (Utf8.decode s pos).1 := ⟨_, rfl⟩
      rw [← hq] at hnx hd HP
      rw [← hrr] at hnx hr HP
      clear hq hrr
      cases hsp : isSp r
      · have HS := Lib.hid (sp_no_c r (w.iter s (pos + q)) hsp)
        clear HP hsp
        rcases hrel with ⟨rfl, rfl, _⟩ | ⟨a, b, rfl, rfl, hab, hbs⟩
        rotate_left
        by_cases hm : a ≤ pos
        all_goals
          go_wp2_with fail
          refine HS.out.mono ?_
          rintro e w1 ⟨rfl, rfl⟩
          go_wp2_with fail
          go_loopw [4] (fun t w2 => ∃ b2 : Nat, pos < b2 ∧ b2 ≤ s.size ∧ t = .int .i64 b2 ∧ w.iter s (pos + q) = w2) (fun t _ => s.size - (intOf t).toNat)
          case atStart => exact ⟨pos + 1, by omega, by omega, by go_num, rfl⟩
          case round =>
            obtain ⟨b2, hb1, hb2, rfl, rfl⟩ := hrel
            by_cases hlt2 : b2 < s.size
            all_goals
              go_wp2_with fail
              all_goals first
                | (go_roundw
                   case rel => exact ⟨b2 + 1, by omega, by omega, by go_num, by trivial⟩
                   case measure => simp [intOf]; omega)
                | (go_roundw
                   case rel => exact ⟨pos + q, rfl, .inr ⟨_, b2, rfl, rfl, by omega, hb2⟩⟩
                   case measure => simp; omega)
      · have HS := Lib.hid (sp_yes_c r (w.iter s (pos + q)) hsp)
        rcases hrel with ⟨rfl, rfl, hpre⟩ | ⟨a, b, rfl, rfl, hab, hbs⟩
        · have HN := Lib.hid (HP.out hpre hsp)
          clear HP hsp hpre
          go_wp2_with fail
          refine HS.out.mono ?_
          rintro e w1 ⟨rfl, rfl⟩
          go_wp2_with fail
          go_roundw
          case rel => exact ⟨pos + q, rfl, .inl ⟨rfl, rfl, HN.out⟩⟩
          case measure => simp; omega
        · clear HP hsp
          go_wp2_with fail
          refine HS.out.mono ?_
          rintro e w1 ⟨rfl, rfl⟩
          go_wp2_with fail
          go_roundw
          case rel => exact ⟨pos + q, rfl, .inr ⟨a, b, rfl, rfl, hab, hbs⟩⟩
          case measure => simp; omega
    · have hnx := fun ty => run_next_end (P := Try.prog) w s pos ty hlt
      have HB : Hid (Below w.heap.size w (w.iter s pos)) := (Below.refl _ _).alloc (Nat.le_refl _) _
      rcases hrel with ⟨rfl, rfl, hpre⟩ | ⟨a, b, rfl, rfl, hab, hbs⟩
      · have HN := Lib.hid (hpre.sp (.fin pos (by omega)))
        clear hpre
        go_wp2_with fail
        go_ret
        exact ⟨⟨#[]⟩, rfl, fun _ => HN.out, HB.out⟩
      · have HX := Lib.hid (extract_no hab hbs)
        have hg : decide (b ≤ a) = false := by simp; omega
        go_wp2_with fail
        go_ret
        exact ⟨s.extract a b, rfl, (fun h => by rw [HX.out] at h; cases h), HB.out⟩
end Go.Proofs.Ytfebdbfkpmjpeaa
