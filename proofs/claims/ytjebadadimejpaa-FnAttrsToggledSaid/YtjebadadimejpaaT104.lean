/- The words of a text: the reference's Words (the same loop as WordsOf, with the compares inline). -/
import Derived.Test.YtjebadadimejpaaP21
namespace Go.Proofs.Ytjebadadimejpaa
open Go.RowKit
set_option linter.unusedVariables false

set_option maxRecDepth 100000 in
set_option maxHeartbeats 2000000 in
theorem wordsC_any (s : ByteArray) (hs : s.size ≤ 2147483647) (w : World) : Calls Try.prog 9 #[.string s] w (StrsPost (words s.data.toList) w) := by
  obtain ⟨i0, hinf, hz0, hz1, hz2⟩ := info_parts Try.infoStr
  have hsl : s.data.toList.length = s.size := rfl
  have HL := Lib.hid hsl
  clear hsl
  go_enter Try.func9, Try.ntmps9
  go_wp2_with fail
  go_loopw [3, 4, 5] (fun v fr x wr => WordsRel s w v fr x wr) (fun _ _ x _ => s.size + 1 - (intOf x).toNat)
  case atStart => exact ⟨0, 0, [], none, 0, by omega, by omega, (fun h => by omega), rfl, rfl, rfl, World.ownsRow_nil _ _ _ _, (by simp [Hid, words]), by simp, Below.refl _ _⟩
  case round =>
    obtain ⟨k, f, acc, a, c, hk, hf, hfin, rfl, rfl, rfl, hown, hw, hal, hb⟩ := hrel
    have HB := Lib.hid hb
    have HW := Lib.hid hown
    have HFin := Lib.hid hfin
    have hsz := hb.size
    clear hb hown hfin
    by_cases hle : k ≤ s.size
    · have HCut := Lib.hid (fun h => words_cut (l := s.data.toList) hf (by have := HL.out; omega) h hw.out)
      have HX : Hid (s.extract f k = ⟨((s.data.toList.drop f).take (k - f)).toArray⟩) := ext_str s f k
      by_cases hlt : k < s.size
      · have hgk : s.data.toList[k]? = some s[k] := by
          rw [List.getElem?_eq_getElem (by have := HL.out; omega)]; rfl
        have hwi := wsB_iff s[k]
        cases hc : wsB s[k]
        · have HN := Lib.hid (words_go hf hgk hc hw.out)
          rw [hc] at hwi
          have hn : ¬ (s[k].toNat = 32 ∨ s[k].toNat = 9 ∨ s[k].toNat = 10 ∨ s[k].toNat = 13 ∨ s[k].toNat = 12) := fun h => by cases hwi.2 h
          have z1 : ((s[k].toNat : Int) != 32) = true := by rw [bne_iff_ne]; omega
          have z2 : ((s[k].toNat : Int) != 9) = true := by rw [bne_iff_ne]; omega
          have z3 : ((s[k].toNat : Int) != 10) = true := by rw [bne_iff_ne]; omega
          have z4 : ((s[k].toNat : Int) != 12) = true := by rw [bne_iff_ne]; omega
          have z5 : ((s[k].toNat : Int) != 13) = true := by rw [bne_iff_ne]; omega
          clear hw HCut hgk hc hn hwi
          go_wp2_with fail
          go_roundw
          case rel => exact ⟨k + 1, f, acc, a, c, by omega, by omega, (fun h => by omega), by go_num, rfl, rfl, HW.out, HN.out, by omega, HB.out⟩
          case measure => simp [intOf]; omega
        · have HN := Lib.hid (HCut.out (fun d hd => by rw [hgk] at hd; cases hd; exact hc))
          have hy := hwi.1 hc
          have HNN := Lib.hid HN.out
          clear hw HCut hgk hc hwi HN
          have hz : ∃ z1 z2 z3 z4 z5 : Bool, ((s[k].toNat : Int) != 32) = z1 ∧ ((s[k].toNat : Int) != 9) = z2 ∧ ((s[k].toNat : Int) != 10) = z3 ∧ ((s[k].toNat : Int) != 12) = z4 ∧ ((s[k].toNat : Int) != 13) = z5 ∧ ((z1 = false ∧ z2 = true ∧ z3 = true ∧ z4 = true ∧ z5 = true) ∨ (z1 = true ∧ z2 = false ∧ z3 = true ∧ z4 = true ∧ z5 = true) ∨ (z1 = true ∧ z2 = true ∧ z3 = false ∧ z4 = true ∧ z5 = true) ∨ (z1 = true ∧ z2 = true ∧ z3 = true ∧ z4 = false ∧ z5 = true) ∨ (z1 = true ∧ z2 = true ∧ z3 = true ∧ z4 = true ∧ z5 = false)) := by
            refine ⟨_, _, _, _, _, rfl, rfl, rfl, rfl, rfl, ?_⟩
            rcases hy with hy | hy | hy | hy | hy <;> rw [hy] <;> decide
          clear hy
          obtain ⟨z1, z2, z3, z4, z5, e1, e2, e3, e4, e5, hz⟩ := hz
          rcases hz with ⟨rfl, rfl, rfl, rfl, rfl⟩ | ⟨rfl, rfl, rfl, rfl, rfl⟩ | ⟨rfl, rfl, rfl, rfl, rfl⟩ | ⟨rfl, rfl, rfl, rfl, rfl⟩ | ⟨rfl, rfl, rfl, rfl, rfl⟩
          all_goals
            have HN := Lib.hid HNN.out
            clear HNN
            by_cases hfk : f < k
            · rw [if_pos hfk] at HN
              go_wp2_with (at_builtin; refine wpList_append_own _ rfl _ _ 23 rfl w.heap.size 9 i0 (.string ⟨#[]⟩) 1 16 Try.underlying23 hinf hz0 hz1 hz2 rfl (by decide) _ _ _ rfl (HW.out.alloc _) ⟨wr.heap.size, 0, none⟩ 1 1 [.string (s.extract f k)] rfl rfl (cell_one_new _ _ _) (by intro u hu; simp at hu; subst hu; rfl) (by unfold maxLen; omega) (by omega) (by simp; omega) ?_)
              intro v' w3 hown' hgrow _
              obtain ⟨a3, c3, hv2⟩ := own_sl hown'
              rw [hv2] at hown' ⊢
              have hb1 : Below w.heap.size w w3 := (HB.out.alloc hsz _).grown hgrow (by simp; omega) (fun q hq => (HW.out.lt q hq).1)
              have HO1 : Hid (w3.ownsRow w.heap.size 9 1 (.slice a3 (acc.length + 1) c3) (acc.length + 1) (strs (acc ++ [(s.data.toList.drop f).take (k - f)]))) := by
                rw [Hid, strs_snoc, ← HX.out]; exact hown'
              clear hown' hgrow hv2
              go_wp2_with fail
              go_roundw
              case rel => exact ⟨k + 1, k + 1, _, a3, c3, by omega, by omega, (fun h => by omega), by go_num, by go_num, by rw [List.length_append]; rfl, by rw [List.length_append]; exact HO1.out, HN.out, by rw [List.length_append]; simp; omega, hb1⟩
              case measure => simp [intOf]; omega
            · rw [if_neg hfk] at HN
              go_wp2_with fail
              go_roundw
              case rel => exact ⟨k + 1, k + 1, acc, a, c, by omega, by omega, (fun h => by omega), by go_num, by go_num, rfl, HW.out, HN.out, by omega, HB.out⟩
              case measure => simp [intOf]; omega
      · have HN := Lib.hid (HCut.out (fun d hd => by rw [List.getElem?_eq_none (by have := HL.out; omega)] at hd; cases hd))
        clear hw HCut
        by_cases hfk : f < k
        · rw [if_pos hfk] at HN
          go_wp2_with (at_builtin; refine wpList_append_own _ rfl _ _ 23 rfl w.heap.size 9 i0 (.string ⟨#[]⟩) 1 16 Try.underlying23 hinf hz0 hz1 hz2 rfl (by decide) _ _ _ rfl (HW.out.alloc _) ⟨wr.heap.size, 0, none⟩ 1 1 [.string (s.extract f k)] rfl rfl (cell_one_new _ _ _) (by intro u hu; simp at hu; subst hu; rfl) (by unfold maxLen; omega) (by omega) (by simp; omega) ?_)
          intro v' w3 hown' hgrow _
          obtain ⟨a3, c3, hv2⟩ := own_sl hown'
          rw [hv2] at hown' ⊢
          have hb1 : Below w.heap.size w w3 := (HB.out.alloc hsz _).grown hgrow (by simp; omega) (fun q hq => (HW.out.lt q hq).1)
          have HO1 : Hid (w3.ownsRow w.heap.size 9 1 (.slice a3 (acc.length + 1) c3) (acc.length + 1) (strs (acc ++ [(s.data.toList.drop f).take (k - f)]))) := by
            rw [Hid, strs_snoc, ← HX.out]; exact hown'
          clear hown' hgrow hv2
          go_wp2_with fail
          go_roundw
          case rel => exact ⟨k + 1, k + 1, _, a3, c3, by omega, by omega, (fun h => by omega), by go_num, by go_num, by rw [List.length_append]; rfl, by rw [List.length_append]; exact HO1.out, HN.out, by rw [List.length_append]; simp; omega, hb1⟩
          case measure => simp [intOf]; omega
        · rw [if_neg hfk] at HN
          go_wp2_with fail
          go_roundw
          case rel => exact ⟨k + 1, k + 1, acc, a, c, by omega, by omega, (fun h => by omega), by go_num, by go_num, rfl, HW.out, HN.out, by omega, HB.out⟩
          case measure => simp [intOf]; omega
    · have e : k = s.size + 1 := by omega
      have e2 : acc = words s.data.toList := by
        have h1 := hw.out
        have h2 := HFin.out e
        rw [h2, Nat.sub_self, List.take_zero, List.drop_of_length_le (by have := HL.out; omega), wds, if_pos rfl, List.append_nil] at h1
        exact h1.symm
      clear e hw HFin
      go_wp2_with fail
      go_ret
      subst e2
      exact ⟨a, c, rfl, HW.out, HB.out⟩
end Go.Proofs.Ytjebadadimejpaa
