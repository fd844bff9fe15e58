/- WordsOf and Word, for longer texts. (Printed by gen297.py.) -/
import Derived.Test.YtjebadadimejpaaT142
namespace Go.Proofs.Ytjebadadimejpaa
open Go.RowKit
set_option linter.unusedVariables false

set_option maxRecDepth 100000 in
set_option maxHeartbeats 2000000 in
theorem wordsOfL_any (s : ByteArray) (hs : s.size ≤ 4398046511104) (w : World) : Calls Try.prog 20 #[.string s] w (StrsPost (words s.data.toList) w) := by
  obtain ⟨i0, hinf, hz0, hz1, hz2⟩ := info_parts Try.infoStr
  have hsl : s.data.toList.length = s.size := rfl
  have HL := Lib.hid hsl
  clear hsl
  go_enter Try.func20, Try.ntmps20
  go_wp2_with fail
  go_loopw [3, 4, 5] (fun v fr x wr => WordsRel s w v fr x wr) (fun _ _ x _ => s.size + 1 - (intOf x).toNat)
  case atStart => exact ⟨0, 0, [], none, 0, by omega, by omega, (fun h => by omega), rfl, rfl, rfl, World.ownsRow_nil _ _ _ _, (by simp [Hid, words]), by simp, Below.refl _ _⟩
  case round =>
    obtain ⟨k, f, acc, a, c, hk, hf, hfin, rfl, rfl, rfl, hown, hw, hal, hb⟩ := hrel
    have HB := Lib.hid hb
    have HW := Lib.hid hown
    have HFin := Lib.hid hfin
    have hsz := hb.size
    clear hb hown hfin
    by_cases hle : k ≤ s.size
    · have HCut := Lib.hid (fun h => words_cut (l := s.data.toList) hf (by have := HL.out; omega) h hw.out)
      have HX : Hid (s.extract f k = ⟨((s.data.toList.drop f).take (k - f)).toArray⟩) := ext_str s f k
      by_cases hlt : k < s.size
      · have hgk : s.data.toList[k]? = some s[k] := by
          rw [List.getElem?_eq_getElem (by have := HL.out; omega)]; rfl
        have HSp := Lib.hid (space_any s[k] wr)
        cases hc : wsB s[k]
        · have HN := Lib.hid (words_go hf hgk hc hw.out)
          rw [hc] at HSp
          clear hw HCut hgk hc
          go_wp2_with fail
          refine HSp.out.mono ?_
          rintro e w1 ⟨rfl, rfl⟩
          go_wp2_with fail
          go_roundw
          case rel => exact ⟨k + 1, f, acc, a, c, by omega, by omega, (fun h => by omega), by go_num, rfl, rfl, HW.out, HN.out, by omega, HB.out⟩
          case measure => simp [intOf]; omega
        · have HN := Lib.hid (HCut.out (fun d hd => by rw [hgk] at hd; cases hd; exact hc))
          rw [hc] at HSp
          clear hw HCut hgk hc
          by_cases hfk : f < k
          · rw [if_pos hfk] at HN
            go_wp2_with fail
            refine HSp.out.mono ?_
            rintro e w1 ⟨rfl, rfl⟩
            go_wp2_with (at_builtin; refine wpList_append_own _ rfl _ _ 23 rfl w.heap.size 9 i0 (.string ⟨#[]⟩) 1 16 Try.underlying23 hinf hz0 hz1 hz2 rfl (by decide) _ _ _ rfl (HW.out.alloc _) ⟨wr.heap.size, 0, none⟩ 1 1 [.string (s.extract f k)] rfl rfl (cell_one_new _ _ _) (by intro u hu; simp at hu; subst hu; rfl) (by unfold maxLen; omega) (by omega) (by simp; omega) ?_)
            intro v' w3 hown' hgrow _
            obtain ⟨a3, c3, hv2⟩ := own_sl hown'
            rw [hv2] at hown' ⊢
            have hb1 : Below w.heap.size w w3 := (HB.out.alloc hsz _).grown hgrow (by simp; omega) (fun q hq => (HW.out.lt q hq).1)
            have HO1 : Hid (w3.ownsRow w.heap.size 9 1 (.slice a3 (acc.length + 1) c3) (acc.length + 1) (strs (acc ++ [(s.data.toList.drop f).take (k - f)]))) := by
              rw [Hid, strs_snoc, ← HX.out]; exact hown'
            clear hown' hgrow hv2
            go_wp2_with fail
            go_roundw
            case rel => exact ⟨k + 1, k + 1, _, a3, c3, by omega, by omega, (fun h => by omega), by go_num, by go_num, by rw [List.length_append]; rfl, by rw [List.length_append]; exact HO1.out, HN.out, by rw [List.length_append]; simp; omega, hb1⟩
            case measure => simp [intOf]; omega
          · rw [if_neg hfk] at HN
            go_wp2_with fail
            refine HSp.out.mono ?_
            rintro e w1 ⟨rfl, rfl⟩
            go_wp2_with fail
            go_roundw
            case rel => exact ⟨k + 1, k + 1, acc, a, c, by omega, by omega, (fun h => by omega), by go_num, by go_num, rfl, HW.out, HN.out, by omega, HB.out⟩
            case measure => simp [intOf]; omega
      · have HN := Lib.hid (HCut.out (fun d hd => by rw [List.getElem?_eq_none (by have := HL.out; omega)] at hd; cases hd))
        clear hw HCut
        by_cases hfk : f < k
        · rw [if_pos hfk] at HN
          go_wp2_with (at_builtin; refine wpList_append_own _ rfl _ _ 23 rfl w.heap.size 9 i0 (.string ⟨#[]⟩) 1 16 Try.underlying23 hinf hz0 hz1 hz2 rfl (by decide) _ _ _ rfl (HW.out.alloc _) ⟨wr.heap.size, 0, none⟩ 1 1 [.string (s.extract f k)] rfl rfl (cell_one_new _ _ _) (by intro u hu; simp at hu; subst hu; rfl) (by unfold maxLen; omega) (by omega) (by simp; omega) ?_)
          intro v' w3 hown' hgrow _
          obtain ⟨a3, c3, hv2⟩ := own_sl hown'
          rw [hv2] at hown' ⊢
          have hb1 : Below w.heap.size w w3 := (HB.out.alloc hsz _).grown hgrow (by simp; omega) (fun q hq => (HW.out.lt q hq).1)
          have HO1 : Hid (w3.ownsRow w.heap.size 9 1 (.slice a3 (acc.length + 1) c3) (acc.length + 1) (strs (acc ++ [(s.data.toList.drop f).take (k - f)]))) := by
            rw [Hid, strs_snoc, ← HX.out]; exact hown'
          clear hown' hgrow hv2
          go_wp2_with fail
          go_roundw
          case rel => exact ⟨k + 1, k + 1, _, a3, c3, by omega, by omega, (fun h => by omega), by go_num, by go_num, by rw [List.length_append]; rfl, by rw [List.length_append]; exact HO1.out, HN.out, by rw [List.length_append]; simp; omega, hb1⟩
          case measure => simp [intOf]; omega
        · rw [if_neg hfk] at HN
          go_wp2_with fail
          go_roundw
          case rel => exact ⟨k + 1, k + 1, acc, a, c, by omega, by omega, (fun h => by omega), by go_num, by go_num, rfl, HW.out, HN.out, by omega, HB.out⟩
          case measure => simp [intOf]; omega
    · have e : k = s.size + 1 := by omega
      have e2 : acc = words s.data.toList := by
        have h1 := hw.out
        have h2 := HFin.out e
        rw [h2, Nat.sub_self, List.take_zero, List.drop_of_length_le (by have := HL.out; omega), wds, if_pos rfl, List.append_nil] at h1
        exact h1.symm
      clear e hw HFin
      go_wp2_with fail
      go_ret
      subst e2
      exact ⟨a, c, rfl, HW.out, HB.out⟩

set_option maxRecDepth 100000 in
set_option maxHeartbeats 1000000 in
theorem wordL_any (s v : ByteArray) (hs : s.size ≤ 4398046511104) (w : World) :
    Calls Try.prog 10 #[.string s, .string v] w (BoolB (decide (v.data.toList ∈ words s.data.toList)) w) := by
  have HC := Lib.hid (words_count s.data.toList)
  have HL : Hid (s.data.toList.length = s.size) := rfl
  obtain ⟨W, hW⟩ : ∃ W, W = words s.data.toList := ⟨_, rfl⟩
  have HW := Lib.hid (wordsOfL_any s hs w)
  rw [← hW] at HW HC ⊢
  have hlen : W.length ≤ 4398046511104 := by have := HC.out; have := HL.out; omega
  clear hW
  go_enter Try.func10, Try.ntmps10
  go_wp2_with fail
  refine HW.out.mono ?_
  rintro e w1 ⟨a, c, rfl, hown, hb⟩
  have HO := Lib.hid hown
  have HB := Lib.hid hb
  clear hown hb
  go_wp2_with fail
  go_loopw [6] (fun x wr => ∃ k : Nat, k ≤ W.length ∧ x = .int .i64 k ∧ Hid (v.data.toList ∉ W.take k) ∧ w1 = wr) (fun x _ => W.length - (intOf x).toNat)
  case atStart => exact ⟨0, Nat.zero_le _, rfl, (by simp [Hid]), rfl⟩
  case round =>
    obtain ⟨k, hk, rfl, hno, rfl⟩ := hrel
    by_cases hlt : k < W.length
    · have hcell : ∃ g, a = some ⟨g, 0, none⟩ ∧ w1.cell? ⟨g, k, none⟩ = some (.string ⟨W[k].toArray⟩) := by
        rcases HO.out.2 with ⟨_, h0⟩ | ⟨g, cap, cur, hv, _, hg, _, hcs⟩
        · omega
        · refine ⟨g, by cases hv; rfl, ?_⟩
          have h1 := HO.out.cells (g := g) (by cases hv; rfl) k (.string ⟨W[k].toArray⟩) (by rw [List.getElem?_eq_getElem (by rw [strs_length]; exact hlt), strs_at hlt])
          rw [Addr.add_lit, Nat.zero_add] at h1
          exact h1
      obtain ⟨g, rfl, g1⟩ := hcell
      have hmem : W[k] ∈ W := List.getElem_mem hlt
      have HE : Hid (((⟨W[k].toArray⟩ : ByteArray).toList == v.toList) = (W[k] == v.data.toList)) := by
        rw [Hid, toLb, toLb]
      have HTk : Hid (W.take (k + 1) = W.take k ++ [W[k]]) := List.take_succ_eq_append_getElem hlt
      cases hb : (W[k] == v.data.toList)
      · have HN : Hid (v.data.toList ∉ W.take (k + 1)) := by
          rw [Hid, HTk.out, List.mem_append, List.mem_singleton]
          rintro (h | h)
          · exact hno.out h
          · rw [h] at hb; simp at hb
        rw [hb] at HE
        have he := HE.out
        obtain ⟨x, hx⟩ : ∃ x : ByteArray, x = ⟨W[k].toArray⟩ := ⟨_, rfl⟩
        rw [← hx] at he g1
        clear hno hb HE hx hmem
        go_wp2_with fail
        go_roundw
        case rel => exact ⟨k + 1, by omega, by go_num, HN.out, by trivial⟩
        case measure => simp [intOf]; omega
      · have HF : Hid (decide (v.data.toList ∈ W) = true) := by
          rw [beq_iff_eq] at hb
          rw [Hid, ← hb, decide_eq_true_eq]; exact hmem
        rw [hb] at HE
        have he := HE.out
        obtain ⟨x, hx⟩ : ∃ x : ByteArray, x = ⟨W[k].toArray⟩ := ⟨_, rfl⟩
        rw [← hx] at he g1
        clear hno hb HE hx hmem
        go_wp2_with fail
        go_ret
        exact ⟨by rw [HF.out]; rfl, HB.out⟩
    · have HF : Hid (decide (v.data.toList ∈ W) = false) := by
        have h1 := hno.out
        rw [List.take_of_length_le (by omega)] at h1
        rw [Hid, decide_eq_false_iff_not]; exact h1
      clear hno
      go_wp2_with fail
      go_ret
      exact ⟨by rw [HF.out]; rfl, HB.out⟩

end Go.Proofs.Ytjebadadimejpaa
