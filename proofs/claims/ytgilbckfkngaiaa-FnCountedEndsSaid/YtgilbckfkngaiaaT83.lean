/- The words of a text: the reference's WordsOf and Word. -/
import Derived.Test.YtgilbckfkngaiaaT66
import Derived.Test.YtgilbckfkngaiaaRows
import Derived.WalkKit
import Derived.WalkSpells
import Derived.WalkLawsBesides
import Derived.Lib.Hide
import Derived.Laws.AppendOwn
import Derived.Maps.AppendAt
import Derived.Below
import Derived.LoopTactic
import Derived.Lib.FieldsLaws
import Derived.Lib.IndexBytes
namespace Go.Proofs.Ytgilbckfkngaiaa
open Go.RowKit
set_option linter.unusedVariables false

theorem Try.infoStr : (Try.prog.info? 9).map (fun i => (i.zero, i.size, i.bytes)) = some (some (.string ⟨#[]⟩), 1, 16) := by kernel_rfl

/-- Texts, as values. -/
def strs (l : List (List UInt8)) : List Value := l.map fun x => Value.string ⟨x.toArray⟩
theorem strs_length (l : List (List UInt8)) : (strs l).length = l.length := by simp [strs]
theorem strs_at {l : List (List UInt8)} {i : Nat} (h : i < l.length) : (strs l)[i]'(by rw [strs_length]; exact h) = .string ⟨l[i].toArray⟩ := by simp [strs]
theorem strs_snoc (l : List (List UInt8)) (x : List UInt8) : strs (l ++ [x]) = strs l ++ [.string ⟨x.toArray⟩] := by simp [strs]
theorem ext_str (s : ByteArray) (a b : Nat) : s.extract a b = ⟨((s.data.toList.drop a).take (b - a)).toArray⟩ := by
  apply ByteArray.ext
  apply Array.ext'
  rw [Lib.extract_data]
theorem wsB_iff (c : UInt8) : wsB c = true ↔ c.toNat = 32 ∨ c.toNat = 9 ∨ c.toNat = 10 ∨ c.toNat = 13 ∨ c.toNat = 12 := by
  have e : ∀ d : UInt8, (c == d) = true ↔ c.toNat = d.toNat := fun d => by rw [beq_iff_eq]; exact UInt8.toNat_inj.symm
  unfold wsB
  simp only [Bool.or_eq_true, e]
  rw [or_assoc, or_assoc, or_assoc]
  exact Iff.rfl

set_option maxRecDepth 100000 in
theorem space_any (c : UInt8) (w : World) : Calls Try.prog 109 #[.int .u8 c.toNat] w fun e w' => e = .returned (.bool (wsB c)) ∧ w = w' := by
  cases hw : wsB c
  · have h : ¬ (c.toNat = 32 ∨ c.toNat = 9 ∨ c.toNat = 10 ∨ c.toNat = 13 ∨ c.toNat = 12) := by rw [← wsB_iff, hw]; simp
    have z1 : ((c.toNat : Int) == 32) = false := beq_eq_false_iff_ne.2 (by omega)
    have z2 : ((c.toNat : Int) == 9) = false := beq_eq_false_iff_ne.2 (by omega)
    have z3 : ((c.toNat : Int) == 10) = false := beq_eq_false_iff_ne.2 (by omega)
    have z4 : ((c.toNat : Int) == 13) = false := beq_eq_false_iff_ne.2 (by omega)
    have z5 : ((c.toNat : Int) == 12) = false := beq_eq_false_iff_ne.2 (by omega)
    clear h hw
    go_enter Try.func109, Try.ntmps109
    go_wp2_with fail
    go_ret
    exact ⟨rfl, rfl⟩
  · have h := (wsB_iff c).1 hw
    clear hw
    rcases h with h | h | h | h | h
    all_goals
      rw [h]
      clear h
      go_enter Try.func109, Try.ntmps109
      go_wp2_with fail
      go_ret
      exact ⟨rfl, rfl⟩

theorem own_sl {w : World} {base e size n : Nat} {v : Value} {xs : List Value} (h : w.ownsRow base e size v n xs) : ∃ a c, v = .slice a n c := by
  rcases h.2 with ⟨hv, h0⟩ | ⟨g, cap, cur, hv, _⟩
  · exact ⟨none, 0, by rw [hv, h0]⟩
  · exact ⟨_, cap, hv⟩

def StrsPost (l : List (List UInt8)) (w : World) (e : Ending) (w' : World) : Prop :=
  ∃ a c, e = .returned (.slice a l.length c) ∧ w'.ownsRow w.heap.size 9 1 (.slice a l.length c) l.length (strs l) ∧ Below w.heap.size w w'
def WordsRel (s : ByteArray) (W : World) (v fr x : Value) (wr : World) : Prop :=
  ∃ (k f : Nat) (acc : List (List UInt8)) (a : Option Addr) (c : Nat), k ≤ s.size + 1 ∧ f ≤ k ∧ (k = s.size + 1 → f = k) ∧ x = .int .i64 (k : Nat) ∧ fr = .int .i64 (f : Nat) ∧ v = .slice a acc.length c ∧
    wr.ownsRow W.heap.size 9 1 (.slice a acc.length c) acc.length (strs acc) ∧ Hid (words s.data.toList = acc ++ wds ((s.data.toList.drop f).take (k - f)) (s.data.toList.drop k)) ∧ acc.length ≤ k ∧ Below W.heap.size W wr

theorem words_go {l : List UInt8} {k f : Nat} {acc : List (List UInt8)} {c : UInt8} (hf : f ≤ k) (hk : l[k]? = some c) (hc : wsB c = false) (h : words l = acc ++ wds ((l.drop f).take (k - f)) (l.drop k)) :
    words l = acc ++ wds ((l.drop f).take (k + 1 - f)) (l.drop (k + 1)) := by
  rw [h, Lib.drop_at hk, wds_no _ hc, Lib.piece_more hf hk]
theorem words_cut {l : List UInt8} {k f : Nat} {acc : List (List UInt8)} (hf : f ≤ k) (hkl : k ≤ l.length) (hc : ∀ c, l[k]? = some c → wsB c = true) (h : words l = acc ++ wds ((l.drop f).take (k - f)) (l.drop k)) :
    words l = (if f < k then acc ++ [(l.drop f).take (k - f)] else acc) ++ wds ((l.drop (k + 1)).take (k + 1 - (k + 1))) (l.drop (k + 1)) := by
  have h1 : wds ((l.drop f).take (k - f)) (l.drop k) = (if (l.drop f).take (k - f) = [] then [] else [(l.drop f).take (k - f)]) ++ wds [] (l.drop (k + 1)) := by
    cases hk : l[k]? with
    | none =>
      have : l.length ≤ k := List.getElem?_eq_none_iff.1 hk
      rw [List.drop_of_length_le this, List.drop_of_length_le (by omega : l.length ≤ k + 1), wds, wds]; simp
    | some c => rw [Lib.drop_at hk, wds_ws _ (hc c hk)]
  rw [h, h1, Nat.sub_self, List.take_zero]
  by_cases hlt : f < k
  · rw [if_pos hlt, if_neg (Lib.piece_ne hlt hkl), List.append_assoc]
  · obtain rfl : f = k := by omega
    simp

set_option maxRecDepth 100000 in
set_option maxHeartbeats 2000000 in
theorem wordsOf_any (s : ByteArray) (hs : s.size ≤ 2147483647) (w : World) : Calls Try.prog 71 #[.string s] w (StrsPost (words s.data.toList) w) := by
  obtain ⟨i0, hinf, hz0, hz1, hz2⟩ := info_parts Try.infoStr
  have hsl : s.data.toList.length = s.size := rfl
  have HL := Lib.hid hsl
  clear hsl
  go_enter Try.func71, Try.ntmps71
  go_wp2_with fail
  go_loopw [3, 4, 5] (fun v fr x wr => WordsRel s w v fr x wr) (fun _ _ x _ => s.size + 1 - (intOf x).toNat)
  case atStart => exact ⟨0, 0, [], none, 0, by omega, by omega, (fun h => by omega), rfl, rfl, rfl, World.ownsRow_nil _ _ _ _, (by simp [Hid, words]), by simp, Below.refl _ _⟩
  case round =>
    obtain ⟨k, f, acc, a, c, hk, hf, hfin, rfl, rfl, rfl, hown, hw, hal, hb⟩ := hrel
    have HB := Lib.hid hb
    have HW := Lib.hid hown
    have HFin := Lib.hid hfin
    have hsz := hb.size
    clear hb hown hfin
    by_cases hle : k ≤ s.size
    · have HCut := Lib.hid (fun h => words_cut (l := s.data.toList) hf (by have := HL.out; omega) h hw.out)
      have HX : Hid (s.extract f k = ⟨((s.data.toList.drop f).take (k - f)).toArray⟩) := ext_str s f k
      by_cases hlt : k < s.size
      · have hgk : s.data.toList[k]? = some s[k] := by
          rw [List.getElem?_eq_getElem (by have := HL.out; omega)]; rfl
        have HSp := Lib.hid (space_any s[k] wr)
        cases hc : wsB s[k]
        · have HN := Lib.hid (words_go hf hgk hc hw.out)
          rw [hc] at HSp
          clear hw HCut hgk hc
          go_wp2_with fail
          refine HSp.out.mono ?_
          rintro e w1 ⟨rfl, rfl⟩
          go_wp2_with fail
          go_roundw
          case rel => exact ⟨k + 1, f, acc, a, c, by omega, by omega, (fun h => by omega), by go_num, rfl, rfl, HW.out, HN.out, by omega, HB.out⟩
          case measure => simp [intOf]; omega
        · have HN := Lib.hid (HCut.out (fun d hd => by rw [hgk] at hd; cases hd; exact hc))
          rw [hc] at HSp
          clear hw HCut hgk hc
          by_cases hfk : f < k
          · rw [if_pos hfk] at HN
            go_wp2_with fail
            refine HSp.out.mono ?_
            rintro e w1 ⟨rfl, rfl⟩
            go_wp2_with (at_builtin; refine wpList_append_own _ rfl _ _ 30 rfl w.heap.size 9 i0 (.string ⟨#[]⟩) 1 16 Try.underlying30 hinf hz0 hz1 hz2 rfl (by decide) _ _ _ rfl (HW.out.alloc _) ⟨wr.heap.size, 0, none⟩ 1 1 [.string (s.extract f k)] rfl rfl (cell_one_new _ _ _) (by intro u hu; simp at hu; subst hu; rfl) (by unfold maxLen; omega) (by omega) (by simp; omega) ?_)
            intro v' w3 hown' hgrow _
            obtain ⟨a3, c3, hv2⟩ := own_sl hown'
            rw [hv2] at hown' ⊢
            have hb1 : Below w.heap.size w w3 := (HB.out.alloc hsz _).grown hgrow (by simp; omega) (fun q hq => (HW.out.lt q hq).1)
            have HO1 : Hid (w3.ownsRow w.heap.size 9 1 (.slice a3 (acc.length + 1) c3) (acc.length + 1) (strs (acc ++ [(s.data.toList.drop f).take (k - f)]))) := by
              rw [Hid, strs_snoc, ← HX.out]; exact hown'
            clear hown' hgrow hv2
            go_wp2_with fail
            go_roundw
            case rel => exact ⟨k + 1, k + 1, _, a3, c3, by omega, by omega, (fun h => by omega), by go_num, by go_num, by rw [List.length_append]; rfl, by rw [List.length_append]; exact HO1.out, HN.out, by rw [List.length_append]; simp; omega, hb1⟩
            case measure => simp [intOf]; omega
          · rw [if_neg hfk] at HN
            go_wp2_with fail
            refine HSp.out.mono ?_
            rintro e w1 ⟨rfl, rfl⟩
            go_wp2_with fail
            go_roundw
            case rel => exact ⟨k + 1, k + 1, acc, a, c, by omega, by omega, (fun h => by omega), by go_num, by go_num, rfl, HW.out, HN.out, by omega, HB.out⟩
            case measure => simp [intOf]; omega
      · have HN := Lib.hid (HCut.out (fun d hd => by rw [List.getElem?_eq_none (by have := HL.out; omega)] at hd; cases hd))
        clear hw HCut
        by_cases hfk : f < k
        · rw [if_pos hfk] at HN
          go_wp2_with (at_builtin; refine wpList_append_own _ rfl _ _ 30 rfl w.heap.size 9 i0 (.string ⟨#[]⟩) 1 16 Try.underlying30 hinf hz0 hz1 hz2 rfl (by decide) _ _ _ rfl (HW.out.alloc _) ⟨wr.heap.size, 0, none⟩ 1 1 [.string (s.extract f k)] rfl rfl (cell_one_new _ _ _) (by intro u hu; simp at hu; subst hu; rfl) (by unfold maxLen; omega) (by omega) (by simp; omega) ?_)
          intro v' w3 hown' hgrow _
          obtain ⟨a3, c3, hv2⟩ := own_sl hown'
          rw [hv2] at hown' ⊢
          have hb1 : Below w.heap.size w w3 := (HB.out.alloc hsz _).grown hgrow (by simp; omega) (fun q hq => (HW.out.lt q hq).1)
          have HO1 : Hid (w3.ownsRow w.heap.size 9 1 (.slice a3 (acc.length + 1) c3) (acc.length + 1) (strs (acc ++ [(s.data.toList.drop f).take (k - f)]))) := by
            rw [Hid, strs_snoc, ← HX.out]; exact hown'
          clear hown' hgrow hv2
          go_wp2_with fail
          go_roundw
          case rel => exact ⟨k + 1, k + 1, _, a3, c3, by omega, by omega, (fun h => by omega), by go_num, by go_num, by rw [List.length_append]; rfl, by rw [List.length_append]; exact HO1.out, HN.out, by rw [List.length_append]; simp; omega, hb1⟩
          case measure => simp [intOf]; omega
        · rw [if_neg hfk] at HN
          go_wp2_with fail
          go_roundw
          case rel => exact ⟨k + 1, k + 1, acc, a, c, by omega, by omega, (fun h => by omega), by go_num, by go_num, rfl, HW.out, HN.out, by omega, HB.out⟩
          case measure => simp [intOf]; omega
    · have e : k = s.size + 1 := by omega
      have e2 : acc = words s.data.toList := by
        have h1 := hw.out
        have h2 := HFin.out e
        rw [h2, Nat.sub_self, List.take_zero, List.drop_of_length_le (by have := HL.out; omega), wds, if_pos rfl, List.append_nil] at h1
        exact h1.symm
      clear e hw HFin
      go_wp2_with fail
      go_ret
      subst e2
      exact ⟨a, c, rfl, HW.out, HB.out⟩
end Go.Proofs.Ytgilbckfkngaiaa
