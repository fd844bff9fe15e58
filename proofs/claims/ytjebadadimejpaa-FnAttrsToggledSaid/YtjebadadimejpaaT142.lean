/- The reference's looks at the words of a class attribute: Word, isWord, SimpleClass. -/
import Derived.Test.YtjebadadimejpaaT104
import Derived.Test.YtjebadadimejpaaT141
import Derived.Test.YtjebadadimejpaaT40
namespace Go.Proofs.Ytjebadadimejpaa
open Go.RowKit
set_option linter.unusedVariables false

def BoolB (b : Bool) (w : World) (e : Ending) (w' : World) : Prop := e = .returned (.bool b) ∧ Below w.heap.size w w'

set_option maxRecDepth 100000 in
set_option maxHeartbeats 1000000 in
theorem word2_any (s v : ByteArray) (hs : s.size ≤ 2147483647) (w : World) :
    Calls Try.prog 10 #[.string s, .string v] w (BoolB (decide (v.data.toList ∈ words s.data.toList)) w) := by
  have HC := Lib.hid (words_count s.data.toList)
  have HL : Hid (s.data.toList.length = s.size) := rfl
  obtain ⟨W, hW⟩ : ∃ W, W = words s.data.toList := ⟨_, rfl⟩
  have HW := Lib.hid (wordsOf_any s hs w)
  rw [← hW] at HW HC ⊢
  have hlen : W.length ≤ 2147483647 := by have := HC.out; have := HL.out; omega
  clear hW
  go_enter Try.func10, Try.ntmps10
  go_wp2_with fail
  refine HW.out.mono ?_
  rintro e w1 ⟨a, c, rfl, hown, hb⟩
  have HO := Lib.hid hown
  have HB := Lib.hid hb
  clear hown hb
  go_wp2_with fail
  go_loopw [6] (fun x wr => ∃ k : Nat, k ≤ W.length ∧ x = .int .i64 k ∧ Hid (v.data.toList ∉ W.take k) ∧ w1 = wr) (fun x _ => W.length - (intOf x).toNat)
  case atStart => exact ⟨0, Nat.zero_le _, rfl, (by simp [Hid]), rfl⟩
  case round =>
    obtain ⟨k, hk, rfl, hno, rfl⟩ := hrel
    by_cases hlt : k < W.length
    · have hcell : ∃ g, a = some ⟨g, 0, none⟩ ∧ w1.cell? ⟨g, k, none⟩ = some (.string ⟨W[k].toArray⟩) := by
        rcases HO.out.2 with ⟨_, h0⟩ | ⟨g, cap, cur, hv, _, hg, _, hcs⟩
        · omega
        · refine ⟨g, by cases hv; rfl, ?_⟩
          have h1 := HO.out.cells (g := g) (by cases hv; rfl) k (.string ⟨W[k].toArray⟩) (by rw [List.getElem?_eq_getElem (by rw [strs_length]; exact hlt), strs_at hlt])
          rw [Addr.add_lit, Nat.zero_add] at h1
          exact h1
      obtain ⟨g, rfl, g1⟩ := hcell
      have hmem : W[k] ∈ W := List.getElem_mem hlt
      have HE : Hid (((⟨W[k].toArray⟩ : ByteArray).toList == v.toList) = (W[k] == v.data.toList)) := by
        rw [Hid, toLb, toLb]
      have HTk : Hid (W.take (k + 1) = W.take k ++ [W[k]]) := List.take_succ_eq_append_getElem hlt
      cases hb : (W[k] == v.data.toList)
      · have HN : Hid (v.data.toList ∉ W.take (k + 1)) := by
          rw [Hid, HTk.out, List.mem_append, List.mem_singleton]
          rintro (h | h)
          · exact hno.out h
          · rw [h] at hb; simp at hb
        rw [hb] at HE
        have he := HE.out
        obtain ⟨x, hx⟩ : ∃ x : ByteArray, x = ⟨W[k].toArray⟩ := ⟨_, rfl⟩
        rw [← hx] at he g1
        clear hno hb HE hx hmem
        go_wp2_with fail
        go_roundw
        case rel => exact ⟨k + 1, by omega, by go_num, HN.out, by trivial⟩
        case measure => simp [intOf]; omega
      · have HF : Hid (decide (v.data.toList ∈ W) = true) := by
          rw [beq_iff_eq] at hb
          rw [Hid, ← hb, decide_eq_true_eq]; exact hmem
        rw [hb] at HE
        have he := HE.out
        obtain ⟨x, hx⟩ : ∃ x : ByteArray, x = ⟨W[k].toArray⟩ := ⟨_, rfl⟩
        rw [← hx] at he g1
        clear hno hb HE hx hmem
        go_wp2_with fail
        go_ret
        exact ⟨by rw [HF.out]; rfl, HB.out⟩
    · have HF : Hid (decide (v.data.toList ∈ W) = false) := by
        have h1 := hno.out
        rw [List.take_of_length_le (by omega)] at h1
        rw [Hid, decide_eq_false_iff_not]; exact h1
      clear hno
      go_wp2_with fail
      go_ret
      exact ⟨by rw [HF.out]; rfl, HB.out⟩

set_option maxRecDepth 100000 in
set_option maxHeartbeats 1000000 in
theorem isWord_any (W : List (List UInt8)) (hlen : W.length ≤ 2147483647) (v : ByteArray) (a : Option Addr) (c : Nat) (w : World) (h : RSl w w.heap.size a (strs W)) :
    Calls Try.prog 25 #[.slice a W.length c, .string v] w fun e w' => e = .returned (.bool (decide (v.data.toList ∈ W))) ∧ w = w' := by
  have HO := Lib.hid h
  clear h
  go_enter Try.func25, Try.ntmps25
  go_wp2_with fail
  go_loopw [5] (fun x wr => ∃ k : Nat, k ≤ W.length ∧ x = .int .i64 k ∧ Hid (v.data.toList ∉ W.take k) ∧ w = wr) (fun x _ => W.length - (intOf x).toNat)
  case atStart => exact ⟨0, Nat.zero_le _, rfl, (by simp [Hid]), rfl⟩
  case round =>
    obtain ⟨k, hk, rfl, hno, rfl⟩ := hrel
    by_cases hlt : k < W.length
    · obtain ⟨b, o, rfl, hbB, hc⟩ := HO.out.at_ (by rw [strs_length]; omega)
      have g1 := hc k (by rw [strs_length]; exact hlt)
      rw [strs_at hlt] at g1
      have hmem : W[k] ∈ W := List.getElem_mem hlt
      have HE : Hid (((⟨W[k].toArray⟩ : ByteArray).toList == v.toList) = (W[k] == v.data.toList)) := by
        rw [Hid, toLb, toLb]
      have HTk : Hid (W.take (k + 1) = W.take k ++ [W[k]]) := List.take_succ_eq_append_getElem hlt
      clear hc
      cases hb : (W[k] == v.data.toList)
      · have HN : Hid (v.data.toList ∉ W.take (k + 1)) := by
          rw [Hid, HTk.out, List.mem_append, List.mem_singleton]
          rintro (h | h)
          · exact hno.out h
          · rw [h] at hb; simp at hb
        rw [hb] at HE
        have he := HE.out
        obtain ⟨x, hx⟩ : ∃ x : ByteArray, x = ⟨W[k].toArray⟩ := ⟨_, rfl⟩
        rw [← hx] at he g1
        clear hno hb HE hx hmem
        go_wp2_with fail
        go_roundw
        case rel => exact ⟨k + 1, by omega, by go_num, HN.out, by trivial⟩
        case measure => simp [intOf]; omega
      · have HF : Hid (decide (v.data.toList ∈ W) = true) := by
          rw [beq_iff_eq] at hb
          rw [Hid, ← hb, decide_eq_true_eq]; exact hmem
        rw [hb] at HE
        have he := HE.out
        obtain ⟨x, hx⟩ : ∃ x : ByteArray, x = ⟨W[k].toArray⟩ := ⟨_, rfl⟩
        rw [← hx] at he g1
        clear hno hb HE hx hmem
        go_wp2_with fail
        go_ret
        exact ⟨ret_b HF.out, rfl⟩
    · have HF : Hid (decide (v.data.toList ∈ W) = false) := by
        have h1 := hno.out
        rw [List.take_of_length_le (by omega)] at h1
        rw [Hid, decide_eq_false_iff_not]; exact h1
      clear hno
      go_wp2_with fail
      go_ret
      exact ⟨ret_b HF.out, rfl⟩

/-- A value of a class attribute: no white space other than blanks, tabs, line ends; each word once. -/
structure SimC (v : ByteArray) : Prop where
  byte : ∀ c ∈ v.data.toList, c.toNat ≠ 12 ∧ c.toNat ≠ 11 ∧ c.toNat < 128
  once : (words v.data.toList).Nodup

def SimPost (v : ByteArray) (w : World) (e : Ending) (w' : World) : Prop := ∃ b, e = .returned (.bool b) ∧ (b = true → SimC v) ∧ Below w.heap.size w w'

theorem nodup_of_take {α : Type} {l : List α} (h : ∀ k (hk : k < l.length), l[k] ∉ l.take k) : l.Nodup := by
  unfold List.Nodup
  rw [List.pairwise_iff_getElem]
  intro i j hi hj hij e
  refine h j hj ?_
  rw [← e]
  exact List.mem_take_iff_getElem.2 ⟨i, by omega, rfl⟩

set_option maxRecDepth 100000 in
set_option maxHeartbeats 2000000 in
theorem simple_any (s : ByteArray) (hs : s.size ≤ 2147483647) (w : World) :
    Calls Try.prog 17 #[.string s] w (SimPost s w) := by
  have HC := Lib.hid (words_count s.data.toList)
  have HL : Hid (s.data.toList.length = s.size) := rfl
  obtain ⟨W, hW⟩ : ∃ W, W = words s.data.toList := ⟨_, rfl⟩
  have HW := Lib.hid (fun w => wordsC_any s hs w)
  rw [← hW] at HW HC
  have hlen : W.length ≤ 2147483647 := by have := HC.out; have := HL.out; omega
  have HWW := Lib.hid hW
  clear hW
  go_enter Try.func17, Try.ntmps17
  go_wp2_with fail
  go_loopw [3] (fun x wr => ∃ k : Nat, k ≤ s.size ∧ x = .int .i64 k ∧ Hid (∀ c ∈ s.data.toList.take k, c.toNat ≠ 12 ∧ c.toNat ≠ 11 ∧ c.toNat < 128) ∧ w = wr) (fun x _ => s.size - (intOf x).toNat)
  case atStart => exact ⟨0, Nat.zero_le _, rfl, (by simp [Hid]), rfl⟩
  case round =>
    obtain ⟨k, hk, rfl, hno, rfl⟩ := hrel
    by_cases hlt : k < s.size
    · have hgk : s.data.toList[k]'(by have := HL.out; omega) = s[k] := rfl
      have HTk : Hid (s.data.toList.take (k + 1) = s.data.toList.take k ++ [s[k]]) := by
        rw [Hid, List.take_succ_eq_append_getElem (by have := HL.out; omega), hgk]
      clear hgk
      by_cases c1 : s[k].toNat = 12
      · have z1 : ((s[k].toNat : Int) == 12) = true := by rw [beq_iff_eq]; omega
        clear c1
        go_wp2_with fail
        go_ret
        exact ⟨false, rfl, (fun h => by cases h), Below.refl _ _⟩
      have z1 : ((s[k].toNat : Int) == 12) = false := beq_eq_false_iff_ne.2 (by omega)
      by_cases c2 : s[k].toNat = 11
      · have z2 : ((s[k].toNat : Int) == 11) = true := by rw [beq_iff_eq]; omega
        clear c1 c2
        go_wp2_with fail
        go_ret
        exact ⟨false, rfl, (fun h => by cases h), Below.refl _ _⟩
      have z2 : ((s[k].toNat : Int) == 11) = false := beq_eq_false_iff_ne.2 (by omega)
      by_cases c3 : 128 ≤ s[k].toNat
      · have z3 : decide ((128 : Int) ≤ (s[k].toNat : Int)) = true := by simp; omega
        clear c1 c2 c3
        go_wp2_with fail
        go_ret
        exact ⟨false, rfl, (fun h => by cases h), Below.refl _ _⟩
      have z3 : decide ((128 : Int) ≤ (s[k].toNat : Int)) = false := by simp; omega
      have HN : Hid (∀ c ∈ s.data.toList.take (k + 1), c.toNat ≠ 12 ∧ c.toNat ≠ 11 ∧ c.toNat < 128) := by
        intro c hc
        rw [HTk.out, List.mem_append, List.mem_singleton] at hc
        rcases hc with hc | rfl
        · exact hno.out c hc
        · exact ⟨c1, c2, by omega⟩
      clear c1 c2 c3 hno HTk
      go_wp2_with fail
      go_roundw
      case rel => exact ⟨k + 1, by omega, by go_num, HN, by trivial⟩
      case measure => simp [intOf]; omega
    · have HF : Hid (∀ c ∈ s.data.toList, c.toNat ≠ 12 ∧ c.toNat ≠ 11 ∧ c.toNat < 128) := by
        have h1 := hno.out
        rw [List.take_of_length_le (by have := HL.out; omega)] at h1
        exact h1
      clear hno
      go_wp2_with fail
      refine (HW.out _).mono ?_
      rintro e w1 ⟨a, c, rfl, hown, hb⟩
      have HB := Lib.hid hb
      obtain ⟨a1, c1, hv, _, hrs⟩ := RSl.own hown
      cases hv
      have hcap : W.length ≤ c := by
        rcases hown.2 with ⟨hv, h0⟩ | ⟨g, cap, cur, hv, _, hg, hle, _⟩
        · omega
        · cases hv; omega
      have HRow := Lib.hid hrs
      clear hown hb hrs
      go_wp2_with fail
      go_loopw [5] (fun x wr => ∃ k : Nat, k ≤ W.length ∧ x = .int .i64 k ∧ Hid (∀ j (hj : j < W.length), j < k → W[j] ∉ W.take j) ∧ Below w1.heap.size w1 wr) (fun x _ => W.length - (intOf x).toNat)
      case atStart => exact ⟨0, Nat.zero_le _, rfl, (fun j _ h => by omega), Below.refl _ _⟩
      case round =>
        obtain ⟨k, hk, rfl, hno, hbr⟩ := hrel
        have HBr := Lib.hid hbr
        clear hbr
        by_cases hlt : k < W.length
        · obtain ⟨b, o, rfl, hbB, hcc⟩ := (HRow.out.up HBr.out).at_ (by rw [strs_length]; omega)
          have g1 := hcc k (by rw [strs_length]; exact hlt)
          rw [strs_at hlt] at g1
          have hkc : k ≤ c := by omega
          have HIs : Hid (∀ V, Below w1.heap.size w1 V → Calls Try.prog 25 #[.slice (some ⟨b, o, none⟩) k c, .string ⟨W[k].toArray⟩] V fun e w' => e = .returned (.bool (decide (W[k] ∈ W.take k))) ∧ V = w') := by
            intro V hV
            have hrow : RSl V V.heap.size (some ⟨b, o, none⟩) (strs (W.take k)) := by
              obtain ⟨b1, o1, e1, hbb, hc⟩ := (HRow.out.up hV).at_ (by rw [strs_length]; omega)
              refine .inr ⟨b1, o1, e1, hbb, fun i hi => ?_⟩
              rw [strs_length] at hi
              have hi3 : i < W.length := by simp at hi; omega
              rw [strs_at hi, hc i (by rw [strs_length]; exact hi3), strs_at hi3, List.getElem_take]
            have := isWord_any (W.take k) (by simp; omega) ⟨W[k].toArray⟩ (some ⟨b, o, none⟩) c V hrow
            rw [List.length_take, Nat.min_eq_left (by omega)] at this
            exact this
          clear hcc
          obtain ⟨x, hx⟩ : ∃ x : ByteArray, x = ⟨W[k].toArray⟩ := ⟨_, rfl⟩
          rw [← hx] at g1 HIs
          clear hx
          by_cases hin : W[k] ∈ W.take k
          · rw [decide_eq_true hin] at HIs
            clear hin
            go_wp2_with fail
            go_quiet ((go_at_call 25; exact quiet_left (HIs.out _ (below_drewN HBr.out _))))
            go_wp2_with fail
            go_ret
            exact ⟨false, rfl, (fun h => by cases h), bnext HB.out (below_drewN HBr.out _)⟩
          · have HN : Hid (∀ j (hj : j < W.length), j < k + 1 → W[j] ∉ W.take j) := by
              intro j hj hjk
              by_cases e : j = k
              · subst e; exact hin
              · exact hno.out j hj (by omega)
            rw [decide_eq_false hin] at HIs
            clear hin hno
            go_wp2_with fail
            go_quiet ((go_at_call 25; exact quiet_left (HIs.out _ (below_drewN HBr.out _))))
            go_wp2_with fail
            go_roundw
            case rel => exact ⟨k + 1, by omega, by go_num, HN, below_drewN HBr.out _⟩
            case measure => simp [intOf]; omega
        · have HN : Hid W.Nodup := nodup_of_take fun j hj => hno.out j hj (by omega)
          go_wp2_with fail
          go_ret
          exact ⟨true, rfl, fun _ => ⟨HF.out, by rw [← HWW.out]; exact HN.out⟩, bnext HB.out HBr.out⟩
end Go.Proofs.Ytjebadadimejpaa
