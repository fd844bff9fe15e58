/- The reference's looks at a value: ascii, stands, inside, Word, truth. -/
import Derived.Test.YtfebdbfkpmjpeaaT86
namespace Go.Proofs.Ytfebdbfkpmjpeaa
open Go.RowKit
set_option linter.unusedVariables false

def ascB (l : List UInt8) : Bool := l.all fun c => decide (c.toNat < 128)
def standsB (s : List UInt8) (a : Nat) (p : List UInt8) : Bool := decide (a + p.length ≤ s.length) && ((s.drop a).take p.length == p)
def truI (b : Bool) : Int := if b = true then 1 else 0

set_option maxRecDepth 100000 in
theorem tru_any (b : Bool) (w : World) : Calls Try.prog 190 #[.bool b] w fun e w' => e = .returned (.int .i64 (truI b)) ∧ w = w' := by
  cases b
  all_goals
    go_enter Try.func190, Try.ntmps190
    go_wp2_with fail
    go_ret
    exact ⟨rfl, rfl⟩

set_option maxRecDepth 100000 in
set_option maxHeartbeats 1000000 in
theorem ascii_any (s : ByteArray) (w : World) (hs : s.size ≤ 2147483647) : Calls Try.prog 110 #[.string s] w fun e w' => e = .returned (.bool (ascB s.data.toList)) ∧ w = w' := by
  have hsl : s.data.toList.length = s.size := rfl
  have HL := Lib.hid hsl
  clear hsl
  go_enter Try.func110, Try.ntmps110
  go_wp2_with fail
  go_loopw [3] (fun x wr => ∃ k : Nat, k ≤ s.size ∧ x = .int .i64 k ∧ Hid (ascB (s.data.toList.take k) = true) ∧ w = wr) (fun x _ => s.size - (intOf x).toNat)
  case atStart => exact ⟨0, Nat.zero_le _, rfl, rfl, rfl⟩
  case round =>
    obtain ⟨k, hk, rfl, hno, rfl⟩ := hrel
    by_cases hlt : k < s.size
    · have hgk : s.data.toList[k]'(by have := HL.out; omega) = s[k] := rfl
      by_cases h : s[k].toNat < 128
      · have HN : Hid (ascB (s.data.toList.take (k + 1)) = true) := by
          have h1 := hno.out
          unfold ascB at h1 ⊢
          rw [Hid, List.take_succ_eq_append_getElem (by have := HL.out; omega), List.all_append, h1, hgk]
          simp [h]
        have d1 : decide ((128 : Int) ≤ (s[k].toNat : Int)) = false := by simp; omega
        clear hgk hno
        go_wp2_with fail
        go_roundw
        case rel => exact ⟨k + 1, by omega, by go_num, HN.out, by trivial⟩
        case measure => simp [intOf]; omega
      · have HF : Hid (ascB s.data.toList = false) := by
          unfold ascB
          rw [Hid, List.all_eq_false]
          refine ⟨s[k], ?_, by simpa using h⟩
          rw [← hgk]; exact List.getElem_mem _
        have d1 : decide ((128 : Int) ≤ (s[k].toNat : Int)) = true := by simp; omega
        clear hgk hno
        go_wp2_with fail
        go_ret
        exact ⟨by rw [HF.out]; rfl, rfl⟩
    · have HF : Hid (ascB s.data.toList = true) := by
        have h1 := hno.out
        rw [List.take_of_length_le (by have := HL.out; omega)] at h1
        exact h1
      clear hno
      go_wp2_with fail
      go_ret
      exact ⟨by rw [HF.out]; rfl, rfl⟩

set_option maxRecDepth 100000 in
set_option maxHeartbeats 1000000 in
theorem stands_any (s p : ByteArray) (a : Nat) (hs : s.size ≤ 2147483647) (hp : p.size ≤ 2147483647) (ha : a ≤ 2147483647) (w : World) :
    Calls Try.prog 172 #[.string s, .int .i64 a, .string p] w fun e w' => e = .returned (.bool (standsB s.data.toList a p.data.toList)) ∧ w = w' := by
  have hsl : s.data.toList.length = s.size := rfl
  have hpl : p.data.toList.length = p.size := rfl
  by_cases h : a + p.size ≤ s.size
  · have HX : Hid (standsB s.data.toList a p.data.toList = ((s.extract a (a + p.size)).toList == p.toList)) := by
      rw [Hid, toL, toL, Lib.extract_data, Nat.add_sub_cancel_left]
      unfold standsB
      rw [hpl, hsl, decide_eq_true h, Bool.true_and]
    have d1 : decide ((0 : Int) ≤ (a : Int)) = true := by simp
    have d2 : decide ((a : Int) + (p.size : Nat) ≤ (s.size : Nat)) = true := by simp; omega
    clear hsl hpl
    go_enter Try.func172, Try.ntmps172
    go_wp2_with fail
    go_ret
    exact ⟨by rw [HX.out]; rfl, rfl⟩
  · have HX : Hid (standsB s.data.toList a p.data.toList = false) := by
      rw [Hid]
      unfold standsB
      rw [hpl, hsl, decide_eq_false h, Bool.false_and]
    have d1 : decide ((0 : Int) ≤ (a : Int)) = true := by simp
    have d2 : decide ((a : Int) + (p.size : Nat) ≤ (s.size : Nat)) = false := by simp; omega
    clear hsl hpl
    go_enter Try.func172, Try.ntmps172
    go_wp2_with fail
    go_ret
    exact ⟨by rw [HX.out]; rfl, rfl⟩

set_option maxRecDepth 100000 in
theorem stands_low (s p : ByteArray) (z : Int) (hz : z < 0) (w : World) :
    Calls Try.prog 172 #[.string s, .int .i64 z, .string p] w fun e w' => e = .returned (.bool false) ∧ w = w' := by
  have d1 : decide ((0 : Int) ≤ z) = false := by simp; omega
  go_enter Try.func172, Try.ntmps172
  go_wp2_with fail
  go_ret
  exact ⟨rfl, rfl⟩

/-- No instance before a place, and no room for one from there on. -/
theorem contains_no {s p : List UInt8} {k : Nat} (h : ∀ j, j < k → j + p.length ≤ s.length → standsB s j p = false) (hk : s.length < k + p.length) : Lib.contains s p = false := by
  rw [Bool.eq_false_iff]
  intro q
  obtain ⟨A, B, e⟩ := (contains_iff s p).1 q
  have hl : A.length + p.length ≤ s.length := by rw [e]; simp
  have := h A.length (by omega) hl
  unfold standsB at this
  rw [decide_eq_true hl, Bool.true_and, beq_eq_false_iff_ne] at this
  apply this
  rw [e, List.append_assoc, List.drop_left, List.take_left]
theorem contains_yes {s p : List UInt8} {k : Nat} (h : standsB s k p = true) : Lib.contains s p = true := by
  unfold standsB at h
  rw [Bool.and_eq_true, beq_iff_eq] at h
  replace h := h.2
  refine (contains_iff s p).2 ⟨s.take k, (s.drop k).drop p.length, ?_⟩
  rw [List.append_assoc]
  conv => rhs; rhs; lhs; rw [← h]
  rw [List.take_append_drop, List.take_append_drop]

set_option maxRecDepth 100000 in
set_option maxHeartbeats 1000000 in
theorem inside_any (s p : ByteArray) (hs : s.size ≤ 2147483647) (hp : p.size ≤ 2147483647) (w : World) :
    Calls Try.prog 111 #[.string s, .string p] w fun e w' => e = .returned (.bool (Lib.contains s.data.toList p.data.toList)) ∧ w = w' := by
  have HL : Hid (s.data.toList.length = s.size ∧ p.data.toList.length = p.size) := ⟨rfl, rfl⟩
  go_enter Try.func111, Try.ntmps111
  go_wp2_with fail
  go_loopw [5] (fun x wr => ∃ k : Nat, k ≤ s.size + 1 ∧ x = .int .i64 k ∧ Hid (∀ j, j < k → j + p.data.toList.length ≤ s.data.toList.length → standsB s.data.toList j p.data.toList = false) ∧ w = wr) (fun x _ => s.size + 1 - (intOf x).toNat)
  case atStart => exact ⟨0, Nat.zero_le _, rfl, (fun j h => by omega), rfl⟩
  case round =>
    obtain ⟨k, hk, rfl, hno, rfl⟩ := hrel
    by_cases hle : k + p.size ≤ s.size
    · have HS := Lib.hid (stands_any s p k hs hp (by omega) w)
      cases hb : standsB s.data.toList k p.data.toList
      · have HN : Hid (∀ j, j < k + 1 → j + p.data.toList.length ≤ s.data.toList.length → standsB s.data.toList j p.data.toList = false) := by
          intro j hj h2
          by_cases e : j = k
          · subst e; exact hb
          · exact hno.out j (by omega) h2
        rw [hb] at HS
        clear hno hb
        go_wp2_with fail
        refine HS.out.mono ?_
        rintro e w1 ⟨rfl, rfl⟩
        go_wp2_with fail
        go_roundw
        case rel => exact ⟨k + 1, by omega, by go_num, HN.out, by trivial⟩
        case measure => simp [intOf]; omega
      · have HF := Lib.hid (contains_yes hb)
        rw [hb] at HS
        clear hno hb
        go_wp2_with fail
        refine HS.out.mono ?_
        rintro e w1 ⟨rfl, rfl⟩
        go_wp2_with fail
        go_ret
        exact ⟨by rw [HF.out]; rfl, rfl⟩
    · have HF := Lib.hid (contains_no hno.out (by have := HL.out; omega))
      clear hno
      go_wp2_with fail
      go_ret
      exact ⟨by rw [HF.out]; rfl, rfl⟩

set_option maxRecDepth 100000 in
set_option maxHeartbeats 1000000 in
theorem word_any (s v : ByteArray) (hs : s.size ≤ 2147483647) (w : World) :
    Calls Try.prog 61 #[.string s, .string v] w (BoolPost (decide (v.data.toList ∈ words s.data.toList)) w) := by
  have HC := Lib.hid (words_count s.data.toList)
  have HL : Hid (s.data.toList.length = s.size) := rfl
  obtain ⟨W, hW⟩ : ∃ W, W = words s.data.toList := ⟨_, rfl⟩
  have HW := Lib.hid (wordsOf_any s hs w)
  rw [← hW] at HW HC ⊢
  have hlen : W.length ≤ 2147483647 := by have := HC.out; have := HL.out; omega
  clear hW
  go_enter Try.func61, Try.ntmps61
  go_wp2_with fail
  refine HW.out.mono ?_
  rintro e w1 ⟨a, c, rfl, hown, hb⟩
  have HO := Lib.hid hown
  have HB := Lib.hid hb
  clear hown hb
  go_wp2_with fail
  go_loopw [6] (fun x wr => ∃ k : Nat, k ≤ W.length ∧ x = .int .i64 k ∧ Hid (v.data.toList ∉ W.take k) ∧ w1 = wr) (fun x _ => W.length - (intOf x).toNat)
  case atStart => exact ⟨0, Nat.zero_le _, rfl, (by simp [Hid]), rfl⟩
  case round =>
    obtain ⟨k, hk, rfl, hno, rfl⟩ := hrel
    by_cases hlt : k < W.length
    · have hcell : ∃ g, a = some ⟨g, 0, none⟩ ∧ w1.cell? ⟨g, k, none⟩ = some (.string ⟨W[k].toArray⟩) := by
        rcases HO.out.2 with ⟨_, h0⟩ | ⟨g, cap, cur, hv, _, hg, _, hcs⟩
        · omega
        · refine ⟨g, by cases hv; rfl, ?_⟩
          have h1 := HO.out.cells (g := g) (by cases hv; rfl) k (.string ⟨W[k].toArray⟩) (by rw [List.getElem?_eq_getElem (by rw [strs_length]; exact hlt), strs_at hlt])
          rw [Addr.add_lit, Nat.zero_add] at h1
          exact h1
      obtain ⟨g, rfl, g1⟩ := hcell
      have hmem : W[k] ∈ W := List.getElem_mem hlt
      have HE : Hid (((⟨W[k].toArray⟩ : ByteArray).toList == v.toList) = (W[k] == v.data.toList)) := by
        rw [Hid, toL, toL]
      have HTk : Hid (W.take (k + 1) = W.take k ++ [W[k]]) := List.take_succ_eq_append_getElem hlt
      cases hb : (W[k] == v.data.toList)
      · have HN : Hid (v.data.toList ∉ W.take (k + 1)) := by
          rw [Hid, HTk.out, List.mem_append, List.mem_singleton]
          rintro (h | h)
          · exact hno.out h
          · rw [h] at hb; simp at hb
        rw [hb] at HE
        have he := HE.out
        obtain ⟨x, hx⟩ : ∃ x : ByteArray, x = ⟨W[k].toArray⟩ := ⟨_, rfl⟩
        rw [← hx] at he g1
        clear hno hb HE hx hmem
        go_wp2_with fail
        go_roundw
        case rel => exact ⟨k + 1, by omega, by go_num, HN.out, by trivial⟩
        case measure => simp [intOf]; omega
      · have HF : Hid (decide (v.data.toList ∈ W) = true) := by
          rw [beq_iff_eq] at hb
          rw [Hid, ← hb, decide_eq_true_eq]; exact hmem
        rw [hb] at HE
        have he := HE.out
        obtain ⟨x, hx⟩ : ∃ x : ByteArray, x = ⟨W[k].toArray⟩ := ⟨_, rfl⟩
        rw [← hx] at he g1
        clear hno hb HE hx hmem
        go_wp2_with fail
        go_ret
        exact ⟨by rw [HF.out]; rfl, HB.out⟩
    · have HF : Hid (decide (v.data.toList ∈ W) = false) := by
        have h1 := hno.out
        rw [List.take_of_length_le (by omega)] at h1
        rw [Hid, decide_eq_false_iff_not]; exact h1
      clear hno
      go_wp2_with fail
      go_ret
      exact ⟨by rw [HF.out]; rfl, HB.out⟩
end Go.Proofs.Ytfebdbfkpmjpeaa
