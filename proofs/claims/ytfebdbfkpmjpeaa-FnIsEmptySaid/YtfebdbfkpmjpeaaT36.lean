/- Functions given as data: what they keep. -/
import Derived.Test.YtfebdbfkpmjpeaaT34
import Derived.Test.YtfebdbfkpmjpeaaT25
namespace Go.Proofs.Ytfebdbfkpmjpeaa
open Go.RowKit
set_option linter.unusedVariables false

theorem quiet_left {P : Program} {f : FuncId} {args : Array Value} {w : World} {n : Nat} {v : Value}
    (h : Calls P f args (w.drewN n) fun e w' => e = .returned v ∧ w.drewN n = w') : Calls P f args (w.drewN n) fun e w'' => e = .returned v ∧ ∃ m, w'' = w.drewN m :=
  h.mono fun _ _ ⟨he, hm⟩ => ⟨he, n, hm.symm⟩

def bvs (l : List Bool) : List Value := l.map Value.bool
theorem bvs_length (l : List Bool) : (bvs l).length = l.length := by simp [bvs]
theorem bvs_at {l : List Bool} {i : Nat} (h : i < l.length) : (bvs l)[i]'(by rw [bvs_length]; exact h) = .bool l[i] := by simp [bvs]
theorem bvs_snoc (l : List Bool) (x : Bool) : bvs (l ++ [x]) = bvs l ++ [.bool x] := by simp [bvs]

set_option maxRecDepth 100000 in
set_option maxHeartbeats 1000000 in
theorem yes_any (a : Option Addr) (c : Nat) (l : List Bool) (hl : l.length ≤ 2147483647) (i : Nat) (hi : i ≤ 2147483647) (w : World) (h : RSl w w.heap.size a (bvs l)) :
    Calls Try.prog 114 #[.slice a l.length c, .int .i64 i] w fun e w' => e = .returned (.bool (l.getD i false)) ∧ w = w' := by
  by_cases hlt : i < l.length
  · obtain ⟨b, o, rfl, hbB, hc⟩ := h.at_ (by rw [bvs_length]; omega)
    have g1 := hc i (by rw [bvs_length]; exact hlt)
    rw [bvs_at hlt] at g1
    have HG : Hid (l.getD i false = l[i]) := by rw [Hid, List.getD_eq_getElem?_getD, List.getElem?_eq_getElem hlt, Option.getD_some]
    obtain ⟨x, hx⟩ : ∃ x, x = l[i] := ⟨_, rfl⟩
    rw [← hx] at g1 HG
    clear hc h hx
    go_enter Try.func114, Try.ntmps114
    go_wp2_with fail
    go_ret
    exact ⟨ret_b HG.out, rfl⟩
  · have HG : Hid (l.getD i false = false) := by rw [Hid, List.getD_eq_getElem?_getD, List.getElem?_eq_none (by omega), Option.getD_none]
    clear h
    go_enter Try.func114, Try.ntmps114
    go_wp2_with fail
    go_ret
    exact ⟨ret_b HG.out, rfl⟩

set_option maxRecDepth 100000 in
set_option maxHeartbeats 1000000 in
theorem answered_any (a : Option Addr) (c : Nat) (l : List Bool) (hl : l.length ≤ 2147483647) (i : Nat) (hi : i ≤ 2147483647) (w : World) (h : RSl w w.heap.size a (bvs l)) :
    Calls Try.prog 54 #[.slice a l.length c, .int .i64 i] w fun e w' => e = .returned (.bool (l.getD i false)) ∧ w = w' := by
  by_cases hlt : i < l.length
  · obtain ⟨b, o, rfl, hbB, hc⟩ := h.at_ (by rw [bvs_length]; omega)
    have g1 := hc i (by rw [bvs_length]; exact hlt)
    rw [bvs_at hlt] at g1
    have HG : Hid (l.getD i false = l[i]) := by rw [Hid, List.getD_eq_getElem?_getD, List.getElem?_eq_getElem hlt, Option.getD_some]
    obtain ⟨x, hx⟩ : ∃ x, x = l[i] := ⟨_, rfl⟩
    rw [← hx] at g1 HG
    clear hc h hx
    go_enter Try.func54, Try.ntmps54
    go_wp2_with fail
    go_ret
    exact ⟨ret_b HG.out, rfl⟩
  · have HG : Hid (l.getD i false = false) := by rw [Hid, List.getD_eq_getElem?_getD, List.getElem?_eq_none (by omega), Option.getD_none]
    clear h
    go_enter Try.func54, Try.ntmps54
    go_wp2_with fail
    go_ret
    exact ⟨ret_b HG.out, rfl⟩

/-- A closure that answers by a list: what its call says. -/
def Answers (f : Nat) (b : Nat) (p : Nat → Bool) (w : World) : Prop :=
  ∀ (W : World) (i : Nat) (s : Option Addr), Below w.heap.size w W → i ≤ 2147483647 → Calls Try.prog f #[.int .i64 i, .pointer s, .pointer (some ⟨b, 0, none⟩)] W fun e w' => e = .returned (.bool (p i)) ∧ W = w'

set_option maxRecDepth 100000 in
theorem notBy1_any (b : Nat) (a : Option Addr) (c : Nat) (l : List Bool) (hl : l.length ≤ 2147483647) (w : World) (hb : w.cell? ⟨b, 0, none⟩ = some (.slice a l.length c)) (hbl : b < w.heap.size) (h : RSl w w.heap.size a (bvs l)) :
    Answers 113 b (fun i => l.getD i false) w := by
  intro W i s hB hi
  have g := (hB.cell (p := ⟨b, 0, none⟩) hbl).trans hb
  have HY := Lib.hid (yes_any a c l hl i hi W (h.up hB))
  clear hb h hB
  go_enter Try.func113, Try.ntmps113
  go_wp2_with fail
  refine HY.out.mono ?_
  rintro e w1 ⟨rfl, rfl⟩
  go_wp2_with fail
  go_ret
  exact ⟨rfl, rfl⟩

set_option maxRecDepth 100000 in
theorem filterBy1_any (b : Nat) (a : Option Addr) (c : Nat) (l : List Bool) (hl : l.length ≤ 2147483647) (w : World) (hb : w.cell? ⟨b, 0, none⟩ = some (.slice a l.length c)) (hbl : b < w.heap.size) (h : RSl w w.heap.size a (bvs l)) :
    Answers 116 b (fun i => l.getD i false) w := by
  intro W i s hB hi
  have g := (hB.cell (p := ⟨b, 0, none⟩) hbl).trans hb
  have HY := Lib.hid (yes_any a c l hl i hi W (h.up hB))
  clear hb h hB
  go_enter Try.func116, Try.ntmps116
  go_wp2_with fail
  refine HY.out.mono ?_
  rintro e w1 ⟨rfl, rfl⟩
  go_wp2_with fail
  go_ret
  exact ⟨rfl, rfl⟩

/-- The test that winnowFunction hands on. -/
def Tests (b4 b5 : Nat) (p : Nat → Bool) (w : World) : Prop :=
  ∀ (W : World) (i : Nat) (s : Option Addr), Below w.heap.size w W → i ≤ 2147483647 → Calls Try.prog 212 #[.int .i64 i, .pointer s, .pointer (some ⟨b4, 0, none⟩), .pointer (some ⟨b5, 0, none⟩)] W fun e w' => e = .returned (.bool (p i)) ∧ ∃ m, w' = W.drewN m

set_option maxRecDepth 100000 in
set_option maxHeartbeats 1000000 in
theorem win1_any (f b4 b5 b : Nat) (keep : Bool) (p : Nat → Bool) (w : World) (hf : f = 113 ∨ f = 116) (h4 : w.cell? ⟨b4, 0, none⟩ = some (.func (.func f) #[] #[.pointer (some ⟨b, 0, none⟩)])) (h5 : w.cell? ⟨b5, 0, none⟩ = some (.bool keep)) (hb4 : b4 < w.heap.size) (hb5 : b5 < w.heap.size) (hA : Answers f b p w) :
    Tests b4 b5 (fun i => p i == keep) w := by
  intro W i s hB hi
  have g4 := (hB.cell (p := ⟨b4, 0, none⟩) hb4).trans h4
  have g5 := (hB.cell (p := ⟨b5, 0, none⟩) hb5).trans h5
  have HA : Hid (∀ n, Calls Try.prog f #[.int .i64 i, .pointer s, .pointer (some ⟨b, 0, none⟩)] (W.drewN n) fun e w' => e = .returned (.bool (p i)) ∧ W.drewN n = w') := fun n => hA (W.drewN n) i s (below_drewN hB n) hi
  obtain ⟨r, hr⟩ : ∃ r, r = p i := ⟨_, rfl⟩
  rw [← hr] at HA
  have hgoal : (fun i => p i == keep) i = (r == keep) := by rw [hr]
  rw [hgoal]
  clear h4 h5 hA hB hr hgoal
  rcases hf with rfl | rfl
  · go_enter Try.func212, Try.ntmps212
    go_wp2_with fail
    go_quiet ((go_at_call 113; exact quiet_left (HA.out _)))
    go_wp2_with fail
    go_ret
    exact ⟨rfl, _, rfl⟩
  · go_enter Try.func212, Try.ntmps212
    go_wp2_with fail
    go_quiet ((go_at_call 116; exact quiet_left (HA.out _)))
    go_wp2_with fail
    go_ret
    exact ⟨rfl, _, rfl⟩

/-- Those of a list of which a test of their numbers says yes. -/
def pickN (p : Nat → Bool) (ns : List Nat) : List Nat := (ns.zipIdx.filter fun x => p x.2).map (·.1)
theorem pickN_snoc (p : Nat → Bool) (ns : List Nat) (i : Nat) : pickN p (ns ++ [i]) = pickN p ns ++ if p ns.length = true then [i] else [] := by
  unfold pickN
  rw [List.zipIdx_append, List.filter_append, List.map_append]
  congr 1
  simp only [List.zipIdx_cons, List.zipIdx_nil, Nat.zero_add]
  rw [List.filter_cons, List.filter_nil]
  by_cases h : p ns.length = true
  · rw [if_pos h, if_pos h]; rfl
  · rw [if_neg h, if_neg h]; rfl
theorem pickN_len (p : Nat → Bool) (ns : List Nat) : (pickN p ns).length ≤ ns.length := by
  unfold pickN
  rw [List.length_map]
  exact Nat.le_trans (List.length_filter_le _ _) (by simp)
theorem pickN_mem {p : Nat → Bool} {ns : List Nat} {k : Nat} (h : k ∈ pickN p ns) : k ∈ ns := by
  unfold pickN at h
  obtain ⟨x, hx, rfl⟩ := List.mem_map.1 h
  have := (List.mem_filter.1 hx).1
  exact (List.mem_zipIdx' this).2 ▸ List.getElem_mem _
theorem pickN_congr {p q : Nat → Bool} {ns : List Nat} (h : ∀ i, i < ns.length → p i = q i) : pickN p ns = pickN q ns := by
  unfold pickN
  congr 1
  apply List.filter_congr
  rintro ⟨x, i⟩ hx
  exact h i (List.mem_zipIdx' hx).1
end Go.Proofs.Ytfebdbfkpmjpeaa
