/- FnAddOf: the walk. -/
import Derived.Test.YtfebdbfkpmjpeaaT40
import Derived.Test.YtfebdbfkpmjpeaaT43
namespace Go.Proofs.Ytfebdbfkpmjpeaa
open Go.RowKit
set_option linter.unusedVariables false

theorem addN_toI (ns ms : List Nat) (h1 : ns.Nodup) (h2 : ms.Nodup) : (toI (addN ns ms)).Nodup ∧ (toI (addN ns ms)).length = (onceL (toI ns ++ toI ms)).length ∧ ∀ x ∈ toI (addN ns ms), x ∈ onceL (toI ns ++ toI ms) := by
  have hm : ∀ x, x ∈ toI (addN ns ms) ↔ x ∈ onceL (toI ns ++ toI ms) := by
    intro x
    rw [onceL_mem, List.mem_append]
    unfold toI
    simp only [List.mem_map]
    constructor
    · rintro ⟨k, hk, rfl⟩
      rcases addN_mem.1 hk with h | h
      · exact .inl ⟨k, h, rfl⟩
      · exact .inr ⟨k, h, rfl⟩
    · rintro (⟨k, h, rfl⟩ | ⟨k, h, rfl⟩)
      · exact ⟨k, addN_mem.2 (.inl h), rfl⟩
      · exact ⟨k, addN_mem.2 (.inr h), rfl⟩
  have hn : (toI (addN ns ms)).Nodup := by
    unfold toI List.Nodup
    rw [List.pairwise_map]
    exact (addN_nodup h1 h2).imp (fun h e => h (by omega))
  exact ⟨hn, once_len hn (onceL_nodup _) hm, fun x hx => (hm x).1 hx⟩

set_option maxRecDepth 100000 in
set_option maxHeartbeats 2000000 in
theorem FnAddOf_walk (ad : Option Addr) (len c : Nat) (t : List Nd) (a2 : Option Addr) (len2 c2 : Nat) (l : List Int) (a3 : Option Addr) (len3 c3 : Nat) (m : List Int) (w : World) (h : NSl w w.heap.size ad t ∧ len = t.length) (hi : ISl w w.heap.size a2 l ∧ len2 = l.length ∧ len2 ≤ c2) (hj : ISl w w.heap.size a3 m ∧ len3 = m.length ∧ len3 ≤ c3) :
    Calls Try.prog 9 #[.slice ad len c, .slice a2 len2 c2, .slice a3 len3 c3] w fun e w' => e = .returned (.bool true) ∧ Below w.heap.size w w' := by
  obtain ⟨h, rfl⟩ := h
  obtain ⟨hi, rfl, hc2⟩ := hi
  obtain ⟨hj, rfl, hc3⟩ := hj
  have HH := Lib.hid h
  have hll := hi.len
  have hml := hj.len
  have HI := Lib.hid hi
  have HJ := Lib.hid hj
  unfold maxLen at hll hml
  clear h hi hj
  go_enter Try.func9, Try.ntmps9
  go_wp2_with fail
  refine (zzFits1_any _ _ t _ HH.out).mono ?_
  rintro e w1 ⟨rfl, hb1⟩
  have HB1 := Lib.hid hb1
  clear hb1
  cases hf : fits1 t
  · go_wp2_with fail
    go_ret
    exact ⟨rfl, HB1.out⟩
  · by_cases k1 : 2147483647 < l.length
    · go_wp2_with fail
      go_ret
      exact ⟨rfl, HB1.out⟩
    by_cases k2 : 2147483647 < m.length
    · go_wp2_with fail
      go_ret
      exact ⟨rfl, HB1.out⟩
    go_wp2_with fail
    refine (rising_any _ _ t hf _ _ l (by omega) hc2 _ (HH.out.up HB1.out) (HI.out.up HB1.out)).mono ?_
    rintro e w2 ⟨b, rfl, hS, hb2⟩
    have HB2 := Lib.hid (bnext HB1.out hb2)
    have HS0 := Lib.hid hS
    clear hb2 hS
    cases b
    · go_wp2_with fail
      go_ret
      exact ⟨rfl, HB2.out⟩
    go_wp2_with fail
    refine (rising_any _ _ t hf _ _ m (by omega) hc3 _ (HH.out.up HB2.out) (HJ.out.up HB2.out)).mono ?_
    rintro e w3 ⟨b, rfl, hS, hb3⟩
    have HB3 := Lib.hid (bnext HB2.out hb3)
    have HS00 := Lib.hid hS
    clear hb3 hS
    cases b
    · go_wp2_with fail
      go_ret
      exact ⟨rfl, HB3.out⟩
    obtain ⟨ns, hS1⟩ := HS0.out (by trivial)
    obtain ⟨ms, hS2⟩ := HS00.out (by trivial)
    have HS1 := Lib.hid hS1
    have HS2 := Lib.hid hS2
    have hle := hS1.right.le
    have hln := hS1.ord.length
    have hlm := hS2.ord.length
    have hln2 := hS1.ord.len
    have hlm2 := hS2.ord.len
    have hl200 : l.length ≤ 200 := by omega
    have hm200 : m.length ≤ 200 := by omega
    have HLN := Lib.hid hln
    have HLM := Lib.hid hlm
    have HFacts := Lib.hid (addN_toI ns ms hS1.ord.nodup hS2.ord.nodup)
    have HAdd : Hid (∀ W, Below w.heap.size w W → Calls Try.prog 40 #[.slice ad t.length c, .slice a2 l.length c2, .slice a3 m.length c3] W (ListPost (toI (addN ns ms)) W)) :=
      fun W hW => addOf_any ad c t HS1.out.right a2 c2 l ns HS1.out.ord (by omega) a3 c3 m ms HS2.out.ord (by omega) W (HH.out.up hW) (HI.out.up hW) (HJ.out.up hW)
    have HRel := Lib.hid (relAdd_any ad t.length c a2 c2 l (by omega) a3 c3 m (by omega) w3 (HI.out.up HB3.out).row (HJ.out.up HB3.out).row)
    have hOl : (onceL (l ++ m)).length ≤ 400 := by
      have := onceL_len (l ++ m)
      rw [List.length_append] at this; omega
    have HEq : Hid (onceL (l ++ m) = onceL (toI ns ++ toI ms)) := by rw [Hid, hS1.ord.toI, hS2.ord.toI]
    clear hS1 hS2 hle hln hlm hln2 hlm2 HS0 HS00
    go_wp2_with fail
    refine HRel.out.mono ?_
    rintro e w4 ⟨v, rfl, hown, hb4⟩
    obtain ⟨av, cv, rfl, hrow⟩ := hown.row
    have HRow := Lib.hid hrow
    have HB4 := Lib.hid (bnext HB3.out hb4)
    have HC := Lib.hid (HAdd.out w4 HB4.out)
    clear hown hrow hb4
    go_wp2_with fail
    refine HC.out.mono ?_
    rintro e w5 ⟨v2, rfl, hown, hb5⟩
    obtain ⟨av2, cv2, rfl, hrow2⟩ := hown.row
    have HRow2 := Lib.hid hrow2
    have HRow1 := Lib.hid (HRow.out.up hb5)
    have HB5 := Lib.hid (bnext HB4.out hb5)
    obtain ⟨f1, f2, f3⟩ := HFacts.out
    have HSame := Lib.hid (sameOnce_any av2 cv2 (toI (addN ns ms)) av cv (onceL (l ++ m)) (by rw [f2, ← HEq.out]; omega) (by omega) f1 (by rw [HEq.out]; exact f2) (by rw [HEq.out]; exact f3) w5 HRow2.out HRow1.out)
    clear hown hrow2 hb5 f1 f2 f3
    go_wp2_with fail
    refine HSame.out.mono ?_
    rintro e w6 ⟨rfl, hb6⟩
    have HB6 := Lib.hid (bnext HB5.out hb6)
    clear hb6
    go_wp2_with fail
    go_ret
    exact ⟨rfl, HB6.out⟩

open Go.WideShapes Go.Deep in
/-- An argument of numbers, and its capacity. -/
theorem open_ints_c {H : Type} {enc : TypeId × Value → H} {w : World} {base : Nat} {spare : Nat → Bool} {held : Bool} {a : Option Addr} {len cap : Nat} {d : DataW H} {p : List MemPlace} (h : DataW.Trod enc Try.prog w base spare held 45 (.slice a len cap) d p) :
    ∃ l : List Int, ISl w w.heap.size a l ∧ len = l.length ∧ len ≤ cap := by
  obtain ⟨l, h1, h2⟩ := open_ints h
  refine ⟨l, h1, h2, ?_⟩
  obtain ⟨fuel, h⟩ := h
  rcases open_slice Try.underlying45 h with ⟨hcs, _⟩ | ⟨a', len', cap', m, n, D, Pl, hcs, _, hl, _⟩
  · simp [Value.cells] at hcs
    omega
  · simp [Value.cells] at hcs
    obtain ⟨_, h3, h4⟩ := hcs
    omega
end Go.Proofs.Ytfebdbfkpmjpeaa
