/- The reference's step to the element ahead. -/
import Derived.Test.YtgilbckfkngaiaaGreatT115
namespace Go.Proofs.YtgilbckfkngaiaaGreat
open Go.RowKit
set_option linter.unusedVariables false

set_option maxRecDepth 100000 in
set_option maxHeartbeats 1000000 in
theorem atMost_any (B : Nat) (v : Value) (l : List Nat) (hl : l.length ≤ 200) (w : World) (ho : OwnI B (toI l) v w) :
    Calls Tryz.prog 22 #[v] w (OwnedPost B (toI (l.take 1)) w) := by
  obtain ⟨a, c, rfl, hown⟩ := ho
  have hcap : l.length ≤ c := by
    rcases hown.2 with ⟨hv, hn⟩ | ⟨g, cap, cur, hv, _, _, hc, _⟩
    · rw [toI_length] at hn; omega
    · simp only [Value.slice.injEq] at hv; rw [toI_length] at hc; omega
  have hp : ∀ k, k ≤ l.length → w.ownsRow B 3 1 (.slice a k c) k (ivs (toI (l.take k))) := by
    intro k hk
    have := own_prefix hown (k := k) (by rw [toI_length]; omega)
    have e : ivs (toI (l.take k)) = (ivs (toI l)).take k := by simp [ivs, toI, List.map_take]
    rw [e]; exact this
  have HP := Lib.hid hp
  rw [toI_length]
  clear hown hp
  by_cases h0 : l.length = 0
  · have HE : Hid (l.take 1 = []) := by rw [Hid, List.eq_nil_of_length_eq_zero h0]; rfl
    have hm : min ((l.length : Nat) : Int) 1 = 0 := by omega
    have HQ := Lib.hid (HP.out 0 (by omega))
    rw [h0]
    rw [h0] at hcap hm
    clear h0 HP
    go_enter Tryz.func22, Tryz.ntmps22
    go_wp2_with fail
    go_ret
    refine ⟨_, rfl, ⟨a, c, ?_, ?_⟩, rfl⟩
    · rw [HE.out]; rfl
    · rw [HE.out]; exact HQ.out
  · have hlt : 1 ≤ l.length := by omega
    have HE : Hid ((toI (l.take 1)).length = 1) := by rw [Hid, toI_length, List.length_take]; omega
    have HQ := Lib.hid (HP.out 1 (by omega))
    by_cases h1 : l.length = 1
    · rw [h1]
      rw [h1] at hcap
      clear h0 HP h1 hlt
      go_enter Tryz.func22, Tryz.ntmps22
      go_wp2_with fail
      go_ret
      refine ⟨_, rfl, ⟨a, c, ?_, ?_⟩, rfl⟩
      · rw [HE.out]; rfl
      · rw [HE.out]; exact HQ.out
    · have hn : ¬ ((l.length : Nat) : Int) ≤ 1 := by omega
      clear h0 HP h1
      go_enter Tryz.func22, Tryz.ntmps22
      go_wp2_with fail
      go_ret
      refine ⟨_, rfl, ⟨a, c, ?_, ?_⟩, rfl⟩
      · rw [HE.out]; rfl
      · rw [HE.out]; exact HQ.out

theorem besL_len {t : List Nd} (hR : RightP t) {i : Nat} (hi : i < t.length) (b : Bool) : (besL t i b).length ≤ 200 := by
  obtain ⟨n1, n2, n3, m1, m2, m3, l1, l2, l3⟩ := beside_mem hR hi
  unfold besL elsOf
  cases b
  · exact Nat.le_trans (List.length_filter_le _ _) l2
  · exact Nat.le_trans (List.length_filter_le _ _) l1

set_option maxRecDepth 100000 in
set_option maxHeartbeats 2000000 in
theorem relOf28 (a : Option Addr) (c : Nat) (t : List Nd) (hR : RightP t) (i : Nat) (w : World) (h : NSl w w.heap.size a t) (hi : i < t.length) (a3 : Option Addr) (n3 c3 : Nat) :
    Calls Tryz.prog 16 #[.slice a t.length c, .int .i64 i, .agg #[.int .i64 28, .string ⟨#[]⟩, .slice a3 n3 c3, .int .i64 0, .int .i64 0]] w (ListPost (toI ((elsOf t (aheadL t i)).take 1)) w) := by
  have hb0 : Below w.heap.size w (w.alloc (.cells #[.int .i64 28, .string ⟨#[]⟩, .slice a3 n3 c3, .int .i64 0, .int .i64 0] 27)) := (Below.refl _ _).alloc (Nat.le_refl _) _
  have HB0 := Lib.hid hb0
  have HE := Lib.hid (besideOf_any a c t hR i false _ (h.up hb0) hi)
  have HL := Lib.hid (besL_len hR hi false)
  have hsz := hb0.size
  rw [show elsOf t (aheadL t i) = besL t i false from rfl]
  obtain ⟨F, hF⟩ : ∃ F, F = besL t i false := ⟨_, rfl⟩
  rw [← hF] at HE HL ⊢
  clear h hb0 hR hF
  go_enter Tryz.func16, Tryz.ntmps16
  go_wp2_with fail
  refine HE.out.mono ?_
  rintro e w1 ⟨v, rfl, hown, hb1⟩
  have HO := Lib.hid (hown.base hsz)
  have HB1 := Lib.hid (bnext HB0.out hb1)
  clear hown hb1
  go_wp2_with fail
  refine (atMost_any w.heap.size v F HL.out w1 HO.out).mono ?_
  rintro e w2 ⟨v2, rfl, hown2, rfl⟩
  have HO2 := Lib.hid hown2
  clear hown2
  go_wp2_with fail
  go_ret2
  exact ⟨v2, rfl, HO2.out, HB1.out⟩
end Go.Proofs.YtgilbckfkngaiaaGreat
