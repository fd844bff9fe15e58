/- FnIsEmpty: the reference's side and the program's. -/
import Derived.Test.YtfebdbfkpmjpeaaT16
import Derived.Test.YtfebdbfkpmjpeaaT78
import Derived.Test.YtfebdbfkpmjpeaaT62
import Derived.Test.YtfebdbfkpmjpeaaT51
namespace Go.Proofs.Ytfebdbfkpmjpeaa
open Go.RowKit
set_option linter.unusedVariables false

set_option maxRecDepth 100000 in
set_option maxHeartbeats 2000000 in
theorem bare8 (w : World) : Calls Try.prog 137 #[.agg #[.int .i64 8, .int .i64 0, .string ⟨#[]⟩, .string ⟨#[]⟩, .int .i64 0, .int .i64 0, .int .i64 0, .int .i64 1]] w (AnyBB w) := by
  go_enter Try.func137, Try.ntmps137
  go_wp2_with fail
  refine (plain_any _ _ (by decide)).mono ?_
  rintro e w1 ⟨r, rfl, rfl⟩
  cases r
  · go_wp2_with fail
    go_ret
    exact ⟨_, rfl, (Below.refl _ _).alloc (Nat.le_refl _) _⟩
  · go_wp2_with fail
    go_quiet (fail)
    go_wp2_with fail
    go_ret
    exact ⟨_, rfl, below_drewN ((Below.refl _ _).alloc (Nat.le_refl _) _) _⟩

set_option maxRecDepth 100000 in
set_option maxHeartbeats 2000000 in
theorem rs8 (w : World) : Calls Try.prog 82 #[.agg #[.int .i64 8, .int .i64 0, .string ⟨#[]⟩, .string ⟨#[]⟩, .int .i64 0, .int .i64 0, .int .i64 0, .int .i64 1]] w (AnyBB w) := by
  go_enter Try.func82, Try.ntmps82
  go_wp2_with fail
  refine (bare8 _).mono ?_
  rintro e w1 ⟨r, rfl, hb⟩
  have hc0 : w1.cell? ⟨w.heap.size, 0, none⟩ = some (.int .i64 8) := by
    rw [hb.cell (p := ⟨w.heap.size, 0, none⟩) (by simp), World.cell?_alloc_mark]; rfl
  have HB := Lib.hid (bnext ((Below.refl w.heap.size w).alloc (Nat.le_refl _) _) hb)
  clear hb
  cases r
  · go_wp2_with fail
    go_ret
    exact ⟨_, rfl, HB.out⟩
  · go_wp2_with (first | go_in | fail)
    go_ret
    exact ⟨_, rfl, HB.out⟩

def kindN (t : List Nd) (j : Nat) : Int := (t.getD j default).kind
def blankN (t : List Nd) (j : Nat) : Prop := Sp (t.getD j default).text 0

/-- What the reference says of an element's kids. -/
def EmptyP (t : List Nd) (i : Nat) (m : Int) : Prop :=
  (m = 1 → ∀ j ∈ kidsL t i, kindN t j ≠ 3 ∧ kindN t j ≠ 4) ∧ (m = 0 → ∃ j ∈ kidsL t i, kindN t j = 3 ∨ (kindN t j = 4 ∧ ¬ blankN t j)) ∧ 0 ≤ m ∧ m ≤ 2

def EmptyRel (t : List Nd) (K : List Nat) (W : World) (o x : Value) (wr : World) : Prop :=
  ∃ (k : Nat) (m : Int), k ≤ K.length ∧ x = .int .i64 (k : Nat) ∧ o = .int .i64 m ∧ Hid ((m = 1 ∨ m = 2) ∧ (m = 1 → ∀ j ∈ K.take k, kindN t j ≠ 3 ∧ kindN t j ≠ 4)) ∧ Below W.heap.size W wr

set_option maxRecDepth 100000 in
set_option maxHeartbeats 2000000 in
theorem empty_any (ad : Option Addr) (c : Nat) (t : List Nd) (hR : RightP t) (i : Nat) (hi : i < t.length) (w : World) (h : NSl w w.heap.size ad t) :
    Calls Try.prog 193 #[.slice ad t.length c, .int .i64 i] w (MPost (EmptyP t i) w) := by
  have hle := hR.le
  have HR := Lib.hid hR
  have HH := Lib.hid h
  have HKids := Lib.hid (kids_any ad c t hle i (i : Int) rfl w h hi (hR.lam.node_at (Nat.zero_le i) hi) (hR.lamK hi).2.2 (hR.lamK hi).2.1)
  have HKl : Hid ((kidsL t i).length ≤ 200 ∧ ∀ m ∈ kidsL t i, m < t.length) := ⟨(kids_facts hR i hi).1, (kids_facts hR i hi).2.2⟩
  obtain ⟨K, hK⟩ : ∃ K, K = kidsL t i := ⟨_, rfl⟩
  have HK := Lib.hid hK
  unfold KidsPost at HKids
  rw [← hK] at HKids HKl
  clear hR h hK
  go_enter Try.func193, Try.ntmps193
  go_wp2_with fail
  refine HKids.out.mono ?_
  rintro e w1 ⟨a1, c1, rfl, hrow, hb1⟩
  have HB1 := Lib.hid hb1
  have HRow := Lib.hid hrow
  have hKl := HKl.out.1
  clear hb1 hrow HKids
  go_wp2_with fail
  go_loopw [6, 7] (fun o x wr => EmptyRel t K w1 o x wr) (fun _ x _ => K.length - (intOf x).toNat)
  case atStart => exact ⟨0, 1, by omega, rfl, rfl, ⟨.inl rfl, fun _ j hj => by simp at hj⟩, Below.refl _ _⟩
  case round =>
    obtain ⟨k, m, hk, rfl, rfl, hm, hb⟩ := hrel
    have HB := Lib.hid (bnext HB1.out hb)
    have HRow2 := Lib.hid (HRow.out.up hb)
    have HBr := Lib.hid hb
    clear hb
    by_cases hlt : k < K.length
    · obtain ⟨b, o, ha, hbB, hc⟩ := HRow2.out.at_ (by rw [ints_length]; omega)
      have g1 := hc k (by rw [ints_length]; exact hlt)
      have hv : (ints K)[k]'(by rw [ints_length]; exact hlt) = .int .i64 ((K[k] : Nat) : Int) := by simp [ints]
      rw [hv] at g1
      have hmem : K[k] ∈ K := List.getElem_mem hlt
      have hjt := HKl.out.2 _ hmem
      obtain ⟨bt, ot, had, hbt, hct⟩ := (HH.out.up HB.out).at_ (by omega)
      have f0 : wr.cell? ⟨bt, ot + K[k] * 5, none⟩ = some (.int .i64 (t[K[k]].kind)) := (hct _ hjt).1
      have f2 : wr.cell? ⟨bt, ot + K[k] * 5 + 2, none⟩ = some (.string t[K[k]].text) := (hct _ hjt).2.2.1
      have htx : t[K[k]].text.size ≤ 4000 := HR.out.text _ hjt
      have hkn : kindN t K[k] = t[K[k]].kind := by unfold kindN; rw [getD_at hjt]
      have hbn : blankN t K[k] = Sp t[K[k]].text 0 := by unfold blankN; rw [getD_at hjt]
      have HTk : Hid (K.take (k + 1) = K.take k ++ [K[k]]) := List.take_succ_eq_append_getElem hlt
      by_cases h3 : t[K[k]].kind = 3
      · have HF : Hid (∃ j ∈ K, kindN t j = 3 ∨ (kindN t j = 4 ∧ ¬ blankN t j)) := ⟨_, hmem, .inl (by rw [hkn]; exact h3)⟩
        rw [h3] at f0
        obtain ⟨j, hj⟩ : ∃ j, j = K[k] := ⟨_, rfl⟩
        rw [← hj] at g1 f0 hjt
        subst ha had
        clear hc hct hv hmem f2 htx hkn hbn HTk h3 hj
        go_wp2_with fail
        go_ret
        exact ⟨0, rfl, ⟨fun h => absurd h (by decide), (fun _ => by rw [← HK.out]; exact HF.out), by decide, by decide⟩, HB.out⟩
      · have d3 : (t[K[k]].kind == 3) = false := beq_eq_false_iff_ne.2 h3
        by_cases h4 : t[K[k]].kind = 4
        · have HBl := Lib.hid (blankAll_any t[K[k]].text wr (by omega))
          have HY : Hid (¬ Sp t[K[k]].text 0 → ∃ j ∈ K, kindN t j = 3 ∨ (kindN t j = 4 ∧ ¬ blankN t j)) := fun h => ⟨_, hmem, .inr ⟨by rw [hkn]; exact h4, by rw [hbn]; exact h⟩⟩
          rw [h4] at f0
          have d3' : ((4 : Int) == 3) = false := rfl
          obtain ⟨x, hx⟩ : ∃ x, x = t[K[k]].text := ⟨_, rfl⟩
          rw [← hx] at f2 HBl HY
          obtain ⟨j, hj⟩ : ∃ j, j = K[k] := ⟨_, rfl⟩
          rw [← hj] at g1 f0 f2 hjt
          subst ha had
          clear hc hct hv hmem htx hkn hbn HTk h3 h4 hj d3 hx
          go_wp2_with fail
          refine HBl.out.mono ?_
          rintro e w2 ⟨bb, rfl, hbb, rfl⟩
          cases bb
          · have HF := Lib.hid (HY.out (fun h => by have := hbb h; cases this))
            clear hbb
            go_wp2_with fail
            go_ret
            exact ⟨0, rfl, ⟨fun h => absurd h (by decide), (fun _ => by rw [← HK.out]; exact HF.out), by decide, by decide⟩, HB.out⟩
          · clear hbb
            go_wp2_with fail
            go_roundw
            case rel => exact ⟨k + 1, 2, by omega, by go_num, rfl, ⟨.inr rfl, fun h => absurd h (by decide)⟩, HBr.out⟩
            case measure => simp [intOf]; omega
        · have d4 : (t[K[k]].kind == 4) = false := beq_eq_false_iff_ne.2 h4
          have HN : Hid ((m = 1 ∨ m = 2) ∧ (m = 1 → ∀ j ∈ K.take (k + 1), kindN t j ≠ 3 ∧ kindN t j ≠ 4)) := by
            refine ⟨hm.out.1, fun h j hj => ?_⟩
            rw [HTk.out, List.mem_append, List.mem_singleton] at hj
            rcases hj with hj | rfl
            · exact hm.out.2 h j hj
            · rw [hkn]; exact ⟨h3, h4⟩
          obtain ⟨y, hy⟩ : ∃ y, y = t[K[k]].kind := ⟨_, rfl⟩
          rw [← hy] at f0 d3 d4
          obtain ⟨j, hj⟩ : ∃ j, j = K[k] := ⟨_, rfl⟩
          rw [← hj] at g1 f0 hjt
          subst ha had
          clear hc hct hv hmem f2 htx hkn hbn HTk h3 h4 hj hm hy
          go_wp2_with fail
          go_roundw
          case rel => exact ⟨k + 1, m, by omega, by go_num, rfl, HN.out, HBr.out⟩
          case measure => simp [intOf]; omega
    · have e : k = K.length := by omega
      rw [e, List.take_length] at hm
      clear e
      go_wp2_with fail
      go_ret
      exact ⟨m, rfl, ⟨(fun h => by rw [← HK.out]; exact hm.out.2 h), (fun h => by have := hm.out.1; omega), by have := hm.out.1; omega, by have := hm.out.1; omega⟩, HB.out⟩
end Go.Proofs.Ytfebdbfkpmjpeaa
