/- The reference's elements beside a node. -/
import Derived.Test.YtgilbckfkngaiaaGreatT72
import Derived.Test.YtgilbckfkngaiaaGreatT110
namespace Go.Proofs.YtgilbckfkngaiaaGreat
open Go.RowKit
set_option linter.unusedVariables false

/-- What BesideOf has gathered in k rounds. -/
def besF (i : Nat) (behind : Bool) (E : List Nat) (k : Nat) : List Nat := if behind then (E.take k).filter (fun x => decide (i < x)) else (E.reverse.take k).filter (fun x => decide (x < i))
theorem besF_zero (i : Nat) (behind : Bool) (E : List Nat) : besF i behind E 0 = [] := by unfold besF; cases behind <;> simp
theorem besF_len (i : Nat) (behind : Bool) (E : List Nat) (k : Nat) : (besF i behind E k).length ≤ E.length := by
  unfold besF
  cases behind
  · have := List.length_filter_le (fun x => decide (x < i)) (E.reverse.take k)
    simp at this ⊢; omega
  · have := List.length_filter_le (fun x => decide (i < x)) (E.take k)
    simp at this ⊢; omega
theorem besF_fore {i : Nat} {E : List Nat} {k : Nat} (h : k < E.length) : besF i true E (k + 1) = besF i true E k ++ (if i < E[k] then [E[k]] else []) := by
  unfold besF
  simp only [if_true]
  rw [List.take_succ_eq_append_getElem h, List.filter_append]
  congr 1
  by_cases c : i < E[k] <;> simp [c]
theorem besF_back {i : Nat} {E : List Nat} {k : Nat} (h : k < E.length) : besF i false E (k + 1) = besF i false E k ++ (if E[E.length - 1 - k] < i then [E[E.length - 1 - k]] else []) := by
  unfold besF
  simp only [Bool.false_eq_true, if_false]
  rw [List.take_succ_eq_append_getElem (by simpa using h), List.filter_append, List.getElem_reverse]
  congr 1
  by_cases c : E[E.length - 1 - k] < i <;> simp [c]

/-- The elements beside a node: behind it, or ahead of it. -/
def besL (t : List Nd) (i : Nat) (behind : Bool) : List Nat := elsOf t (if behind then behindL t i else aheadL t i)
theorem besF_all {t : List Nd} {i p : Nat} (hp : parJ t i i = some p) (behind : Bool) : besF i behind (elsOf t (kidsL t p)) (elsOf t (kidsL t p)).length = besL t i behind := by
  unfold besF besL behindL aheadL elsOf
  rw [hp]
  cases behind
  · simp only [Bool.false_eq_true, if_false]
    rw [← List.length_reverse, List.take_length, List.filter_reverse, List.filter_reverse, List.filter_filter, List.filter_filter]
    congr 2
    funext x
    rw [Bool.and_comm]
  · simp only [if_true]
    rw [List.take_length, List.filter_filter, List.filter_filter]
    congr 1
    funext x
    rw [Bool.and_comm]
theorem besL_none {t : List Nd} {i : Nat} (hp : parJ t i i = none) (behind : Bool) : besL t i behind = [] := by
  unfold besL behindL aheadL elsOf
  rw [hp]
  cases behind <;> rfl

def BesRel (i : Nat) (behind : Bool) (E : List Nat) (B : Nat) (W : World) (v x : Value) (wr : World) : Prop :=
  ∃ (k : Nat) (av : Option Addr) (cv : Nat), k ≤ E.length ∧ x = .int .i64 (k : Nat) ∧ v = .slice av (besF i behind E k).length cv ∧
    wr.ownsRow B 3 1 (.slice av (besF i behind E k).length cv) (besF i behind E k).length (ivs (toI (besF i behind E k))) ∧ Below W.heap.size W wr

set_option maxRecDepth 100000 in
set_option maxHeartbeats 4000000 in
theorem besideOf_any (a : Option Addr) (c : Nat) (t : List Nd) (hR : RightP t) (i : Nat) (behind : Bool) (w : World) (h : NSl w w.heap.size a t) (hi : i < t.length) :
    Calls Tryz.prog 28 #[.slice a t.length c, .int .i64 (i : Nat), .bool behind] w (OwnIPost (toI (besL t i behind)) w) := by
  obtain ⟨i0, hinf, hz0, hz1, hz2⟩ := info_parts Tryz.info3
  have hle := hR.le
  have hpar := parent_any a c t hle i i rfl w h hi hR.lam
  rw [parI_opt] at hpar
  have HPar := Lib.hid hpar
  have HH := Lib.hid h
  have HR := Lib.hid hR
  clear hpar h hR
  obtain ⟨o, ho⟩ : ∃ o, o = parJ t i i := ⟨_, rfl⟩
  rw [← ho] at HPar
  have HO := Lib.hid ho
  clear ho
  cases o with
  | none =>
    rw [show optI none = -1 from rfl] at HPar
    have HE : Hid (besL t i behind = []) := besL_none HO.out.symm behind
    rw [HE.out]
    go_enter Tryz.func28, Tryz.ntmps28
    go_wp2_with fail
    refine HPar.out.mono ?_
    rintro e w1 ⟨rfl, rfl⟩
    go_wp2_with fail
    go_ret
    exact ⟨_, rfl, ⟨none, 0, rfl, World.ownsRow_nil _ _ _ _⟩, Below.refl _ _⟩
  | some p =>
    rw [show optI (some p) = (p : Int) from rfl] at HPar
    have hp : p < t.length := by have := parJ_lt HO.out.symm; omega
    have hlam := HR.out.lam p (Nat.zero_le _) hp
    have HEl := Lib.hid (specEls_any a c t hle p w HH.out hp (HR.out.lam.node_at (Nat.zero_le _) hp) (by have := hlam.2.2.1; omega) hlam.2.1 (kids_facts HR.out p hp).1 (kids_facts HR.out p hp).2.2)
    have HF := Lib.hid (els_facts HR.out p hp)
    have HAll := Lib.hid (besF_all HO.out.symm behind)
    rw [← HAll.out]
    obtain ⟨E, hE⟩ : ∃ E, E = elsOf t (kidsL t p) := ⟨_, rfl⟩
    rw [← hE] at HEl HF ⊢
    have hEl : E.length ≤ 200 := HF.out.2.2
    have HLt := Lib.hid HF.out.1
    have HLen := Lib.hid hEl
    clear hE hlam HAll
    go_enter Tryz.func28, Tryz.ntmps28
    go_wp2_with fail
    refine HPar.out.mono ?_
    rintro e w1 ⟨rfl, rfl⟩
    go_wp2_with fail
    refine HEl.out.mono ?_
    rintro e w1 ⟨v, rfl, hown, hb1⟩
    obtain ⟨a1, c1, rfl, hrow⟩ := hown.row
    have HRow := Lib.hid hrow
    have HB1 := Lib.hid hb1
    have hsz1 := hb1.size
    rw [toI_length]
    clear hown hrow hb1
    go_wp2_with fail
    go_loopw [8, 10] (fun v x wr => BesRel i behind E w1.heap.size w1 v x wr) (fun _ x _ => E.length - (intOf x).toNat)
    case atStart => exact ⟨0, none, 0, by omega, rfl, by rw [besF_zero]; rfl, by rw [besF_zero]; exact World.ownsRow_nil _ _ _ _, Below.refl _ _⟩
    case round =>
      obtain ⟨k, av, cv, hk, rfl, rfl, hown, hb⟩ := hrel
      have hal := besF_len i behind E k
      have HOwn := Lib.hid hown
      have HB := Lib.hid hb
      have hsz := hb.size
      clear hown hb
      by_cases hlt : k < E.length
      · obtain ⟨b, o, rfl, hbL, hc0⟩ := HRow.out.at_ (by rw [ivs_length, toI_length]; omega)
        have g3 := hc0 (E.length - 1 - k) (by rw [ivs_length, toI_length]; omega)
        rw [ivs_at (by rw [toI_length]; omega), toI_at (by omega)] at g3
        have hc : ∀ q (hq : q < (ivs (toI E)).length), wr.cell? ⟨b, o + q, none⟩ = some (ivs (toI E))[q] := fun q hq => (HB.out.cell (p := ⟨b, o + q, none⟩) hbL).trans (hc0 q hq)
        have g1 := hc k (by rw [ivs_length, toI_length]; exact hlt)
        have g2 := hc (E.length - 1 - k) (by rw [ivs_length, toI_length]; omega)
        rw [ivs_at (by rw [toI_length]; exact hlt), toI_at hlt] at g1
        rw [ivs_at (by rw [toI_length]; omega), toI_at (by omega)] at g2
        have HNf := Lib.hid (besF_fore (i := i) hlt)
        have HNb := Lib.hid (besF_back (i := i) hlt)
        obtain ⟨x, hx⟩ : ∃ x, x = E[k] := ⟨_, rfl⟩
        obtain ⟨y, hy⟩ : ∃ y, y = E[E.length - 1 - k] := ⟨_, rfl⟩
        rw [← hx] at g1 HNf
        rw [← hy] at g2 g3 HNb
        have hxl : x < 200 := by have := HLt.out E[k] (List.getElem_mem hlt); omega
        have hyl : y < 200 := by have := HLt.out E[E.length - 1 - k] (List.getElem_mem _); omega
        clear hx hy hc hc0
        obtain ⟨m, hm⟩ : ∃ m, m = E.length - 1 - k := ⟨_, rfl⟩
        have e1 : (E.length : Int) - 1 - (k : Int) = (m : Int) := by omega
        have hml : m < E.length := by omega
        rw [← hm] at g2 g3
        have HG3 := Lib.hid g3
        clear hm g3
        obtain ⟨A, hA⟩ : ∃ A, A = besF i behind E k := ⟨_, rfl⟩
        rw [← hA] at hal HOwn ⊢
        cases behind
        · rw [← hA] at HNb
          clear hA HNf
          by_cases hgt : y < i
          · have HE : Hid (besF i false E (k + 1) = A ++ [y]) := by rw [Hid, HNb.out, if_pos hgt]
            have hgt' : decide (y < i) = true := decide_eq_true hgt
            clear HNb hgt
            go_wp2_with (at_builtin; refine wpList_append_own _ rfl _ _ 23 rfl w1.heap.size 3 i0 (.int .i64 0) 1 8 Tryz.underlying23 hinf hz0 hz1 hz2 rfl (by decide) _ _ _ rfl (HOwn.out.alloc _) ⟨wr.heap.size, 0, none⟩ 1 1 [.int .i64 (y : Int)] rfl rfl (cell_one_new _ _ _) (by intro u hu; simp at hu; subst hu; rfl) (by unfold maxLen; omega) (by omega) (by simp; omega) ?_)
            intro v' w2 hown' hgrow _
            obtain ⟨a3, c3, hv2⟩ := own_slice hown'
            rw [hv2] at hown' ⊢
            have hb2 : Below w1.heap.size w1 w2 := (HB.out.alloc HB.out.size _).grown hgrow (by simp; omega) (fun q hq => (HOwn.out.lt q hq).1)
            have HO1 : Hid (w2.ownsRow w1.heap.size 3 1 (.slice a3 (A ++ [y]).length c3) (A ++ [y]).length (ivs (toI (A ++ [y])))) := by
              rw [Hid, toI_snoc, ivs_snoc, List.length_append]; exact hown'
            have HB2 := Lib.hid hb2
            have gy := (hb2.cell (p := ⟨b, o + m, none⟩) hbL).trans HG3.out
            clear hown' hgrow hv2 hb2 g1 g2
            go_wp2_with fail
            go_roundw
            case rel => exact ⟨k + 1, a3, c3, by omega, by go_num, by rw [HE.out, List.length_append]; rfl, by rw [HE.out]; exact HO1.out, HB2.out⟩
            case measure => simp [intOf]; omega
          · have HE : Hid (besF i false E (k + 1) = A) := by rw [Hid, HNb.out, if_neg hgt, List.append_nil]
            have hgt' : decide (y < i) = false := decide_eq_false hgt
            clear HNb hgt
            go_wp2_with fail
            go_roundw
            case rel => exact ⟨k + 1, av, cv, by omega, by go_num, by rw [HE.out], by rw [HE.out]; exact HOwn.out, HB.out⟩
            case measure => simp [intOf]; omega
        · rw [← hA] at HNf
          clear hA HNb
          by_cases hgt : i < x
          · have HE : Hid (besF i true E (k + 1) = A ++ [x]) := by rw [Hid, HNf.out, if_pos hgt]
            have hgt' : decide (i < x) = true := decide_eq_true hgt
            clear HNf hgt
            go_wp2_with (at_builtin; refine wpList_append_own _ rfl _ _ 23 rfl w1.heap.size 3 i0 (.int .i64 0) 1 8 Tryz.underlying23 hinf hz0 hz1 hz2 rfl (by decide) _ _ _ rfl (HOwn.out.alloc _) ⟨wr.heap.size, 0, none⟩ 1 1 [.int .i64 (x : Int)] rfl rfl (cell_one_new _ _ _) (by intro u hu; simp at hu; subst hu; rfl) (by unfold maxLen; omega) (by omega) (by simp; omega) ?_)
            intro v' w2 hown' hgrow _
            obtain ⟨a3, c3, hv2⟩ := own_slice hown'
            rw [hv2] at hown' ⊢
            have hb2 : Below w1.heap.size w1 w2 := (HB.out.alloc HB.out.size _).grown hgrow (by simp; omega) (fun q hq => (HOwn.out.lt q hq).1)
            have HO1 : Hid (w2.ownsRow w1.heap.size 3 1 (.slice a3 (A ++ [x]).length c3) (A ++ [x]).length (ivs (toI (A ++ [x])))) := by
              rw [Hid, toI_snoc, ivs_snoc, List.length_append]; exact hown'
            have HB2 := Lib.hid hb2
            have gy := (hb2.cell (p := ⟨b, o + m, none⟩) hbL).trans HG3.out
            clear hown' hgrow hv2 hb2 g1 g2
            go_wp2_with fail
            go_roundw
            case rel => exact ⟨k + 1, a3, c3, by omega, by go_num, by rw [HE.out, List.length_append]; rfl, by rw [HE.out]; exact HO1.out, HB2.out⟩
            case measure => simp [intOf]; omega
          · have HE : Hid (besF i true E (k + 1) = A) := by rw [Hid, HNf.out, if_neg hgt, List.append_nil]
            have hgt' : decide (i < x) = false := decide_eq_false hgt
            clear HNf hgt
            go_wp2_with fail
            go_roundw
            case rel => exact ⟨k + 1, av, cv, by omega, by go_num, by rw [HE.out], by rw [HE.out]; exact HOwn.out, HB.out⟩
            case measure => simp [intOf]; omega
      · have e : k = E.length := by omega
        subst e
        go_wp2_with fail
        go_ret
        exact ⟨_, rfl, ⟨av, cv, by rw [toI_length]; rfl, by rw [toI_length]; exact own_base HOwn.out hsz1⟩, bnext HB1.out HB.out⟩
end Go.Proofs.YtgilbckfkngaiaaGreat
