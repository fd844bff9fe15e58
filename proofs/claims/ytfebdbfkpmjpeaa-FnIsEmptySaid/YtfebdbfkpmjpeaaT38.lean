/- FnNotByOthers: the doors, and the walk. -/
import Derived.Test.YtfebdbfkpmjpeaaT37
import Derived.Test.YtfebdbfkpmjpeaaT35
namespace Go.Proofs.Ytfebdbfkpmjpeaa
open Go.RowKit
set_option linter.unusedVariables false

set_option maxRecDepth 100000 in
set_option maxHeartbeats 2000000 in
theorem notBy_any (a : Option Addr) (c : Nat) (t : List Nd) (hR : RightP t) (ad : Option Addr) (c2 : Nat) (l : List Int) (ns : List Nat) (ho : OrdP t.length l ns) (hl : l.length ≤ 2147483647) (ad3 : Option Addr) (c3 : Nat) (bs : List Bool) (hbs : bs.length ≤ 2147483647) (w : World) (h : NSl w w.heap.size a t) (hi : ISl w w.heap.size ad l) (hj : RSl w w.heap.size ad3 (bvs bs)) :
    Calls Try.prog 55 #[.slice a t.length c, .slice ad l.length c2, .slice ad3 bs.length c3] w (ListPost (toI (pickN (fun i => bs.getD i false == false) ns)) w) := by
  have hmf : ∀ (fn : Fn) (first cap : Array Value) (w : World), (Instr.makeFunc fn first cap).run Try.prog w = .ok (.func fn first cap) w := fun _ _ _ _ => rfl
  have HR := Lib.hid hR
  have HO := Lib.hid ho
  have hnl := ho.len
  have hle := hR.le
  have HNL := Lib.hid (show ns.length ≤ 200 by omega)
  obtain ⟨W0, hW0⟩ : ∃ W0, W0 = w.alloc (.cells #[.slice ad3 bs.length c3] 66) := ⟨_, rfl⟩
  have hb0 : Below w.heap.size w W0 := by rw [hW0]; exact (Below.refl _ _).alloc (Nat.le_refl _) _
  have hbox : W0.cell? ⟨w.heap.size, 0, none⟩ = some (.slice ad3 bs.length c3) := by rw [hW0, World.cell?_alloc_mark]; rfl
  have hlt0 : w.heap.size < W0.heap.size := by rw [hW0]; simp
  have HW0 := Lib.hid hW0
  have HC := Lib.hid (chosen_any a c t hR ad c2 l ns ho hl W0 (h.up hb0) (hi.up hb0))
  have HA := Lib.hid (notBy1_any w.heap.size ad3 c3 bs hbs W0 hbox hlt0 (hj.up hb0))
  have HB0 := Lib.hid hb0
  obtain ⟨M, hM⟩ : ∃ M, M = pickN (fun i => bs.getD i false == false) ns := ⟨_, rfl⟩
  have hMl : M.length ≤ 200 := by rw [hM]; exact Nat.le_trans (pickN_len _ _) HNL.out
  have hMm : ∀ k ∈ M, k < t.length := by rw [hM]; exact fun k hk => HO.out.lt k (pickN_mem hk)
  have HMm := Lib.hid hMm
  have HM := Lib.hid hM
  rw [← hM]
  clear hW0 hR ho h hi hj hb0 hbox hlt0 hnl hl hM hMm
  go_enter Try.func55, Try.ntmps55
  go_wp2_with fail
  rw [← HW0.out]
  refine HC.out.mono ?_
  rintro e w1 ⟨L, bl, st, g, doc, rfl, hL, hT, hsel, hb1⟩
  have HT := Lib.hid hT
  have HB1 := Lib.hid hb1
  have HA1 : Hid (Answers 113 w.heap.size (fun i => bs.getD i false) w1) := fun W i s hB hi => HA.out W i s (bnext hb1 hB) hi
  have HFn := Lib.hid (notFn_any bl ns HNL.out 113 w.heap.size (by decide) (fun i => bs.getD i false) g _ doc w1 hsel HA1.out)
  unfold fnV at HFn
  rw [← HM.out] at HFn
  clear hT hsel hb1
  go_wp2_with fail
  refine HFn.out.mono ?_
  rintro e w2 ⟨g2, rfl, hsel2, hb2⟩
  obtain ⟨a5, c5, g0, hrs⟩ := hsel2.places
  have HRs := Lib.hid hrs
  have HB2 := Lib.hid hb2
  have HT2 := Lib.hid (HT.out.kept hb2)
  have hL2 := Nat.lt_of_lt_of_le hL hb2.size
  clear hsel2 hrs hb2
  go_wp2_with fail
  refine (placesOf_any bl t.length L hle M HMm.out (by omega) a5 c5 w2 hL2 HT2.out.nodes (fun j hj => HT2.out.cell j hj) HRs.out).mono ?_
  rintro e w3 ⟨v, rfl, hown4, hb4⟩
  have HB : Hid (Below w.heap.size w w2) := bnext (bnext HB0.out HB1.out) HB2.out
  have HO4 := Lib.hid (hown4.base HB.out.size)
  have HB4 := Lib.hid (bnext HB.out hb4)
  clear hown4 hb4
  go_wp2_with fail
  go_ret2
  exact ⟨v, rfl, HO4.out, HB4.out⟩

set_option maxRecDepth 100000 in
set_option maxHeartbeats 2000000 in
theorem filterBy_any (a : Option Addr) (c : Nat) (t : List Nd) (hR : RightP t) (ad : Option Addr) (c2 : Nat) (l : List Int) (ns : List Nat) (ho : OrdP t.length l ns) (hl : l.length ≤ 2147483647) (ad3 : Option Addr) (c3 : Nat) (bs : List Bool) (hbs : bs.length ≤ 2147483647) (w : World) (h : NSl w w.heap.size a t) (hi : ISl w w.heap.size ad l) (hj : RSl w w.heap.size ad3 (bvs bs)) :
    Calls Try.prog 56 #[.slice a t.length c, .slice ad l.length c2, .slice ad3 bs.length c3] w (ListPost (toI (pickN (fun i => bs.getD i false == true) ns)) w) := by
  have hmf : ∀ (fn : Fn) (first cap : Array Value) (w : World), (Instr.makeFunc fn first cap).run Try.prog w = .ok (.func fn first cap) w := fun _ _ _ _ => rfl
  have HR := Lib.hid hR
  have HO := Lib.hid ho
  have hnl := ho.len
  have hle := hR.le
  have HNL := Lib.hid (show ns.length ≤ 200 by omega)
  obtain ⟨W0, hW0⟩ : ∃ W0, W0 = w.alloc (.cells #[.slice ad3 bs.length c3] 66) := ⟨_, rfl⟩
  have hb0 : Below w.heap.size w W0 := by rw [hW0]; exact (Below.refl _ _).alloc (Nat.le_refl _) _
  have hbox : W0.cell? ⟨w.heap.size, 0, none⟩ = some (.slice ad3 bs.length c3) := by rw [hW0, World.cell?_alloc_mark]; rfl
  have hlt0 : w.heap.size < W0.heap.size := by rw [hW0]; simp
  have HW0 := Lib.hid hW0
  have HC := Lib.hid (chosen_any a c t hR ad c2 l ns ho hl W0 (h.up hb0) (hi.up hb0))
  have HA := Lib.hid (filterBy1_any w.heap.size ad3 c3 bs hbs W0 hbox hlt0 (hj.up hb0))
  have HB0 := Lib.hid hb0
  obtain ⟨M, hM⟩ : ∃ M, M = pickN (fun i => bs.getD i false == true) ns := ⟨_, rfl⟩
  have hMl : M.length ≤ 200 := by rw [hM]; exact Nat.le_trans (pickN_len _ _) HNL.out
  have hMm : ∀ k ∈ M, k < t.length := by rw [hM]; exact fun k hk => HO.out.lt k (pickN_mem hk)
  have HMm := Lib.hid hMm
  have HM := Lib.hid hM
  rw [← hM]
  clear hW0 hR ho h hi hj hb0 hbox hlt0 hnl hl hM hMm
  go_enter Try.func56, Try.ntmps56
  go_wp2_with fail
  rw [← HW0.out]
  refine HC.out.mono ?_
  rintro e w1 ⟨L, bl, st, g, doc, rfl, hL, hT, hsel, hb1⟩
  have HT := Lib.hid hT
  have HB1 := Lib.hid hb1
  have HA1 : Hid (Answers 116 w.heap.size (fun i => bs.getD i false) w1) := fun W i s hB hi => HA.out W i s (bnext hb1 hB) hi
  have HFn := Lib.hid (filterFn_any bl ns HNL.out 116 w.heap.size (by decide) (fun i => bs.getD i false) g _ doc w1 hsel HA1.out)
  unfold fnV at HFn
  rw [← HM.out] at HFn
  clear hT hsel hb1
  go_wp2_with fail
  refine HFn.out.mono ?_
  rintro e w2 ⟨g2, rfl, hsel2, hb2⟩
  obtain ⟨a5, c5, g0, hrs⟩ := hsel2.places
  have HRs := Lib.hid hrs
  have HB2 := Lib.hid hb2
  have HT2 := Lib.hid (HT.out.kept hb2)
  have hL2 := Nat.lt_of_lt_of_le hL hb2.size
  clear hsel2 hrs hb2
  go_wp2_with fail
  refine (placesOf_any bl t.length L hle M HMm.out (by omega) a5 c5 w2 hL2 HT2.out.nodes (fun j hj => HT2.out.cell j hj) HRs.out).mono ?_
  rintro e w3 ⟨v, rfl, hown4, hb4⟩
  have HB : Hid (Below w.heap.size w w2) := bnext (bnext HB0.out HB1.out) HB2.out
  have HO4 := Lib.hid (hown4.base HB.out.size)
  have HB4 := Lib.hid (bnext HB.out hb4)
  clear hown4 hb4
  go_wp2_with fail
  go_ret2
  exact ⟨v, rfl, HO4.out, HB4.out⟩

/-- An argument of truth values. -/
structure BSl (w : World) (B : Nat) (a : Option Addr) (l : List Bool) : Prop where
  row : RSl w B a (bvs l)
  len : l.length ≤ maxLen

theorem BSl.up {w w' : World} {a : Option Addr} {l : List Bool} (h : BSl w w.heap.size a l) (hb : Below w.heap.size w w') : BSl w' w'.heap.size a l := ⟨h.row.up hb, h.len⟩

def AskPost (t : List Nd) (l : List Int) (bs : List Bool) (w : World) (e : Ending) (w' : World) : Prop :=
  ∃ b, e = .returned (.bool b) ∧ (b = true → RightP t ∧ (∃ ns, OrdP t.length l ns) ∧ bs.length ≤ 300) ∧ Below w.heap.size w w'

set_option maxRecDepth 100000 in
set_option maxHeartbeats 1000000 in
theorem asked_any (a : Option Addr) (c : Nat) (t : List Nd) (hf : fits1 t = true) (a2 : Option Addr) (c2 : Nat) (l : List Int) (hl : l.length ≤ 2147483647) (a3 : Option Addr) (c3 : Nat) (bs : List Bool) (hbs : bs.length ≤ 2147483647) (w : World) (h : NSl w w.heap.size a t) (hi : ISl w w.heap.size a2 l) :
    Calls Try.prog 53 #[.slice a t.length c, .slice a2 l.length c2, .slice a3 bs.length c3] w (AskPost t l bs w) := by
  have HH := Lib.hid h
  have HI := Lib.hid hi
  clear h hi
  go_enter Try.func53, Try.ntmps53
  go_wp2_with fail
  refine (right_any _ _ t _ HH.out hf).mono ?_
  rintro e w1 ⟨b, rfl, hR, hb1⟩
  have HB1 := Lib.hid hb1
  clear hb1
  cases b
  · clear hR
    go_wp2_with fail
    go_ret
    exact ⟨false, rfl, by simp, HB1.out⟩
  have HR := Lib.hid (hR rfl)
  clear hR
  go_wp2_with fail
  refine (order_any _ _ _ _ _ l HR.out.le hl _ (HI.out.up HB1.out)).mono ?_
  rintro e w2 ⟨b, q, rfl, ho, rfl⟩
  have HB2 : Hid (Below w.heap.size w (w1.drewN q)) := below_drewN HB1.out q
  cases b
  · clear ho
    go_wp2_with fail
    go_ret
    exact ⟨false, rfl, by simp, HB2.out⟩
  have HO := Lib.hid (ho rfl)
  clear ho
  go_wp2_with fail
  go_ret
  exact ⟨_, rfl, fun h => ⟨HR.out, HO.out, by have := of_decide_eq_true h; omega⟩, HB2.out⟩

theorem Try.infoB : (Try.prog.info? 4).map (fun i => (i.zero, i.size, i.bytes)) = some (some (.bool false), 1, 1) := by kernel_rfl

def OthersRel (bs : List Bool) (n : Nat) (w : World) (v x : Value) (wr : World) : Prop :=
  ∃ (k : Nat) (a : Option Addr) (c : Nat) (os : List Bool), k ≤ n ∧ x = .int .i64 (k : Nat) ∧ v = .slice a k c ∧ os.length = k ∧ (∀ i, i < k → os.getD i false = !(bs.getD i false)) ∧
    wr.ownsRow w.heap.size 4 1 (.slice a k c) k (bvs os) ∧ Below w.heap.size w wr

set_option maxRecDepth 100000 in
set_option maxHeartbeats 2000000 in
theorem FnNotByOthers_walk (ad : Option Addr) (len c : Nat) (t : List Nd) (a2 : Option Addr) (len2 c2 : Nat) (l : List Int) (a3 : Option Addr) (len3 c3 : Nat) (bs : List Bool) (w : World) (h : NSl w w.heap.size ad t ∧ len = t.length) (hi : ISl w w.heap.size a2 l ∧ len2 = l.length) (hj : BSl w w.heap.size a3 bs ∧ len3 = bs.length) :
    Calls Try.prog 14 #[.slice ad len c, .slice a2 len2 c2, .slice a3 len3 c3] w fun e w' => e = .returned (.bool true) ∧ Below w.heap.size w w' := by
  obtain ⟨h, rfl⟩ := h
  obtain ⟨hi, rfl⟩ := hi
  obtain ⟨hj, rfl⟩ := hj
  obtain ⟨i0, hinf, hz0, hz1, hz2⟩ := info_parts Try.infoB
  have HH := Lib.hid h
  have hll := hi.len
  have hml := hj.len
  have HI := Lib.hid hi
  have HJ := Lib.hid hj
  unfold maxLen at hll hml
  clear h hi hj
  go_enter Try.func14, Try.ntmps14
  go_wp2_with fail
  refine (zzFits1_any _ _ t _ HH.out).mono ?_
  rintro e w1 ⟨rfl, hb1⟩
  have HB1 := Lib.hid hb1
  clear hb1
  cases hf : fits1 t
  · go_wp2_with fail
    go_ret
    exact ⟨rfl, HB1.out⟩
  · by_cases k1 : 2147483647 < l.length
    · go_wp2_with fail
      go_ret
      exact ⟨rfl, HB1.out⟩
    by_cases k2 : 2147483647 < bs.length
    · go_wp2_with fail
      go_ret
      exact ⟨rfl, HB1.out⟩
    go_wp2_with fail
    refine (asked_any _ _ t hf _ _ l (by omega) _ _ bs (by omega) _ (HH.out.up HB1.out) (HI.out.up HB1.out)).mono ?_
    rintro e w2 ⟨b, rfl, hS, hb2⟩
    have HB2 := Lib.hid (bnext HB1.out hb2)
    clear hb2
    cases b
    · clear hS
      go_wp2_with fail
      go_ret
      exact ⟨rfl, HB2.out⟩
    obtain ⟨hR, ⟨ns, ho⟩, h300⟩ := hS rfl
    have hle := hR.le
    have hnl := ho.len
    have HLN := Lib.hid ho.length
    have HR := Lib.hid hR
    have HO := Lib.hid ho
    have hn200 : ns.length ≤ 200 := by omega
    clear hS hR ho hle hnl
    have hl2 : l.length = ns.length := HLN.out
    have hl3 : l.length ≤ 200 := by omega
    clear hl2
    go_wp2_with fail
    go_loopw [7, 8] (fun v x wr => OthersRel bs l.length w2 v x wr) (fun _ x _ => l.length - (intOf x).toNat)
    case atStart => exact ⟨0, none, 0, [], by omega, rfl, rfl, rfl, (fun i hi => by omega), World.ownsRow_nil _ _ _ _, Below.refl _ _⟩
    case round =>
      obtain ⟨k, a1, c1, os, hk, rfl, rfl, hol, hos, hown, hb⟩ := hrel
      have HOL := Lib.hid hol
      have HOS := Lib.hid hos
      have HW := Lib.hid hown
      have hsz := hb.size
      have HB3 := Lib.hid (bnext HB2.out hb)
      clear hol hos hown
      by_cases hlt : k < l.length
      · have HAn := Lib.hid (answered_any a3 c3 bs (by omega) k (by omega) wr (HJ.out.up HB3.out).row)
        obtain ⟨r, hr⟩ : ∃ r, r = bs.getD k false := ⟨_, rfl⟩
        rw [← hr] at HAn
        have HRr := Lib.hid hr
        clear hr
        go_wp2_with fail
        refine HAn.out.mono ?_
        rintro e w3 ⟨rfl, rfl⟩
        go_wp2_with (at_builtin; refine wpList_append_own _ rfl _ _ 66 rfl w2.heap.size 4 i0 (.bool false) 1 1 Try.underlying66 hinf hz0 hz1 hz2 rfl (by decide) _ _ _ rfl (HW.out.alloc _) ⟨wr.heap.size, 0, none⟩ 1 1 [.bool (!r)] rfl rfl (cell_one_new _ _ _) (by intro u hu; simp at hu; subst hu; rfl) (by unfold maxLen; omega) (by omega) (by simp; omega) ?_)
        intro v' w3 hown' hgrow _
        obtain ⟨a4, c4, hv2⟩ := own_slice hown'
        rw [hv2] at hown' ⊢
        have hb1 : Below w2.heap.size w2 w3 := (hb.alloc hb.size _).grown hgrow (by simp; omega) (fun q hq => (HW.out.lt q hq).1)
        have HO1 : Hid (w3.ownsRow w2.heap.size 4 1 (.slice a4 (k + 1) c4) (k + 1) (bvs (os ++ [!r]))) := by
          rw [Hid, bvs_snoc]; exact hown'
        have HOS2 : Hid (∀ i, i < k + 1 → (os ++ [!r]).getD i false = !(bs.getD i false)) := by
          intro i hi
          by_cases e : i = k
          · subst e
            rw [List.getD_eq_getElem?_getD, List.getElem?_append_right (by rw [HOL.out]; exact Nat.le_refl _), HOL.out, Nat.sub_self, ← HRr.out]; rfl
          · rw [List.getD_eq_getElem?_getD, List.getElem?_append_left (by rw [HOL.out]; omega), ← List.getD_eq_getElem?_getD]
            exact HOS.out i (by omega)
        clear hown' hgrow hv2
        go_wp2_with fail
        go_roundw
        case rel => exact ⟨k + 1, a4, c4, os ++ [!r], by omega, by go_num, rfl, by rw [List.length_append, HOL.out]; rfl, HOS2.out, HO1.out, hb1⟩
        case measure => simp [intOf]; omega
      · have hkl : k = l.length := by omega
        have HKN : Hid (k = ns.length) := hkl.trans HLN.out
        have HOsl : Hid (os.length = ns.length) := HOL.out.trans HKN.out
        clear hkl
        have HRow : Hid (RSl wr wr.heap.size a1 (bvs os)) := by
          obtain ⟨a5, c5, hv, _, hrs⟩ := RSl.own HW.out
          cases hv
          exact hrs
        have HNot := Lib.hid (notBy_any ad c t HR.out a2 c2 l ns HO.out (by omega) a3 c3 bs (by omega) wr (HH.out.up HB3.out) (HI.out.up HB3.out) (HJ.out.up HB3.out).row)
        have HFil : Hid (∀ W, Below wr.heap.size wr W → Calls Try.prog 56 #[.slice ad t.length c, .slice a2 l.length c2, .slice a1 k c1] W (ListPost (toI (pickN (fun i => os.getD i false == true) ns)) W)) := by
          intro W hW
          have := filterBy_any ad c t HR.out a2 c2 l ns HO.out (by omega) a1 c1 os (by have := HOsl.out; omega) W (HH.out.up (bnext HB3.out hW)) (HI.out.up (bnext HB3.out hW)) (HRow.out.up hW)
          rw [HOL.out] at this
          exact this
        have HEq : Hid (pickN (fun i => os.getD i false == true) ns = pickN (fun i => bs.getD i false == false) ns) := by
          apply pickN_congr
          intro i hi
          rw [HOS.out i (by have := HKN.out; omega)]
          cases bs.getD i false <;> rfl
        rw [HEq.out] at HFil
        obtain ⟨M, hM⟩ : ∃ M, M = pickN (fun i => bs.getD i false == false) ns := ⟨_, rfl⟩
        have hMl : M.length ≤ 200 := by rw [hM]; exact Nat.le_trans (pickN_len _ _) hn200
        rw [← hM] at HFil HNot
        clear hM HEq
        go_wp2_with fail
        refine HNot.out.mono ?_
        rintro e w3 ⟨v, rfl, hown, hb3⟩
        obtain ⟨av, cv, rfl, hrow⟩ := hown.row
        have HRowA := Lib.hid hrow
        have HB4 := Lib.hid (bnext HB3.out hb3)
        have HC := Lib.hid (HFil.out w3 hb3)
        clear hown hrow hb3
        rw [toI_length]
        go_wp2_with fail
        refine HC.out.mono ?_
        rintro e w4 ⟨v2, rfl, hown, hb4⟩
        obtain ⟨av2, cv2, rfl, hrow2⟩ := hown.row
        have HRow2 := Lib.hid hrow2
        have HRow1 := Lib.hid (HRowA.out.up hb4)
        have HB5 := Lib.hid (bnext HB4.out hb4)
        clear hown hrow2 hb4
        rw [toI_length]
        go_wp2_with fail
        have HSame := sameList_any av cv (toI M) av2 cv2 (toI M) (by rw [toI_length]; omega) (by rw [toI_length]; omega) w4 HRow1.out HRow2.out
        rw [toI_length] at HSame
        refine HSame.mono ?_
        rintro e w5 ⟨q, rfl, rfl⟩
        clear HSame
        go_wp2_with fail
        go_ret
        exact ⟨ret_b (by simp), below_drewN HB5.out q⟩

open Go.WideShapes Go.Deep in
theorem open_bools {H : Type} {enc : TypeId × Value → H} {w : World} {base : Nat} {spare : Nat → Bool} {held : Bool} {a : Option Addr} {len cap : Nat} {d : DataW H} {p : List MemPlace} (h : DataW.Trod enc Try.prog w base spare held 66 (.slice a len cap) d p) :
    ∃ l : List Bool, BSl w w.heap.size a l ∧ len = l.length := by
  obtain ⟨fuel, h⟩ := h
  have hC : Try.prog.cellsOf 4 = 1 := by kernel_rfl
  rcases open_slice Try.underlying66 h with ⟨hcs, _⟩ | ⟨a', len', cap', m, n, D, Pl, hcs, _, hl, hm, hmm, hx, hi⟩
  · simp [Value.cells] at hcs
    exact ⟨[], ⟨.inl rfl, by simp⟩, by simp [hcs.2.1]⟩
  · simp [Value.cells] at hcs
    obtain ⟨rfl, rfl, rfl⟩ := hcs
    have hlm : len ≤ m := by rw [hmm]; split <;> omega
    obtain ⟨l, hll, hp⟩ := list_of len (fun i (x : Bool) => w.cell? (a'.add i) = some (.bool x)) (fun i hil => by
      obtain ⟨cs', hc, ht⟩ := hi i (by omega)
      rw [hC, Nat.mul_one] at hc
      obtain ⟨_, hcl, hat⟩ := World.cells?_some hc
      obtain ⟨v, rfl⟩ : ∃ v, cs' = [v] := by
        match cs', hcl with
        | [v], _ => exact ⟨v, rfl⟩
      obtain ⟨n0, e0, _⟩ := DataW.trod_bool Try.underlying4 ht
      simp at e0
      subst e0
      have := hat 0 (by omega)
      rw [Go.Deep.add_add, Nat.add_zero] at this
      exact ⟨n0, this⟩)
    subst hll
    refine ⟨l, ⟨?_, by omega⟩, rfl⟩
    rcases Nat.eq_zero_or_pos l.length with h0 | h0
    · exact .inl (by rw [List.eq_nil_of_length_eq_zero h0]; rfl)
    · obtain ⟨b, o, rfl, hb⟩ := addr_plain (k := 0) (hp 0 h0)
      refine .inr ⟨b, o, rfl, hb, fun i hi2 => ?_⟩
      rw [bvs_length] at hi2
      have := hp i hi2
      rw [Addr.add_lit] at this
      rw [bvs_at hi2]
      exact this
end Go.Proofs.Ytfebdbfkpmjpeaa
