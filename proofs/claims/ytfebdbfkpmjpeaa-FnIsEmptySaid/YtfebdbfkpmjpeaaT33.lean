/- Those of some nodes that are not among others: the reference's and the program's. -/
import Derived.Test.YtfebdbfkpmjpeaaT32
namespace Go.Proofs.Ytfebdbfkpmjpeaa
open Go.RowKit
set_option linter.unusedVariables false

/-- Places of elements of a right tree, ascending. -/
structure SelP (t : List Nd) (l : List Int) (ns : List Nat) : Prop where
  right : RightP t
  ord : OrdP t.length l ns
  kind : ∀ k ∈ ns, (t.getD k default).kind = 3

def SelPost (t : List Nd) (l : List Int) (w : World) (e : Ending) (w' : World) : Prop := ∃ b, e = .returned (.bool b) ∧ (b = true → ∃ ns, SelP t l ns) ∧ Below w.heap.size w w'

set_option maxRecDepth 100000 in
set_option maxHeartbeats 1000000 in
theorem selection_any (a : Option Addr) (c : Nat) (t : List Nd) (hf : fits1 t = true) (a2 : Option Addr) (c2 : Nat) (l : List Int) (hl : l.length ≤ 2147483647) (w : World) (h : NSl w w.heap.size a t) (hi : ISl w w.heap.size a2 l) :
    Calls Try.prog 68 #[.slice a t.length c, .slice a2 l.length c2] w (SelPost t l w) := by
  have HH := Lib.hid h
  have HI := Lib.hid hi
  clear h hi
  go_enter Try.func68, Try.ntmps68
  go_wp2_with fail
  refine (right_any _ _ t _ HH.out hf).mono ?_
  rintro e w1 ⟨b, rfl, hR, hb1⟩
  have HB1 := Lib.hid hb1
  clear hb1
  cases b
  · clear hR
    go_wp2_with fail
    go_ret
    exact ⟨false, rfl, by simp, HB1.out⟩
  have HR := Lib.hid (hR rfl)
  clear hR
  go_wp2_with fail
  refine (order_any _ _ _ _ _ l HR.out.le hl _ (HI.out.up HB1.out)).mono ?_
  rintro e w2 ⟨b, q, rfl, ho, rfl⟩
  have HB2 : Hid (Below w.heap.size w (w1.drewN q)) := below_drewN HB1.out q
  cases b
  · clear ho
    go_wp2_with fail
    go_ret
    exact ⟨false, rfl, by simp, HB2.out⟩
  obtain ⟨ns, ho⟩ := ho rfl
  have HO := Lib.hid ho
  clear ho
  go_wp2_with fail
  obtain ⟨W, hW⟩ : ∃ W, W = w1.drewN q := ⟨_, rfl⟩
  rw [← hW] at HB2 ⊢
  clear hW
  go_loopw [5] (fun x wr => ∃ k : Nat, k ≤ l.length ∧ x = .int .i64 k ∧ Hid (∀ i (h : i < ns.length), i < k → (t.getD ns[i] default).kind = 3) ∧ W = wr) (fun x _ => l.length - (intOf x).toNat)
  case atStart => exact ⟨0, by omega, rfl, (fun i _ h => by omega), rfl⟩
  case round =>
    obtain ⟨k, hk, rfl, hkind, rfl⟩ := hrel
    by_cases hlt : k < l.length
    · have hln : k < ns.length := by have := HO.out.length; omega
      obtain ⟨b, o, rfl, hbB, hc⟩ := (HI.out.up HB2.out).at_ (by omega)
      have g1 := hc k hlt
      have hx : l[k] = (ns[k] : Int) := by
        have := HO.out.eq
        subst this
        simp
      rw [hx] at g1
      have hi := HO.out.lt ns[k] (List.getElem_mem hln)
      obtain ⟨b', o', rfl, hbB', hn⟩ := (HH.out.up HB2.out).at_ (by omega)
      have f1 := (hn ns[k] hi).1
      have hgd : (t.getD ns[k] default).kind = t[ns[k]].kind := by rw [getD_at hi]
      obtain ⟨kd, hkd⟩ : ∃ kd, kd = t[ns[k]].kind := ⟨_, rfl⟩
      rw [← hkd] at f1 hgd
      obtain ⟨j, hj⟩ : ∃ j, j = ns[k] := ⟨_, rfl⟩
      rw [← hj] at g1 f1 hgd hi
      have HJ := Lib.hid hj
      clear hc hx hn hkd hj
      have HG := Lib.hid hgd
      clear hgd
      by_cases e : kd = 3
      · subst e
        have HK : Hid (∀ i (h : i < ns.length), i < k + 1 → (t.getD ns[i] default).kind = 3) := by
          intro i h hi
          by_cases e2 : i = k
          · subst e2; rw [← HJ.out]; exact HG.out
          · exact hkind.out i h (by omega)
        go_wp2_with fail
        go_roundw
        case rel => exact ⟨k + 1, by omega, by go_num, HK, by trivial⟩
        case measure => simp [intOf]; omega
      · have z1 : (kd == 3) = false := beq_eq_false_iff_ne.2 e
        have z2 : (kd != 3) = true := by simp [e]
        clear e
        go_wp2_with fail
        go_ret
        exact ⟨false, rfl, by simp, HB2.out⟩
    · go_wp2_with fail
      go_ret
      refine ⟨true, rfl, fun _ => ⟨ns, HR.out, HO.out, fun m hm => ?_⟩, HB2.out⟩
      obtain ⟨i, hi, rfl⟩ := List.getElem_of_mem hm
      exact hkind.out i hi (by have := HO.out.length; omega)

def SomePost (t : List Nd) (l m : List Int) (w : World) (e : Ending) (w' : World) : Prop := ∃ b, e = .returned (.bool b) ∧ (b = true → (∃ ns, SelP t l ns) ∧ ∃ ms, SelP t m ms) ∧ Below w.heap.size w w'

set_option maxRecDepth 100000 in
set_option maxHeartbeats 1000000 in
theorem some_any (a : Option Addr) (c : Nat) (t : List Nd) (hf : fits1 t = true) (a2 : Option Addr) (c2 : Nat) (l : List Int) (hl : l.length ≤ 2147483647) (a3 : Option Addr) (c3 : Nat) (m : List Int) (hm : m.length ≤ 2147483647) (w : World) (h : NSl w w.heap.size a t) (hi : ISl w w.heap.size a2 l) (hj : ISl w w.heap.size a3 m) :
    Calls Try.prog 46 #[.slice a t.length c, .slice a2 l.length c2, .slice a3 m.length c3] w (SomePost t l m w) := by
  have HH := Lib.hid h
  have HI := Lib.hid hi
  have HJ := Lib.hid hj
  clear h hi hj
  go_enter Try.func46, Try.ntmps46
  go_wp2_with fail
  refine (selection_any _ _ t hf _ _ l hl _ HH.out HI.out).mono ?_
  rintro e w1 ⟨b, rfl, hS, hb1⟩
  have HB1 := Lib.hid hb1
  have HS := Lib.hid hS
  clear hb1 hS
  cases b
  · go_wp2_with fail
    go_ret
    exact ⟨false, rfl, by simp, HB1.out⟩
  go_wp2_with fail
  refine (selection_any _ _ t hf _ _ m hm _ (HH.out.up HB1.out) (HJ.out.up HB1.out)).mono ?_
  rintro e w2 ⟨b, rfl, hS2, hb2⟩
  have HB2 := Lib.hid (bnext HB1.out hb2)
  have HS2 := Lib.hid hS2
  clear hb2 hS2
  go_wp2_with fail
  go_ret
  exact ⟨b, rfl, fun h => ⟨HS.out (by trivial), HS2.out h⟩, HB2.out⟩

/-- Those of ns that are among ms, or are not. -/
def thoseN (ns ms : List Nat) (no : Bool) : List Nat := ns.filter fun n => decide (n ∈ ms) != no

theorem thoseN_snoc (ns ms : List Nat) (no : Bool) (i : Nat) : thoseN (ns ++ [i]) ms no = thoseN ns ms no ++ if (decide (i ∈ ms) != no) = true then [i] else [] := by
  unfold thoseN
  rw [List.filter_append]
  congr 1
  rw [List.filter_cons, List.filter_nil]

theorem thoseN_len (ns ms : List Nat) (no : Bool) : (thoseN ns ms no).length ≤ ns.length := List.length_filter_le _ _
theorem thoseN_mem {ns ms : List Nat} {no : Bool} {k : Nat} (h : k ∈ thoseN ns ms no) : k ∈ ns := (List.mem_filter.1 h).1

def ThoseRel (ns ms : List Nat) (no : Bool) (w : World) (v x : Value) (wr : World) : Prop :=
  ∃ (k : Nat) (a : Option Addr) (c : Nat), k ≤ ns.length ∧ x = .int .i64 (k : Nat) ∧ v = .slice a (thoseN (ns.take k) ms no).length c ∧
    wr.ownsRow w.heap.size 3 1 (.slice a (thoseN (ns.take k) ms no).length c) (thoseN (ns.take k) ms no).length (ivs (toI (thoseN (ns.take k) ms no))) ∧ Below w.heap.size w wr

def OwnIPost (l : List Int) (w : World) (e : Ending) (w' : World) : Prop := ∃ v, e = .returned v ∧ OwnI w.heap.size l v w' ∧ Below w.heap.size w w'

set_option maxRecDepth 100000 in
set_option maxHeartbeats 2000000 in
theorem those_any (a : Option Addr) (c : Nat) (ns : List Nat) (hl : ns.length ≤ 100000) (a2 : Option Addr) (c2 : Nat) (ms : List Nat) (hm : ms.length ≤ 100000) (no : Bool) (w : World) (h : RSl w w.heap.size a (ivs (toI ns))) (h2 : RSl w w.heap.size a2 (ivs (toI ms))) :
    Calls Try.prog 49 #[.slice a ns.length c, .slice a2 ms.length c2, .bool no] w (OwnIPost (toI (thoseN ns ms no)) w) := by
  obtain ⟨i0, hinf, hz0, hz1, hz2⟩ := info_parts Try.info3
  have HH := Lib.hid h
  have H2 := Lib.hid h2
  clear h h2
  go_enter Try.func49, Try.ntmps49
  go_wp2_with fail
  go_loopw [7, 8] (fun v x wr => ThoseRel ns ms no w v x wr) (fun _ x _ => ns.length - (intOf x).toNat)
  case atStart => exact ⟨0, none, 0, by omega, rfl, rfl, World.ownsRow_nil _ _ _ _, Below.refl _ _⟩
  case round =>
    obtain ⟨k, a1, c1, hk, rfl, rfl, hown, hb⟩ := hrel
    by_cases hlt : k < ns.length
    · obtain ⟨b, o, rfl, hbB, hc⟩ := HH.out.at_ (by rw [ivs_length, toI_length]; omega)
      have g1 := hc k (by rw [ivs_length, toI_length]; exact hlt)
      rw [ivs_at (by rw [toI_length]; exact hlt), toI_at hlt] at g1
      replace g1 := (hb.cell (p := ⟨b, _, none⟩) hbB).trans g1
      have HIn := Lib.hid (in_any a2 c2 (toI ms) (by rw [toI_length]; omega) (ns[k] : Int) wr (by exact H2.out.up hb))
      obtain ⟨j, hj⟩ : ∃ j, j = ns[k] := ⟨_, rfl⟩
      rw [← hj] at g1 HIn
      have HJ : Hid (thoseN (ns.take (k + 1)) ms no = thoseN (ns.take k) ms no ++ if (decide (j ∈ ms) != no) = true then [j] else []) := by
        rw [Hid, List.take_succ_eq_append_getElem hlt, hj, thoseN_snoc]
      have hle : (thoseN (ns.take k) ms no).length ≤ 100000 := by
        have := thoseN_len (ns.take k) ms no
        simp at this; omega
      obtain ⟨L, hLL⟩ : ∃ L, L = thoseN (ns.take k) ms no := ⟨_, rfl⟩
      rw [← hLL] at hown hle HJ ⊢
      have HW := Lib.hid hown
      have hsz := hb.size
      rw [toI_length] at HIn
      have hd : decide ((j : Int) ∈ toI ms) = decide (j ∈ ms) := by rw [decide_eq_decide]; exact mem_toI
      rw [hd] at HIn
      obtain ⟨r, hr⟩ : ∃ r, r = decide (j ∈ ms) := ⟨_, rfl⟩
      rw [← hr] at HIn HJ
      clear hc hj hown hLL hd hr
      go_wp2_with fail
      refine HIn.out.mono ?_
      rintro e w1 ⟨rfl, rfl⟩
      cases hq : (r != no)
      · have HE : Hid (thoseN (ns.take (k + 1)) ms no = L) := by
          rw [Hid, HJ.out, hq]; simp
        have hq2 : (r == no) = true := by cases r <;> cases no <;> simp_all
        clear HJ
        cases r <;> cases no
        all_goals first
          | (exfalso; revert hq; decide)
          | (clear hq hq2
             go_wp2_with fail
             go_roundw
             case rel => exact ⟨k + 1, a1, c1, by omega, by go_num, by rw [HE.out], by rw [HE.out]; exact HW.out, hb⟩
             case measure => simp [intOf]; omega)
      · have HE : Hid (thoseN (ns.take (k + 1)) ms no = L ++ [j]) := by
          rw [Hid, HJ.out, hq]; simp
        clear HJ
        cases r <;> cases no
        all_goals first
          | (exfalso; revert hq; decide)
          | (clear hq
             go_wp2_with (at_builtin; refine wpList_append_own _ rfl _ _ 45 rfl w.heap.size 3 i0 (.int .i64 0) 1 8 Try.underlying45 hinf hz0 hz1 hz2 rfl (by decide) _ _ _ rfl (HW.out.alloc _) ⟨wr.heap.size, 0, none⟩ 1 1 [.int .i64 (j : Int)] rfl rfl (cell_one_new _ _ _) (by intro u hu; simp at hu; subst hu; rfl) (by unfold maxLen; omega) (by omega) (by simp; omega) ?_)
             intro v' w1 hown' hgrow _
             obtain ⟨a3, c3, hv2⟩ := own_slice hown'
             rw [hv2] at hown' ⊢
             have hb1 : Below w.heap.size w w1 := (hb.alloc hb.size _).grown hgrow (by simp; omega) (fun q hq => (HW.out.lt q hq).1)
             have HO1 : Hid (w1.ownsRow w.heap.size 3 1 (.slice a3 (L.length + 1) c3) (L.length + 1) (ivs (toI (L ++ [j])))) := by
               rw [Hid, toI_snoc, ivs_snoc]; exact hown'
             clear hown' hgrow hv2
             go_wp2_with fail
             go_roundw
             case rel => exact ⟨k + 1, a3, c3, by omega, by go_num, by rw [HE.out, List.length_append]; rfl, by rw [HE.out, List.length_append]; exact HO1.out, hb1⟩
             case measure => simp [intOf]; omega)
    · go_wp2_with fail
      go_ret
      have e : k = ns.length := by omega
      subst e
      rw [List.take_length] at hown ⊢
      exact ⟨_, rfl, OwnI.of hown, hb⟩
end Go.Proofs.Ytfebdbfkpmjpeaa
