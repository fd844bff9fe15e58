/- What is not among other nodes: NotNodes, NotOf. -/
import Derived.Test.YtgilbckfkngaiaaT33
namespace Go.Proofs.Ytgilbckfkngaiaa
open Go.RowKit
set_option linter.unusedVariables false

/-- Nodes of a list that the call owns. -/
def OwnN (bl : Nat → Nat) (B : Nat) (ns : List Nat) (v : Value) (w : World) : Prop := ∃ a c, v = .slice a ns.length c ∧ w.ownsRow B 75 1 (.slice a ns.length c) ns.length (ptrs bl ns)
def OwnNPost (bl : Nat → Nat) (ns : List Nat) (w : World) (e : Ending) (w' : World) : Prop := ∃ v, e = .returned v ∧ OwnN bl w.heap.size ns v w' ∧ Below w.heap.size w w'

def WinRel (bl : Nat → Nat) (ns ms : List Nat) (keep : Bool) (w : World) (v x : Value) (wr : World) : Prop :=
  ∃ (k : Nat) (a : Option Addr) (c : Nat), k ≤ ns.length ∧ x = .int .i64 (k : Nat) ∧ v = .slice a (thoseN (ns.take k) ms (!keep)).length c ∧
    wr.ownsRow w.heap.size 75 1 (.slice a (thoseN (ns.take k) ms (!keep)).length c) (thoseN (ns.take k) ms (!keep)).length (ptrs bl (thoseN (ns.take k) ms (!keep))) ∧ Below w.heap.size w wr

set_option maxRecDepth 100000 in
set_option maxHeartbeats 2000000 in
theorem winnow_any (bl : Nat → Nat) (n : Nat) (ns ms : List Nat) (hns : ∀ k ∈ ns, k < n) (hms : ∀ k ∈ ms, k < n) (hlen : ns.length ≤ 200) (hlem : ms.length ≤ 200) (keep : Bool) (g : Nat) (a : Option Addr) (c : Nat) (doc prev : Option Addr) (a2 : Option Addr) (c2 : Nat) (w : World)
    (hs : SelB w g a ns.length c doc prev) (h : RSl w w.heap.size a (ptrs bl ns)) (h2 : RSl w w.heap.size a2 (ptrs bl ms)) (hN : NodesAt bl n w) :
    Calls Try.prog 187 #[.pointer (some ⟨g, 0, none⟩), .slice a2 ms.length c2, .bool keep] w (OwnNPost bl (thoseN ns ms (!keep)) w) := by
  obtain ⟨i0, hinf, hz0, hz1, hz2⟩ := info_parts Try.infoP
  obtain ⟨s0, _, _⟩ := hs.cells
  have HH := Lib.hid h
  have H2 := Lib.hid h2
  have HN := Lib.hid hN
  have HNs := Lib.hid hns
  have HMs := Lib.hid hms
  have d0 : decide ((ms.length : Int) + (ns.length : Int) < 1000) = true := decide_eq_true (by omega)
  clear h h2 hN hns hms hs
  go_enter Try.func187, Try.ntmps187
  go_wp2_with fail
  go_loopw [7, 30] (fun v x wr => WinRel bl ns ms keep w v x wr) (fun _ x _ => ns.length - (intOf x).toNat)
  case atStart => exact ⟨0, none, 0, by omega, rfl, rfl, World.ownsRow_nil _ _ _ _, Below.refl _ _⟩
  case round =>
    obtain ⟨k, a1, c1, hk, rfl, rfl, hown, hb⟩ := hrel
    by_cases hlt : k < ns.length
    · obtain ⟨b, o, rfl, hbB, hc⟩ := HH.out.at_ (by rw [ptrs_length]; omega)
      have g1 := hc k (by rw [ptrs_length]; exact hlt)
      rw [ptrs_at hlt] at g1
      replace g1 := (hb.cell (p := ⟨b, _, none⟩) hbB).trans g1
      have hi := HNs.out ns[k] (List.getElem_mem hlt)
      have HN2 := HN.out.kept hb
      have HIn := Lib.hid (isIn_any bl n HN2.inj ms HMs.out (by omega) ns[k] hi a2 c2 wr (H2.out.up hb) HN2.blk)
      obtain ⟨j, hj⟩ : ∃ j, j = ns[k] := ⟨_, rfl⟩
      rw [← hj] at g1 HIn hi
      have HJ : Hid (thoseN (ns.take (k + 1)) ms (!keep) = thoseN (ns.take k) ms (!keep) ++ if (decide (j ∈ ms) != !keep) = true then [j] else []) := by
        rw [Hid, List.take_succ_eq_append_getElem hlt, hj, thoseN_snoc]
      have hle : (thoseN (ns.take k) ms (!keep)).length ≤ 200 := by
        have := thoseN_len (ns.take k) ms (!keep)
        simp at this; omega
      obtain ⟨L, hLL⟩ : ∃ L, L = thoseN (ns.take k) ms (!keep) := ⟨_, rfl⟩
      rw [← hLL] at hown hle HJ ⊢
      have HW := Lib.hid hown
      have hsz := hb.size
      obtain ⟨r, hr⟩ : ∃ r, r = decide (j ∈ ms) := ⟨_, rfl⟩
      rw [← hr] at HIn HJ
      clear hc hj hown hLL hr HN2 hi
      go_wp2_with fail
      refine HIn.out.mono ?_
      rintro e w1 ⟨rfl, rfl⟩
      cases hq : (r != !keep)
      · have HE : Hid (thoseN (ns.take (k + 1)) ms (!keep) = L) := by
          rw [Hid, HJ.out, hq]; simp
        clear HJ
        cases r <;> cases keep
        all_goals first
          | (exfalso; revert hq; decide)
          | (clear hq
             go_wp2_with fail
             go_roundw
             case rel => exact ⟨k + 1, a1, c1, by omega, by go_num, by rw [HE.out], by rw [HE.out]; exact HW.out, hb⟩
             case measure => simp [intOf]; omega)
      · have HE : Hid (thoseN (ns.take (k + 1)) ms (!keep) = L ++ [j]) := by
          rw [Hid, HJ.out, hq]; simp
        clear HJ
        cases r <;> cases keep
        all_goals first
          | (exfalso; revert hq; decide)
          | (clear hq
             go_wp2_with (at_builtin; refine wpList_append_own _ rfl _ _ 86 rfl w.heap.size 75 i0 (.pointer none) 1 8 Try.underlying86 hinf hz0 hz1 hz2 rfl (by decide) _ _ _ rfl (HW.out.alloc _) ⟨wr.heap.size, 0, none⟩ 1 1 [.pointer (some ⟨bl j, 0, none⟩)] rfl rfl (cell_one_new _ _ _) (by intro u hu; simp at hu; subst hu; rfl) (by unfold maxLen; omega) (by omega) (by simp; omega) ?_)
             intro v' w1 hown' hgrow _
             obtain ⟨a3, c3, hv2⟩ := own_slice hown'
             rw [hv2] at hown' ⊢
             have hb1 : Below w.heap.size w w1 := (hb.alloc hb.size _).grown hgrow (by simp; omega) (fun q hq => (HW.out.lt q hq).1)
             have HO1 : Hid (w1.ownsRow w.heap.size 75 1 (.slice a3 (L.length + 1) c3) (L.length + 1) (ptrs bl (L ++ [j]))) := by
               rw [Hid, ptrs_snoc]; exact hown'
             clear hown' hgrow hv2
             go_wp2_with fail
             go_roundw
             case rel => exact ⟨k + 1, a3, c3, by omega, by go_num, by rw [HE.out, List.length_append]; rfl, by rw [HE.out, List.length_append]; exact HO1.out, hb1⟩
             case measure => simp [intOf]; omega)
    · go_wp2_with fail
      go_ret
      have e : k = ns.length := by omega
      subst e
      rw [List.take_length] at hown ⊢
      exact ⟨_, rfl, ⟨a1, c1, rfl, hown⟩, hb⟩

set_option maxRecDepth 100000 in
set_option maxHeartbeats 1000000 in
theorem notNodes_any (bl : Nat → Nat) (n : Nat) (ns ms : List Nat) (hns : ∀ k ∈ ns, k < n) (hms : ∀ k ∈ ms, k < n) (hlen : ns.length ≤ 200) (hlem : ms.length ≤ 200) (g B : Nat) (doc : Option Addr) (a2 : Option Addr) (c2 : Nat) (w : World)
    (hs : SelOf bl ns B g doc w) (h2 : RSl w w.heap.size a2 (ptrs bl ms)) (hN : NodesAt bl n w) :
    Calls Try.prog 162 #[.pointer (some ⟨g, 0, none⟩), .slice a2 ms.length c2] w (AddPost bl (thoseN ns ms true) doc w) := by
  obtain ⟨a, c, prev, hs1, _, hown, _⟩ := hs
  have hrs : RSl w w.heap.size a (ptrs bl ns) := by
    obtain ⟨a1, c1, hv, _, hrs⟩ := RSl.own hown
    cases hv
    exact hrs
  have HWin := Lib.hid (winnow_any bl n ns ms hns hms hlen hlem false g a c doc prev a2 c2 w hs1 hrs h2 hN)
  have HS := Lib.hid hs1
  clear hs1 hown hrs h2 hN hns hms
  go_enter Try.func162, Try.ntmps162
  go_wp2_with fail
  refine HWin.out.mono ?_
  rintro e w1 ⟨v, rfl, ⟨a1, c1, rfl, hown⟩, hb⟩
  have HO := Lib.hid hown
  have HB := Lib.hid hb
  clear hown hb
  go_wp2_with fail
  refine (push_any g a ns.length c doc prev a1 _ c1 w1 (HS.out.below HB.out HS.out.lt)).mono ?_
  rintro e w2 ⟨rfl, hs2, hb2⟩
  have HS2 := Lib.hid hs2
  have HB2 := Lib.hid hb2
  clear hs2 hb2
  go_wp2_with fail
  go_ret
  exact ⟨_, rfl, ⟨a1, c1, _, HS2.out, HB.out.size, own_kept HO.out (fun b _ hb => HB2.out.block b hb), _, rfl⟩, bnext HB.out HB2.out⟩

/-- What a selection's nodes are, told as places. -/
theorem SelOf.places {bl : Nat → Nat} {ns : List Nat} {B g : Nat} {doc : Option Addr} {w : World} (h : SelOf bl ns B g doc w) : ∃ a c, w.cell? ⟨g, 0, none⟩ = some (.slice a ns.length c) ∧ RSl w w.heap.size a (ptrs bl ns) := by
  obtain ⟨a, c, prev, hs1, _, hown, _⟩ := h
  refine ⟨a, c, hs1.cells.1, ?_⟩
  obtain ⟨a1, c1, hv, _, hrs⟩ := RSl.own hown
  cases hv
  exact hrs

def ListPost (l : List Int) (w : World) (e : Ending) (w' : World) : Prop := ∃ v, e = .returned (.tuple #[v, .bool true]) ∧ OwnI w.heap.size l v w' ∧ Below w.heap.size w w'

theorem OwnI.base {B B' : Nat} {l : List Int} {v : Value} {w : World} (h : OwnI B l v w) (hb : B' ≤ B) : OwnI B' l v w := by
  obtain ⟨a, c, rfl, h⟩ := h
  exact ⟨a, c, rfl, own_base h hb⟩
theorem OwnI.kept {B : Nat} {l : List Int} {v : Value} {w w' : World} (h : OwnI B l v w) (hb : Below w.heap.size w w') : OwnI B l v w' := by
  obtain ⟨a, c, rfl, h⟩ := h
  exact ⟨a, c, rfl, own_kept h (fun b _ hb2 => hb.block b hb2)⟩
theorem OwnI.row {B : Nat} {l : List Int} {v : Value} {w : World} (h : OwnI B l v w) : ∃ a c, v = .slice a l.length c ∧ RSl w w.heap.size a (ivs l) := by
  obtain ⟨a, c, rfl, h⟩ := h
  obtain ⟨a1, c1, hv, _, hrs⟩ := RSl.own h
  cases hv
  exact ⟨a, c, rfl, hrs⟩

end Go.Proofs.Ytgilbckfkngaiaa
