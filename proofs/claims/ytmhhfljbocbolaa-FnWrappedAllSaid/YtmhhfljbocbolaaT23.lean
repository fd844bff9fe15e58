/- Nodes come into a selection that is empty. -/
import Derived.Test.YtmhhfljbocbolaaT22
import Derived.WalkSpells
namespace Go.Proofs.Ytmhhfljbocbolaa
open Go.RowKit
set_option linter.unusedVariables false

/-- The nodes of a tree, as far as a comparison of pointers asks. -/
structure NodesAt (bl : Nat → Nat) (n : Nat) (w : World) : Prop where
  inj : ∀ i j, i < n → j < n → bl i = bl j → i = j
  lt : ∀ i, i < n → bl i < w.heap.size
  blk : ∀ i, i < n → ∃ cs, w.heap[bl i]? = some (.cells cs 89 (0, 0)) ∧ cs.size = 10

theorem NodesAt.kept {bl : Nat → Nat} {n : Nat} {w w' : World} (h : NodesAt bl n w) (hb : Below w.heap.size w w') : NodesAt bl n w' := by
  refine ⟨h.inj, fun i hi => Nat.lt_of_lt_of_le (h.lt i hi) hb.size, fun i hi => ?_⟩
  obtain ⟨cs, h1, h2⟩ := h.blk i hi
  exact ⟨cs, (hb.block _ (h.lt i hi)).trans h1, h2⟩

theorem Tree.nodes {t : List Nd} {w : World} {B L : Nat} {bl : Nat → Nat} {st : Nat → Dn} (h : Tree t w B L bl st) : NodesAt bl t.length w := by
  refine ⟨fun i j hi hj e => h.dom.inj i j hi hj e, fun i hi => ?_, fun i hi => ?_⟩
  · obtain ⟨q1, aa, ac, q2, q3⟩ := h.dom.node i hi
    exact (Array.getElem?_eq_some_iff.1 q2).1
  · obtain ⟨q1, aa, ac, q2, q3⟩ := h.dom.node i hi
    exact ⟨_, q2, rfl⟩

def DupPost (bl : Nat → Nat) (ns : List Nat) (w : World) (e : Ending) (w' : World) : Prop :=
  ∃ a c, e = .returned (.slice a ns.length c) ∧ w'.ownsRow w.heap.size 69 1 (.slice a ns.length c) ns.length (ptrs bl ns) ∧ Below w.heap.size w w'

def DupRel (bl : Nat → Nat) (ns : List Nat) (w : World) (v x : Value) (wr : World) : Prop :=
  ∃ k a c, k ≤ ns.length ∧ x = .int .i64 (k : Nat) ∧ v = .slice a k c ∧ wr.ownsRow w.heap.size 69 1 (.slice a k c) k (ptrs bl (ns.take k)) ∧ Below w.heap.size w wr

set_option maxRecDepth 100000 in
set_option maxHeartbeats 2000000 in
theorem dup_any (bl : Nat → Nat) (n : Nat) (ns : List Nat) (hns : ∀ k ∈ ns, k < n) (hnd : ns.Nodup) (hlen : ns.length ≤ 200) (a : Option Addr) (c : Nat) (w : World) (h : RSl w w.heap.size a (ptrs bl ns)) (hN : NodesAt bl n w) :
    Calls Try.prog 81 #[.slice none 0 0, .slice a ns.length c, .map none] w (DupPost bl ns w) := by
  have HH := Lib.hid h
  have HNs := Lib.hid hns
  have HNd := Lib.hid hnd
  have HN := Lib.hid hN
  obtain ⟨i0, hinf, hz0, hz1, hz2⟩ := info_parts Try.infoP
  have qm : ∀ w : World, (binOp .eql 140 (.map none) (.map none)).run Try.prog w = .ok (.bool true) w := fun w => run_eql_map_nil w _ _ _ none Try.underlying140
  have d0 : decide ((ns.length : Int) < 1000) = true := decide_eq_true (by omega)
  have e0 : IntKind.i64.wrap ((ns.length : Int)) = (ns.length : Int) := IntWalk.i64_in _ ⟨by omega, by omega⟩
  clear h hns hnd hN
  go_enter Try.func81, Try.ntmps81
  go_wp2_with fail
  go_loopw [0, 25] (fun v x wr => DupRel bl ns w v x wr) (fun _ x _ => ns.length - (intOf x).toNat)
  case atStart => exact ⟨0, none, 0, by omega, rfl, rfl, World.ownsRow_nil _ _ _ _, Below.refl _ _⟩
  case round =>
    obtain ⟨k, a1, c1, hk, rfl, rfl, hown, hb⟩ := hrel
    by_cases hlt : k < ns.length
    · obtain ⟨b, o, rfl, hbB, hc⟩ := HH.out.at_ (by rw [ptrs_length]; omega)
      have g1 := hc k (by rw [ptrs_length]; exact hlt)
      rw [ptrs_at hlt] at g1
      replace g1 := (hb.cell (p := ⟨b, _, none⟩) hbB).trans g1
      have hi := HNs.out ns[k] (List.getElem_mem hlt)
      have hno : ns[k] ∉ ns.take k := by
        intro hm
        obtain ⟨j, hj, he⟩ := List.getElem_of_mem hm
        rw [List.getElem_take] at he
        have hj2 : j < k := by simp at hj; omega
        have := (List.getElem_inj HNd.out).1 he
        omega
      obtain ⟨j, hj⟩ : ∃ j, j = ns[k] := ⟨_, rfl⟩
      rw [← hj] at g1 hi hno
      have HJ : Hid (ns.take (k + 1) = ns.take k ++ [j]) := by
        rw [Hid, List.take_succ_eq_append_getElem hlt, hj]
      have hkl : (ns.take k).length = k := by simp; omega
      have HIn : Hid (Calls Try.prog 110 #[.slice a1 k c1, .pointer (some ⟨bl j, 0, none⟩)] wr fun e w' => e = .returned (.bool false) ∧ wr = w') := by
        have HN2 := HN.out.kept hb
        obtain ⟨a2, c2, hv, _, hrs⟩ := RSl.own hown
        cases hv
        have := isIn_any bl n HN2.inj (ns.take k) (fun x hx => HNs.out x (List.mem_of_mem_take hx)) (by omega) j hi a1 c1 wr hrs HN2.blk
        rw [hkl] at this
        refine this.mono ?_
        rintro e w1 ⟨rfl, rfl⟩
        exact ⟨ret_b (by simp [hno]), rfl⟩
      have HW := Lib.hid hown
      have hsz := hb.size
      clear hc hj hown hno
      go_wp2_with fail
      refine HIn.out.mono ?_
      rintro e w1 ⟨rfl, rfl⟩
      go_wp2_with (at_builtin; refine wpList_append_own _ rfl _ _ 60 rfl w.heap.size 69 i0 (.pointer none) 1 8 Try.underlying60 hinf hz0 hz1 hz2 rfl (by decide) _ _ _ rfl (HW.out.alloc _) ⟨wr.heap.size, 0, none⟩ 1 1 [.pointer (some ⟨bl j, 0, none⟩)] rfl rfl ?c1 ?c2 ?c3 ?c4 ?c5 ?_)
      case c1 =>
        intro q u hq
        match q, hq with
        | 0, hq => simp at hq; subst hq; simp [Addr.add]
      case c2 => intro u hu; simp at hu; subst hu; rfl
      case c3 => unfold maxLen; omega
      case c4 => omega
      case c5 => simp; omega
      · intro v' w1 hown' hgrow _
        obtain ⟨a2, c2, hv2⟩ := own_slice hown'
        rw [hv2] at hown' ⊢
        have hb1 : Below w.heap.size w w1 := (hb.alloc hb.size _).grown hgrow (by simp; omega) (fun q hq => (HW.out.lt q hq).1)
        have HO1 : Hid (w1.ownsRow w.heap.size 69 1 (.slice a2 (k + 1) c2) (k + 1) (ptrs bl (ns.take (k + 1)))) := by
          rw [Hid, HJ.out, ptrs_snoc]; exact hown'
        clear hown' hgrow hv2
        go_wp2_with fail
        go_roundw
        case rel => exact ⟨k + 1, a2, c2, by omega, by go_num, rfl, HO1.out, hb1⟩
        case measure => simp [intOf]; omega
    · go_wp2_with fail
      go_ret
      have e : k = ns.length := by omega
      subst e
      rw [List.take_length] at hown
      exact ⟨a1, c1, rfl, hown, hb⟩

def PushPost (w : World) (gs : Nat) (doc : Option Addr) (a : Option Addr) (n c : Nat) (e : Ending) (w' : World) : Prop :=
  e = .returned (.pointer (some ⟨w.heap.size, 0, none⟩)) ∧ SelB w' w.heap.size a n c doc (some ⟨gs, 0, none⟩) ∧ Below w.heap.size w w'

set_option maxRecDepth 100000 in
set_option maxHeartbeats 1000000 in
theorem push_any (gs : Nat) (a0 : Option Addr) (n0 c0 : Nat) (doc prev : Option Addr) (a : Option Addr) (n c : Nat) (w : World) (h : SelB w gs a0 n0 c0 doc prev) :
    Calls Try.prog 53 #[.pointer (some ⟨gs, 0, none⟩), .slice a n c] w (PushPost w gs doc a n c) := by
  obtain ⟨c0, c1, c2⟩ := h.cells
  clear h
  go_enter Try.func53, Try.ntmps53
  go_wp2_with (first | go_in | fail)
  go_ret
  exact ⟨rfl, heap_alloc_new w _, (Below.refl _ _).alloc (Nat.le_refl _) _⟩

/-- A selection of the nodes at ns. -/
def SelOf (bl : Nat → Nat) (ns : List Nat) (B g : Nat) (doc : Option Addr) (w : World) : Prop :=
  ∃ a c prev, SelB w g a ns.length c doc prev ∧ B ≤ g ∧ w.ownsRow B 69 1 (.slice a ns.length c) ns.length (ptrs bl ns) ∧ (∃ gs, prev = some ⟨gs, 0, none⟩)

def AddPost (bl : Nat → Nat) (ns : List Nat) (doc : Option Addr) (w : World) (e : Ending) (w' : World) : Prop :=
  ∃ g, e = .returned (.pointer (some ⟨g, 0, none⟩)) ∧ SelOf bl ns w.heap.size g doc w' ∧ Below w.heap.size w w'

set_option maxRecDepth 100000 in
set_option maxHeartbeats 1000000 in
theorem addNodes_any (bl : Nat → Nat) (n : Nat) (ns : List Nat) (hns : ∀ k ∈ ns, k < n) (hnd : ns.Nodup) (hlen : ns.length ≤ 200) (a : Option Addr) (c : Nat) (gs : Nat) (doc prev : Option Addr) (w : World) (h : RSl w w.heap.size a (ptrs bl ns)) (hN : NodesAt bl n w) (hs : SelB w gs none 0 0 doc prev) :
    Calls Try.prog 51 #[.pointer (some ⟨gs, 0, none⟩), .slice a ns.length c] w (AddPost bl ns doc w) := by
  have HD := Lib.hid (dup_any bl n ns hns hnd hlen a c w h hN)
  obtain ⟨c0, c1, c2⟩ := hs.cells
  have HS := Lib.hid hs
  clear h hns hnd hN hs
  go_enter Try.func51, Try.ntmps51
  go_wp2_with fail
  refine HD.out.mono ?_
  rintro e w1 ⟨a1, c3, rfl, hown, hb⟩
  have HO := Lib.hid hown
  have HB := Lib.hid hb
  clear hown hb
  go_wp2_with fail
  refine (push_any gs none 0 0 doc prev a1 ns.length c3 w1 (HS.out.below HB.out HS.out.lt)).mono ?_
  rintro e w2 ⟨rfl, hs2, hb2⟩
  have HS2 := Lib.hid hs2
  have HB2 := Lib.hid hb2
  clear hs2 hb2
  go_wp2_with fail
  go_ret
  refine ⟨_, rfl, ⟨a1, c3, _, HS2.out, HB.out.size, own_kept HO.out (fun b _ hb => HB2.out.block b hb), _, rfl⟩, bnext HB.out HB2.out⟩
end Go.Proofs.Ytmhhfljbocbolaa
