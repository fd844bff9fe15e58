/- Selections: the nodes at some places, and how they come into a selection. -/
import Derived.Test.YtmhhfljbocbolaaT20
namespace Go.Proofs.Ytmhhfljbocbolaa
open Go.RowKit
set_option linter.unusedVariables false

/-- Pointers to nodes. -/
def ptrs (bl : Nat → Nat) (ns : List Nat) : List Value := ns.map fun i => Value.pointer (some ⟨bl i, 0, none⟩)
theorem ptrs_length (bl : Nat → Nat) (ns : List Nat) : (ptrs bl ns).length = ns.length := by simp [ptrs]
theorem ptrs_at {bl : Nat → Nat} {ns : List Nat} {i : Nat} (h : i < ns.length) : (ptrs bl ns)[i]'(by rw [ptrs_length]; exact h) = .pointer (some ⟨bl ns[i], 0, none⟩) := by simp [ptrs]
theorem ptrs_snoc (bl : Nat → Nat) (ns : List Nat) (i : Nat) : ptrs bl (ns ++ [i]) = ptrs bl ns ++ [.pointer (some ⟨bl i, 0, none⟩)] := by simp [ptrs]

def ThesePost (bl : Nat → Nat) (ns : List Nat) (w : World) (e : Ending) (w' : World) : Prop :=
  ∃ a c, e = .returned (.tuple #[.slice a ns.length c, .bool true]) ∧ w'.ownsRow w.heap.size 69 1 (.slice a ns.length c) ns.length (ptrs bl ns) ∧ Below w.heap.size w w'

def TheseRel (L : Nat) (bl : Nat → Nat) (ns : List Nat) (w : World) (v x : Value) (wr : World) : Prop :=
  ∃ k a c, k ≤ ns.length ∧ x = .int .i64 (k : Nat) ∧ v = .slice a k c ∧ wr.ownsRow w.heap.size 69 1 (.slice a k c) k (ptrs bl (ns.take k)) ∧ Below w.heap.size w wr

set_option maxRecDepth 100000 in
set_option maxHeartbeats 2000000 in
theorem these_any (t : List Nd) (ht : t.length ≤ 200) (B L : Nat) (bl : Nat → Nat) (st : Nat → Dn) (ad : Option Addr) (c : Nat) (l : List Int) (ns : List Nat) (ho : OrdP t.length l ns) (hl : l.length ≤ 2147483647) (w : World) (hL : L < w.heap.size) (hT : Tree t w B L bl st) (h : ISl w w.heap.size ad l) :
    Calls Try.prog 38 #[.slice (some ⟨L, 0, none⟩) t.length t.length, .slice ad l.length c] w (ThesePost bl ns w) := by
  have hlen : l.length = ns.length := by rw [ho.eq]; simp
  have HO := Lib.hid ho
  have HT := Lib.hid hT
  have HH := Lib.hid h
  obtain ⟨i0, hinf, hz0, hz1, hz2⟩ := info_parts Try.infoP
  rw [hlen] at hl ⊢
  have HLen := Lib.hid hlen
  clear ho hT h hlen
  go_enter Try.func38, Try.ntmps38
  go_wp2_with fail
  go_loopw [6, 11] (fun v x wr => TheseRel L bl ns w v x wr) (fun _ x _ => ns.length - (intOf x).toNat)
  case atStart => exact ⟨0, none, 0, by omega, rfl, rfl, World.ownsRow_nil _ _ _ _, Below.refl _ _⟩
  case round =>
    obtain ⟨k, a, c1, hk, rfl, rfl, hown, hb⟩ := hrel
    by_cases hlt : k < ns.length
    · obtain ⟨b, o, rfl, hbB, hc⟩ := HH.out.at_ (by rw [HLen.out]; omega)
      have g1 := hc k (by rw [HLen.out]; exact hlt)
      have hx : l[k]'(by rw [HLen.out]; exact hlt) = (ns[k] : Int) := by
        have := HO.out.eq
        subst this
        simp
      rw [hx] at g1
      replace g1 := (hb.cell (p := ⟨b, _, none⟩) hbB).trans g1
      have hi := HO.out.lt ns[k] (List.getElem_mem hlt)
      have g2 := (hb.cell (p := ⟨L, ns[k], none⟩) hL).trans (HT.out.cell ns[k] hi)
      obtain ⟨j, hj⟩ : ∃ j, j = ns[k] := ⟨_, rfl⟩
      rw [← hj] at g1 g2 hi
      have HJ : Hid (ns.take (k + 1) = ns.take k ++ [j]) := by
        rw [Hid, List.take_succ_eq_append_getElem hlt, hj]
      have HW := Lib.hid hown
      have hsz := hb.size
      clear hc hx hj hown
      go_wp2_with (at_builtin; refine wpList_append_own _ rfl _ _ 60 rfl w.heap.size 69 i0 (.pointer none) 1 8 Try.underlying60 hinf hz0 hz1 hz2 rfl (by decide) _ _ _ rfl (HW.out.alloc _) ⟨wr.heap.size, 0, none⟩ 1 1 [.pointer (some ⟨bl j, 0, none⟩)] rfl rfl ?c1 ?c2 ?c3 ?c4 ?c5 ?_)
      case c1 =>
        intro q u hq
        match q, hq with
        | 0, hq => simp at hq; subst hq; simp [Addr.add]
      case c2 => intro u hu; simp at hu; subst hu; rfl
      case c3 => unfold maxLen; omega
      case c4 => omega
      case c5 => simp; omega
      · intro v' w1 hown' hgrow _
        obtain ⟨a2, c2, hv2⟩ := own_slice hown'
        rw [hv2] at hown' ⊢
        have hb1 : Below w.heap.size w w1 := (hb.alloc hb.size _).grown hgrow (by simp; omega) (fun q hq => (HW.out.lt q hq).1)
        have HO1 : Hid (w1.ownsRow w.heap.size 69 1 (.slice a2 (k + 1) c2) (k + 1) (ptrs bl (ns.take (k + 1)))) := by
          rw [Hid, HJ.out, ptrs_snoc]; exact hown'
        clear hown' hgrow hv2
        go_wp2_with fail
        go_roundw
        case rel => exact ⟨k + 1, a2, c2, by omega, by go_num, rfl, HO1.out, hb1⟩
        case measure => simp [intOf]; omega
    · go_wp2_with fail
      go_ret2
      have e : k = ns.length := by omega
      subst e
      rw [List.take_length] at hown
      exact ⟨a, c1, rfl, hown, hb⟩
end Go.Proofs.Ytmhhfljbocbolaa
