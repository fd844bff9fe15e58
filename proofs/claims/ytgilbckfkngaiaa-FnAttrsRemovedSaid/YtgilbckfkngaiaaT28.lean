/- A selection's attribute: Attr, AttrOr. -/
import Derived.Test.YtgilbckfkngaiaaT27
namespace Go.Proofs.Ytgilbckfkngaiaa
open Go.RowKit
set_option linter.unusedVariables false

/-- The attribute of a selection's first node. -/
def headA (t : List Nd) (ns : List Nat) (k : ByteArray) : Option At2 := match ns with | [] => none | i :: _ => findA (atsOf (t.getD i default)) k
def valA (o : Option At2) : ByteArray := match o with | some x => x.val | none => ⟨#[]⟩

set_option maxRecDepth 100000 in
set_option maxHeartbeats 1000000 in
theorem selAttr_any (t : List Nd) (B0 B L : Nat) (bl : Nat → Nat) (st : Nat → Dn) (ns : List Nat) (hns : ∀ i ∈ ns, i < t.length) (g : Nat) (doc : Option Addr) (k : ByteArray) (w : World) (hs : SelOf bl ns B g doc w) (hT : Tree t w B0 L bl st) (hats : ∀ i (h : i < t.length), (atsOf t[i]).length ≤ 2147483647) :
    Calls Try.prog 74 #[.pointer (some ⟨g, 0, none⟩), .string k] w fun e w' => e = .returned (.tuple #[.string (valA (headA t ns k)), .bool (headA t ns k).isSome]) ∧ Below w.heap.size w w' := by
  obtain ⟨a, c, prev, hsel, hB, hown, _⟩ := hs
  obtain ⟨c0, _, _⟩ := hsel.cells
  rcases ns with _ | ⟨i, ms⟩
  · simp only [List.length_nil] at c0
    clear hsel hown
    go_enter Try.func74, Try.ntmps74
    go_wp2_with fail
    go_ret2
    exact ⟨rfl, Below.refl _ _⟩
  · have hi := hns i (by simp)
    obtain ⟨_, _, hv, _, hrs⟩ := RSl.own hown
    cases hv
    obtain ⟨b, o, rfl, hb, hc⟩ := hrs.at_ (by simp [ptrs])
    have p0 := hc 0 (by simp [ptrs])
    rw [ptrs_at (by simp)] at p0
    simp only [List.getElem_cons_zero, Nat.add_zero] at p0
    obtain ⟨_, aa, ac, hblk, hrow⟩ := hT.dom.node i hi
    have hat := (hT.kin i hi).2.ats
    have h9 : w.cell? ⟨bl i, 9, none⟩ = some (.slice aa (st i).ats.length ac) := by
      rw [cell_of_row w _ _ _ _ _ hblk]; rfl
    rw [hat] at h9 hrow
    have HP := Lib.hid (attrPtr_any (bl i) B0 #[] (atsOf t[i]) aa ac k w h9 (hats i hi) (Array.getElem?_eq_some_iff.1 hblk).1 hrow)
    have HF : Hid (headA t (i :: ms) k = findA (atsOf t[i]) k) := by
      rw [Hid, headA, getD_at hi]
    clear hsel hown hc hblk hrow h9 hat hrs hT
    have z0 : (((ms.length + 1 : Nat) : Int) == 0) = false := beq_eq_false_iff_ne.2 (by omega)
    go_enter Try.func74, Try.ntmps74
    go_wp2_with fail
    refine HP.out.mono ?_
    rintro e w1 ⟨h1, hb1⟩
    have HB := Lib.hid hb1
    clear hb1
    cases hf : findA (atsOf t[i]) k with
    | none =>
      rw [hf] at h1
      dsimp only at h1
      subst h1
      go_wp2_with fail
      go_ret2
      refine ⟨?_, HB.out⟩
      rw [HF.out, hf]
      rfl
    | some x =>
      rw [hf] at h1
      obtain ⟨b1, o1, rfl, hx⟩ := h1
      go_wp2_with fail
      go_ret2
      refine ⟨?_, HB.out⟩
      rw [HF.out, hf]
      rfl
end Go.Proofs.Ytgilbckfkngaiaa
