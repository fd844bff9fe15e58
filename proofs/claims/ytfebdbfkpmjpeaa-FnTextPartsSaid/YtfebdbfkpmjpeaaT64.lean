/- The text of a selection: Text, and impl.TextOf. -/
import Derived.Test.YtfebdbfkpmjpeaaT63
import Derived.Test.YtfebdbfkpmjpeaaT43
import Derived.Test.YtfebdbfkpmjpeaaShelf
namespace Go.Proofs.Ytfebdbfkpmjpeaa
open Go.RowKit
set_option linter.unusedVariables false

/-- A text, out of its bytes. -/
def strV (l : List UInt8) : Value := .string ⟨l.toArray⟩

theorem new_one (w : World) (o : Obj) : (w.alloc o).heap[w.heap.size]? = some o := by
  show (w.heap.push o)[w.heap.size]? = _
  simp

def TextRel (t : List Nd) (b : Nat) (ns : List Nat) (w : World) (x : Value) (wr : World) : Prop :=
  ∃ k : Nat, k ≤ ns.length ∧ x = .int .i64 (k : Nat) ∧ Lib.IsBuilderF 181 5 w.heap.size b (Lib.byteCells ((ns.take k).flatMap (txt t))) wr ∧ Below w.heap.size w wr

set_option maxRecDepth 100000 in
set_option maxHeartbeats 4000000 in
theorem text_any (t : List Nd) (hR : RightP t) (B0 L : Nat) (bl : Nat → Nat) (st : Nat → Dn) (w : World) (hT : Tree t w B0 L bl st) (B g : Nat) (doc : Option Addr) (ns : List Nat) (hns : ∀ i ∈ ns, i < t.length) (hlen : ns.length ≤ 400) (hs : SelOf bl ns B g doc w) :
    Calls Try.prog 106 #[.pointer (some ⟨g, 0, none⟩)] w fun e w' => e = .returned (strV (ns.flatMap (txt t))) ∧ Below w.heap.size w w' := by
  obtain ⟨a, c, prev, hs1, hB, hown, hd⟩ := hs
  have hrs : RSl w w.heap.size a (ptrs bl ns) := by
    obtain ⟨a1, c1, hv, _, hrs⟩ := RSl.own hown
    cases hv
    exact hrs
  have hgl := hs1.lt
  have s0 := hs1.cells.1
  have HHelp := Lib.hid (helper_any t hR B0 L bl st w hT w.heap.size (.pointer (some ⟨g, 0, none⟩)))
  have HRs := Lib.hid hrs
  have HNs := Lib.hid hns
  have HFl := Lib.hid (flat_txt_len hR ns hns)
  clear hs1 hown hd hrs hT hns
  go_enter Try.func106, Try.ntmps106
  go_wp2_with fail
  go_loopw [11] (fun x wr => TextRel t w.heap.size ns w x wr) (fun x _ => ns.length - (intOf x).toNat)
  case atStart => exact ⟨0, Nat.zero_le _, rfl, .inl (Lib.BuilderAtF.of ⟨Nat.le_refl _, .slice none 0 0, new_one _ _, World.ownsRow_nil _ _ _ _, by simp [Value.ownBlock]⟩), (Below.refl _ _).alloc (Nat.le_refl _) _⟩
  case round =>
    obtain ⟨k, hk, rfl, hI, hb⟩ := hrel
    have HI := Lib.hid hI
    have HB := Lib.hid hb
    have hsz := hb.size
    clear hI hb
    by_cases hlt : k < ns.length
    · obtain ⟨bk, o, rfl, hbB, hc⟩ := HRs.out.at_ (by rw [ptrs_length]; omega)
      have g1 := (HB.out.cell (p := ⟨bk, o + k, none⟩) hbB).trans (hc k (by rw [ptrs_length]; exact hlt))
      rw [ptrs_at hlt] at g1
      have g0 := (HB.out.cell (p := ⟨g, 0, none⟩) hgl).trans s0
      have HL : Hid (((ns.take k).flatMap (txt t)).length ≤ 800000 * 400) := by
        have h1 := flat_txt_len hR (ns.take k) (fun i hi => HNs.out i (List.take_subset _ _ hi))
        rw [List.length_take] at h1
        rw [Hid]; omega
      have hmem := HNs.out ns[k] (List.getElem_mem hlt)
      have HC := Lib.hid (HHelp.out (sz t ns[k]) ns[k] ((ns.take k).flatMap (txt t)) wr hmem (Nat.le_refl _) HB.out HI.out (by have := HL.out; have := txt_len hR hmem; omega))
      have HAcc : Hid ((ns.take k).flatMap (txt t) ++ txt t ns[k] = (ns.take (k + 1)).flatMap (txt t)) := by
        rw [Hid, List.take_succ_eq_append_getElem hlt]
        simp only [List.flatMap_append, List.flatMap_cons, List.flatMap_nil, List.append_nil]
      rw [HAcc.out] at HC
      obtain ⟨q, hq⟩ : ∃ q, q = ns[k] := ⟨_, rfl⟩
      rw [← hq] at g1 HC
      clear hc hmem hq HAcc
      go_wp2_with fail
      refine HC.out.mono ?_
      rintro e w1 ⟨rfl, hI1, hb1⟩
      have HI1 := Lib.hid hI1
      have HB1 := Lib.hid hb1
      clear hI1 hb1
      go_wp2_with fail
      go_roundw
      case rel => exact ⟨k + 1, by omega, by go_num, HI1.out, HB1.out⟩
      case measure => simp [intOf]; omega
    · have e : k = ns.length := by omega
      subst e
      rw [List.take_length] at HI
      go_wp2_with fail
      refine (Try.Builder_String_any_k w.heap.size w.heap.size (ns.flatMap (txt t)) wr HI.out hsz).mono ?_
      rintro e w1 ⟨rfl, _, hb1, _⟩
      have HB1 := Lib.hid hb1
      clear hb1
      go_wp2_with fail
      go_ret
      exact ⟨rfl, HB.out.trans HB1.out⟩

set_option maxRecDepth 100000 in
set_option maxHeartbeats 2000000 in
theorem textOf_any (a : Option Addr) (c : Nat) (t : List Nd) (hR : RightP t) (ad : Option Addr) (c2 : Nat) (l : List Int) (ns : List Nat) (ho : OrdP t.length l ns) (hl : l.length ≤ 2147483647) (w : World) (h : NSl w w.heap.size a t) (hi : ISl w w.heap.size ad l) :
    Calls Try.prog 44 #[.slice a t.length c, .slice ad l.length c2] w fun e w' => e = .returned (.tuple #[strV (ns.flatMap (txt t)), .bool true]) ∧ Below w.heap.size w w' := by
  have HC := Lib.hid (chosen_any a c t hR ad c2 l ns ho hl w h hi)
  have HR := Lib.hid hR
  have HO := Lib.hid ho
  have hnl := ho.len
  have hle := hR.le
  have HNL := Lib.hid (show ns.length ≤ 200 by omega)
  clear hR ho h hi hnl hl
  go_enter Try.func44, Try.ntmps44
  go_wp2_with fail
  refine HC.out.mono ?_
  rintro e w1 ⟨L, bl, st, g, doc, rfl, hL, hT, hsel, hb1⟩
  have HT := Lib.hid hT
  have HSel := Lib.hid hsel
  have HB1 := Lib.hid hb1
  clear hT hsel hb1
  go_wp2_with fail
  refine (text_any t HR.out _ L bl st w1 HT.out _ g doc ns HO.out.lt (by have := HNL.out; omega) HSel.out).mono ?_
  rintro e w2 ⟨rfl, hb2⟩
  have HB2 := Lib.hid hb2
  clear hb2
  go_wp2_with fail
  go_ret2
  exact ⟨rfl, bnext HB1.out HB2.out⟩
end Go.Proofs.Ytfebdbfkpmjpeaa
