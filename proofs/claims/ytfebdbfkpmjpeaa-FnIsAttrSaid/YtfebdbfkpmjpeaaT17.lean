/- FnIsInput: the program's side, and the law's walk. -/
import Derived.Test.YtfebdbfkpmjpeaaT16
namespace Go.Proofs.Ytfebdbfkpmjpeaa
open Go.RowKit
set_option linter.unusedVariables false

theorem isForm_eq (d : ByteArray) : isForm d = (d.toList == [105, 110, 112, 117, 116] || d.toList == [115, 101, 108, 101, 99, 116] || d.toList == [116, 101, 120, 116, 97, 114, 101, 97] || d.toList == [98, 117, 116, 116, 111, 110]) := by
  have e1 : (⟨#[105, 110, 112, 117, 116]⟩ : ByteArray).toList = [105, 110, 112, 117, 116] := by rw [ByteArray.toList_eq]
  have e2 : (⟨#[115, 101, 108, 101, 99, 116]⟩ : ByteArray).toList = [115, 101, 108, 101, 99, 116] := by rw [ByteArray.toList_eq]
  have e3 : (⟨#[116, 101, 120, 116, 97, 114, 101, 97]⟩ : ByteArray).toList = [116, 101, 120, 116, 97, 114, 101, 97] := by rw [ByteArray.toList_eq]
  have e4 : (⟨#[98, 117, 116, 116, 111, 110]⟩ : ByteArray).toList = [98, 117, 116, 116, 111, 110] := by rw [ByteArray.toList_eq]
  have sw : ∀ l : List UInt8, (l == d.toList) = (d.toList == l) := fun l => by rw [Bool.eq_iff_iff]; simp; exact eq_comm
  simp only [isForm, formNames, List.any_cons, List.any_nil, e1, e2, e3, e4, sw, Bool.or_false, Bool.or_assoc]

set_option maxRecDepth 100000 in
set_option maxHeartbeats 2000000 in
theorem inputMatch (g : Nat) (d : ByteArray) (w : World) (h5 : w.cell? ⟨g, 5, none⟩ = some (.int .u32 3)) (h7 : w.cell? ⟨g, 7, none⟩ = some (.string d)) (hg : g < w.heap.size) :
    Calls Try.prog 85 #[.pointer (some ⟨g, 0, none⟩)] w fun e w' => e = .returned (.bool (isForm d)) ∧ Below w.heap.size w w' := by
  go_enter Try.func85, Try.ntmps85
  go_wp2_with (first | go_in | fail)
  all_goals
    go_ret
    refine ⟨ret_b ?_, (Below.refl _ _).alloc (Nat.le_refl _) _⟩
    rw [isForm_eq]
    all_goals simp_all

/-- What a node of a tree holds, for an element. -/
theorem Tree.elem {t : List Nd} {w : World} {B L : Nat} {bl : Nat → Nat} {st : Nat → Dn} (h : Tree t w B L bl st) (i : Nat) (hi : i < t.length) (hk : t[i].kind = 3) :
    w.cell? ⟨bl i, 5, none⟩ = some (.int .u32 3) ∧ w.cell? ⟨bl i, 7, none⟩ = some (.string t[i].tag) ∧ bl i < w.heap.size := by
  obtain ⟨_, _, _, _, _, _, h5, h7, _⟩ := h.dom.cells hi
  have hs := (h.kin i hi).2
  refine ⟨?_, ?_, h.dom.lt hi⟩
  · rw [h5, hs.typ, hk]; rfl
  · rw [h7, hs.dat]
    simp [datOf, hk]

set_option maxRecDepth 100000 in
set_option maxHeartbeats 2000000 in
theorem iIsInput (ad : Option Addr) (c : Nat) (t : List Nd) (hR : RightP t) (i : Nat) (hi : i < t.length) (hk : t[i].kind = 3) (w : World) (h : NSl w w.heap.size ad t) :
    Calls Try.prog 23 #[.slice ad t.length c, .int .i64 i] w fun e w' => e = .returned (.tuple #[.bool (isForm t[i].tag), .bool true]) ∧ Below w.heap.size w w' := by
  have hle := hR.le
  go_enter Try.func23, Try.ntmps23
  go_wp2_with fail
  refine (grown_any _ c t _ h hR).mono ?_
  rintro e w1 ⟨L, bl, st, rfl, hb1, hL, hT⟩
  have hcell := hT.cell i hi
  obtain ⟨h5, h7, hlt⟩ := hT.elem i hi hk
  have HM := Lib.hid (inputMatch (bl i) t[i].tag w1 h5 h7 hlt)
  have HB := Lib.hid hb1
  clear h5 h7 hT hb1 h hR hk
  go_wp2_with fail
  refine HM.out.mono ?_
  rintro e w2 ⟨rfl, hb2⟩
  have HB2 := Lib.hid hb2
  clear hb2
  go_wp2_with fail
  go_ret2
  exact ⟨rfl, bnext HB.out HB2.out⟩

set_option maxRecDepth 100000 in
set_option maxHeartbeats 2000000 in
theorem FnIsInput_walk (ad : Option Addr) (len c : Nat) (t : List Nd) (I : Int) (w : World) (h : NSl w w.heap.size ad t ∧ len = t.length) (_hI : (Lit.int .i64 I).wf = true) :
    Calls Try.prog 3 #[.slice ad len c, .int .i64 I] w fun e w' => e = .returned (.bool true) ∧ Below w.heap.size w w' := by
  obtain ⟨h, rfl⟩ := h
  have HH := Lib.hid h
  clear h
  go_enter Try.func3, Try.ntmps3
  go_wp2_with fail
  refine (zzFits1_any _ _ t _ HH.out).mono ?_
  rintro e w1 ⟨rfl, hb1⟩
  have HB1 := Lib.hid hb1
  clear hb1
  cases hf : fits1 t
  · go_wp2_with fail
    go_ret
    exact ⟨rfl, HB1.out⟩
  · go_wp2_with fail
    refine (lalone_any (fun i m => m = truthI (isForm (t.getD i default).tag)) _ c t hf I ⟨10, 0, ⟨#[]⟩, ⟨#[]⟩, 0, 0, 0, 0⟩ ⟨rfl, rfl, rfl, rfl, rfl, rfl⟩ rfl _ (HH.out.up HB1.out) (fun W => rs10 W) (fun i _ hi _ W hW => simple10 _ c t i hi W hW)).mono ?_
    rintro e w2 ⟨want, sure, rfl, hb2, hs⟩
    have HB2 := Lib.hid (bnext HB1.out hb2)
    have HS := Lib.hid hs
    clear hb2 hs
    cases sure
    · go_wp2_with fail
      go_ret
      exact ⟨rfl, HB2.out⟩
    · obtain ⟨hR, i, m, rfl, ⟨hi, hk⟩, hm, hm2, hw⟩ := HS.out rfl
      rw [getD_at hi] at hm
      subst hm
      have hw2 : want = isForm t[i].tag := by rw [hw]; cases isForm t[i].tag <;> rfl
      have HW := Lib.hid hw2
      clear hw hw2 hm2
      go_wp2_with fail
      refine (iIsInput _ c t hR i hi hk _ (HH.out.up HB2.out)).mono ?_
      rintro e w3 ⟨rfl, hb3⟩
      have HB3 := Lib.hid (bnext HB2.out hb3)
      clear hb3 hR hk
      rw [← HW.out]
      go_wp2_with fail
      go_ret
      exact ⟨by simp, HB3.out⟩
end Go.Proofs.Ytfebdbfkpmjpeaa
