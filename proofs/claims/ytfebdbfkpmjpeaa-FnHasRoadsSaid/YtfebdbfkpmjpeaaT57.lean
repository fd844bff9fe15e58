/- HasNodes; impl.HasOf. -/
import Derived.Test.YtfebdbfkpmjpeaaT56
namespace Go.Proofs.Ytfebdbfkpmjpeaa
open Go.RowKit
set_option linter.unusedVariables false

/-- The nodes that have one of the others beneath them. -/
def hasN (t : List Nd) (ns ms : List Nat) : List Nat := ns.filter fun i => ms.any fun j => und t i j
theorem hasN_snoc (t : List Nd) (ns ms : List Nat) (i : Nat) : hasN t (ns ++ [i]) ms = hasN t ns ms ++ if (ms.any fun j => und t i j) = true then [i] else [] := by
  unfold hasN
  rw [List.filter_append]
  congr 1
  simp only [List.filter_cons, List.filter_nil]
theorem hasN_len (t : List Nd) (ns ms : List Nat) : (hasN t ns ms).length ≤ ns.length := List.length_filter_le _ _
theorem hasN_mem {t : List Nd} {ns ms : List Nat} {k : Nat} (h : k ∈ hasN t ns ms) : k ∈ ns := (List.mem_filter.1 h).1

def HasRel (bl : Nat → Nat) (t : List Nd) (ns ms : List Nat) (w : World) (v x : Value) (wr : World) : Prop :=
  ∃ (k : Nat) (a : Option Addr) (c : Nat), k ≤ ns.length ∧ x = .int .i64 (k : Nat) ∧ v = .slice a (hasN t (ns.take k) ms).length c ∧
    wr.ownsRow w.heap.size 97 1 (.slice a (hasN t (ns.take k) ms).length c) (hasN t (ns.take k) ms).length (ptrs bl (hasN t (ns.take k) ms)) ∧ Below w.heap.size w wr

set_option maxRecDepth 100000 in
set_option maxHeartbeats 4000000 in
theorem hasNodes_any {t : List Nd} (hR : RightP t) {w : World} {B0 B L0 : Nat} {bl : Nat → Nat} {st : Nat → Dn} (hT : Tree t w B0 L0 bl st) (ns : List Nat) (hns : ∀ k ∈ ns, k < t.length) (hlen : ns.length ≤ 400) (ms : List Nat) (hms : ∀ k ∈ ms, k < t.length) (hlem : ms.length ≤ 400) (a2 : Option Addr) (c2 : Nat) (h2 : RSl w w.heap.size a2 (ptrs bl ms)) (g : Nat) (doc : Option Addr) (hs : SelOf bl ns B g doc w) :
    Calls Try.prog 124 #[.pointer (some ⟨g, 0, none⟩), .slice a2 ms.length c2] w (AddPost bl (hasN t ns ms) doc w) := by
  obtain ⟨i0, hinf, hz0, hz1, hz2⟩ := info_parts Try.infoP
  obtain ⟨a, c, prev, hs1, _, hown, _⟩ := hs
  have hrs : RSl w w.heap.size a (ptrs bl ns) := by
    obtain ⟨a1, c1, hv, _, hrs⟩ := RSl.own hown
    cases hv
    exact hrs
  obtain ⟨s0, _, _⟩ := hs1.cells
  have HS := Lib.hid hs1
  have HH := Lib.hid hrs
  have H2 := Lib.hid h2
  have HNs := Lib.hid hns
  have HMs := Lib.hid hms
  have HC : Hid (∀ W, Below w.heap.size w W → ∀ i j, i < t.length → j < t.length → Calls Try.prog 177 #[.pointer (some ⟨bl i, 0, none⟩), .pointer (some ⟨bl j, 0, none⟩)] W fun e w' => e = .returned (.bool (und t i j)) ∧ W = w') := fun W hW i j hi hj => contains_any hR (hT.kept hW) i j hi hj
  clear hs1 hown hrs h2 hT hR hns hms
  go_enter Try.func124, Try.ntmps124
  go_wp2_with fail
  go_loopw [5, 15] (fun v x wr => HasRel bl t ns ms w v x wr) (fun _ x _ => ns.length - (intOf x).toNat)
  case atStart => exact ⟨0, none, 0, by omega, rfl, rfl, World.ownsRow_nil _ _ _ _, Below.refl _ _⟩
  case round =>
    obtain ⟨k, a1, c1, hk, rfl, rfl, hown, hb⟩ := hrel
    by_cases hlt : k < ns.length
    · obtain ⟨b, o, rfl, hbB, hc⟩ := HH.out.at_ (by rw [ptrs_length]; omega)
      have g1 := hc k (by rw [ptrs_length]; exact hlt)
      rw [ptrs_at hlt] at g1
      replace g1 := (hb.cell (p := ⟨b, _, none⟩) hbB).trans g1
      have HIl := Lib.hid (HNs.out ns[k] (List.getElem_mem hlt))
      obtain ⟨i, hi⟩ : ∃ i, i = ns[k] := ⟨_, rfl⟩
      rw [← hi] at g1 HIl
      have HJ : Hid (hasN t (ns.take (k + 1)) ms = hasN t (ns.take k) ms ++ if (ms.any fun j => und t i j) = true then [i] else []) := by
        rw [Hid, List.take_succ_eq_append_getElem hlt, hi, hasN_snoc]
      have hle : (hasN t (ns.take k) ms).length ≤ 400 := by
        have := hasN_len t (ns.take k) ms
        simp at this; omega
      obtain ⟨L, hLL⟩ : ∃ L, L = hasN t (ns.take k) ms := ⟨_, rfl⟩
      rw [← hLL] at hown hle HJ ⊢
      have HW := Lib.hid hown
      have HB := Lib.hid hb
      have hsz := hb.size
      obtain ⟨r, hr⟩ : ∃ r, r = ms.any fun j => und t i j := ⟨_, rfl⟩
      rw [← hr] at HJ
      have HRr := Lib.hid hr
      clear hc hi hown hLL hr hb
      go_wp2_with fail
      go_loopw [5, 21] (fun v x w2 => ∃ k2 : Nat, k2 ≤ ms.length ∧ v = .slice a1 L.length c1 ∧ x = .int .i64 (k2 : Nat) ∧ Hid ((ms.take k2).any (fun j => und t i j) = false) ∧ wr = w2) (fun _ x _ => ms.length - (intOf x).toNat)
      case atStart => exact ⟨0, by omega, rfl, rfl, rfl, rfl⟩
      case round =>
        obtain ⟨k2, hk2, rfl, rfl, hno, rfl⟩ := hrel
        by_cases hlt2 : k2 < ms.length
        · obtain ⟨b3, o3, rfl, hbB3, hc3⟩ := (H2.out.up HB.out).at_ (by rw [ptrs_length]; omega)
          have g3 := hc3 k2 (by rw [ptrs_length]; exact hlt2)
          rw [ptrs_at hlt2] at g3
          have HCk := Lib.hid (HC.out wr HB.out i ms[k2] HIl.out (HMs.out _ (List.getElem_mem hlt2)))
          cases hu : und t i ms[k2]
          · have HN : Hid ((ms.take (k2 + 1)).any (fun j => und t i j) = false) := by
              rw [Hid, List.take_succ_eq_append_getElem hlt2, List.any_append, hno.out]; simp [hu]
            rw [hu] at HCk
            obtain ⟨q, hq⟩ : ∃ q, q = ms[k2] := ⟨_, rfl⟩
            rw [← hq] at g3 HCk
            clear hc3 hu hq
            go_wp2_with fail
            refine HCk.out.mono ?_
            rintro e w1 ⟨rfl, rfl⟩
            go_wp2_with fail
            go_roundw
            case rel => exact ⟨k2 + 1, by omega, rfl, by go_num, HN, by trivial⟩
            case measure => simp [intOf]; omega
          · have HE : Hid (hasN t (ns.take (k + 1)) ms = L ++ [i]) := by
              have e : r = true := by rw [HRr.out, List.any_eq_true]; exact ⟨_, List.getElem_mem hlt2, hu⟩
              rw [Hid, HJ.out, e]; simp
            rw [hu] at HCk
            obtain ⟨q, hq⟩ : ∃ q, q = ms[k2] := ⟨_, rfl⟩
            rw [← hq] at g3 HCk
            clear hc3 hu hq HJ
            go_wp2_with fail
            refine HCk.out.mono ?_
            rintro e w1 ⟨rfl, rfl⟩
            go_wp2_with (at_builtin; refine wpList_append_own _ rfl _ _ 93 rfl w.heap.size 97 i0 (.pointer none) 1 8 Try.underlying93 hinf hz0 hz1 hz2 rfl (by decide) _ _ _ rfl (HW.out.alloc _) ⟨wr.heap.size, 0, none⟩ 1 1 [.pointer (some ⟨bl i, 0, none⟩)] rfl rfl (cell_one_new _ _ _) (by intro u hu; simp at hu; subst hu; rfl) (by unfold maxLen; omega) (by omega) (by simp; omega) ?_)
            intro v' w3 hown' hgrow _
            obtain ⟨a3, c3, hv2⟩ := own_slice hown'
            rw [hv2] at hown' ⊢
            have hb1 : Below w.heap.size w w3 := (HB.out.alloc hsz _).grown hgrow (by simp; omega) (fun q hq => (HW.out.lt q hq).1)
            have HO1 : Hid (w3.ownsRow w.heap.size 97 1 (.slice a3 (L.length + 1) c3) (L.length + 1) (ptrs bl (L ++ [i]))) := by
              rw [Hid, ptrs_snoc]; exact hown'
            clear hown' hgrow hv2
            go_wp2_with fail
            go_roundw
            case rel => exact ⟨k + 1, a3, c3, by omega, by go_num, by rw [HE.out, List.length_append]; rfl, by rw [HE.out, List.length_append]; exact HO1.out, hb1⟩
            case measure => simp [intOf]; omega
        · have HE : Hid (hasN t (ns.take (k + 1)) ms = L) := by
            have e : k2 = ms.length := by omega
            have h := hno.out
            rw [e, List.take_length] at h
            have e2 : r = false := HRr.out.trans h
            rw [Hid, HJ.out, e2]; simp
          clear HJ
          go_wp2_with fail
          go_roundw
          case rel => exact ⟨k + 1, a1, c1, by omega, by go_num, by rw [HE.out], by rw [HE.out]; exact HW.out, HB.out⟩
          case measure => simp [intOf]; omega
    · have e : k = ns.length := by omega
      subst e
      rw [List.take_length] at hown ⊢
      have HO := Lib.hid hown
      have HB := Lib.hid hb
      clear hown hb
      go_wp2_with fail
      refine (push_any g a ns.length c doc prev a1 _ c1 wr (HS.out.below HB.out HS.out.lt)).mono ?_
      rintro e w2 ⟨rfl, hs2, hb2⟩
      have HS2 := Lib.hid hs2
      have HB2 := Lib.hid hb2
      clear hs2 hb2
      go_wp2_with fail
      go_ret
      exact ⟨_, rfl, ⟨a1, c1, _, HS2.out, HB.out.size, own_kept HO.out (fun b _ hb => HB2.out.block b hb), _, rfl⟩, bnext HB.out HB2.out⟩

set_option maxRecDepth 100000 in
set_option maxHeartbeats 2000000 in
theorem hasOf_any (a : Option Addr) (c : Nat) (t : List Nd) (hR : RightP t) (ad : Option Addr) (c2 : Nat) (l : List Int) (ns : List Nat) (ho : OrdP t.length l ns) (hl : l.length ≤ 2147483647) (ad3 : Option Addr) (c3 : Nat) (m : List Int) (ms : List Nat) (hom : OrdP t.length m ms) (hm : m.length ≤ 2147483647) (w : World) (h : NSl w w.heap.size a t) (hi : ISl w w.heap.size ad l) (hj : ISl w w.heap.size ad3 m) :
    Calls Try.prog 65 #[.slice a t.length c, .slice ad l.length c2, .slice ad3 m.length c3] w (ListPost (toI (hasN t ns ms)) w) := by
  have HC := Lib.hid (chosen_any a c t hR ad c2 l ns ho hl w h hi)
  have HR := Lib.hid hR
  have HO := Lib.hid ho
  have HM := Lib.hid hom
  have HJ := Lib.hid hj
  have hnl := ho.len
  have hml := hom.len
  have hle := hR.le
  have HMf := Lib.hid ((⟨Nat.le_trans (hasN_len t ns ms) ho.len, fun k hk => ho.lt k (hasN_mem hk)⟩ : (hasN t ns ms).length ≤ t.length ∧ ∀ k ∈ hasN t ns ms, k < t.length))
  have HNL := Lib.hid (show ns.length ≤ 200 by omega)
  have HML := Lib.hid (show ms.length ≤ 200 by omega)
  clear hR ho hom h hi hj hnl hml hl
  go_enter Try.func65, Try.ntmps65
  go_wp2_with fail
  refine HC.out.mono ?_
  rintro e w1 ⟨L, bl, st, g, doc, rfl, hL, hT, hsel, hb1⟩
  have HT := Lib.hid hT
  have HSel := Lib.hid hsel
  have HB1 := Lib.hid hb1
  clear hT hsel hb1
  go_wp2_with fail
  refine (these_any t hle _ L bl st ad3 c3 m ms HM.out hm w1 hL HT.out (HJ.out.up HB1.out)).mono ?_
  rintro e w2 ⟨a2, c4, rfl, hown, hb2⟩
  have HB2 := Lib.hid hb2
  have HT2 := Lib.hid (HT.out.kept hb2)
  have HSel2 := Lib.hid (HSel.out.kept hb2)
  have HRs : Hid (RSl w2 w2.heap.size a2 (ptrs bl ms)) := by
    obtain ⟨a1, c1, hv, _, hrs⟩ := RSl.own hown
    cases hv
    exact hrs
  have hL2 := Nat.lt_of_lt_of_le hL hb2.size
  clear hown hb2
  go_wp2_with fail
  refine (hasNodes_any HR.out HT2.out ns HO.out.lt (by have := HNL.out; omega) ms HM.out.lt (by have := HML.out; omega) a2 c4 HRs.out g doc HSel2.out).mono ?_
  rintro e w3 ⟨g2, rfl, hsel3, hb3⟩
  obtain ⟨M, hM⟩ : ∃ M, M = hasN t ns ms := ⟨_, rfl⟩
  rw [← hM] at hsel3 HMf
  have HMe := Lib.hid hM
  clear hM
  obtain ⟨a5, c5, g0, hrs⟩ := hsel3.places
  have HRs3 := Lib.hid hrs
  have HB3 := Lib.hid hb3
  have HT3 := Lib.hid (HT2.out.kept hb3)
  have hL3 := Nat.lt_of_lt_of_le hL2 hb3.size
  clear hsel3 hrs hb3
  go_wp2_with fail
  refine (placesOf_any bl t.length L hle M HMf.out.2 (by have := HMf.out.1; omega) a5 c5 w3 hL3 HT3.out.nodes (fun j hj => HT3.out.cell j hj) HRs3.out).mono ?_
  rintro e w4 ⟨v, rfl, hown4, hb4⟩
  have HB : Hid (Below w.heap.size w w3) := bnext (bnext HB1.out HB2.out) HB3.out
  have HO4 := Lib.hid (hown4.base HB.out.size)
  have HB4 := Lib.hid (bnext HB.out hb4)
  clear hown4 hb4
  go_wp2_with fail
  go_ret2
  exact ⟨v, rfl, by rw [← HMe.out]; exact HO4.out, HB4.out⟩
end Go.Proofs.Ytfebdbfkpmjpeaa
