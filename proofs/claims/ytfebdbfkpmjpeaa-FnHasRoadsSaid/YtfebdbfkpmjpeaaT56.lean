/- spec.SameSet; impl.FindOf. -/
import Derived.Test.YtfebdbfkpmjpeaaT55
import Derived.Test.YtfebdbfkpmjpeaaT52
import Derived.Test.YtfebdbfkpmjpeaaT53
namespace Go.Proofs.Ytfebdbfkpmjpeaa
open Go.RowKit
set_option linter.unusedVariables false

set_option maxRecDepth 100000 in
set_option maxHeartbeats 2000000 in
theorem sameSet_any (a : Option Addr) (c : Nat) (la : List Int) (a2 : Option Addr) (c2 : Nat) (lb : List Int) (hla : la.length ≤ 100000) (hlb : lb.length ≤ 100000) (hab : ∀ x, x ∈ la ↔ x ∈ lb) (w : World) (h1 : RSl w w.heap.size a (ivs la)) (h2 : RSl w w.heap.size a2 (ivs lb)) :
    Calls Try.prog 67 #[.slice a la.length c, .slice a2 lb.length c2] w fun e w' => e = .returned (.bool true) ∧ w = w' := by
  have HA : Hid (∀ x ∈ la, Calls Try.prog 100 #[.slice a2 lb.length c2, .int .i64 x] w fun e w' => e = .returned (.bool true) ∧ w = w') := fun x hx => by
    have h := in_any a2 c2 lb (by omega) x w h2
    rw [decide_eq_true ((hab x).1 hx)] at h
    exact h
  have HB : Hid (∀ x ∈ lb, Calls Try.prog 100 #[.slice a la.length c, .int .i64 x] w fun e w' => e = .returned (.bool true) ∧ w = w') := fun x hx => by
    have h := in_any a c la (by omega) x w h1
    rw [decide_eq_true ((hab x).2 hx)] at h
    exact h
  have H1 := Lib.hid h1
  have H2 := Lib.hid h2
  clear h1 h2 hab
  go_enter Try.func67, Try.ntmps67
  go_wp2_with fail
  go_loopw [5] (fun y wr => ∃ k : Nat, k ≤ la.length ∧ y = .int .i64 k ∧ w = wr) (fun y _ => la.length - (intOf y).toNat)
  case atStart => exact ⟨0, by omega, rfl, rfl⟩
  case round =>
    obtain ⟨k, hk, rfl, rfl⟩ := hrel
    by_cases hlt : k < la.length
    · obtain ⟨b, o, rfl, hbB, hc⟩ := H1.out.at_ (by rw [ivs_length]; omega)
      have g1 := hc k (by rw [ivs_length]; exact hlt)
      rw [ivs_at hlt] at g1
      have HC := Lib.hid (HA.out la[k] (List.getElem_mem hlt))
      obtain ⟨y, hy⟩ : ∃ y, y = la[k] := ⟨_, rfl⟩
      rw [← hy] at g1 HC
      clear hc hy
      go_wp2_with fail
      refine HC.out.mono ?_
      rintro e w1 ⟨rfl, rfl⟩
      go_wp2_with fail
      go_roundw
      case rel => exact ⟨k + 1, by omega, by go_num, by trivial⟩
      case measure => simp [intOf]; omega
    · go_wp2_with fail
      go_loopw [6] (fun y wr => ∃ k : Nat, k ≤ lb.length ∧ y = .int .i64 k ∧ w = wr) (fun y _ => lb.length - (intOf y).toNat)
      case atStart => exact ⟨0, by omega, rfl, rfl⟩
      case round =>
        obtain ⟨k2, hk2, rfl, rfl⟩ := hrel
        by_cases hlt2 : k2 < lb.length
        · obtain ⟨b, o, rfl, hbB, hc⟩ := H2.out.at_ (by rw [ivs_length]; omega)
          have g1 := hc k2 (by rw [ivs_length]; exact hlt2)
          rw [ivs_at hlt2] at g1
          have HC := Lib.hid (HB.out lb[k2] (List.getElem_mem hlt2))
          obtain ⟨y, hy⟩ : ∃ y, y = lb[k2] := ⟨_, rfl⟩
          rw [← hy] at g1 HC
          clear hc hy
          go_wp2_with fail
          refine HC.out.mono ?_
          rintro e w1 ⟨rfl, rfl⟩
          go_wp2_with fail
          go_roundw
          case rel => exact ⟨k2 + 1, by omega, by go_num, by trivial⟩
          case measure => simp [intOf]; omega
        · go_wp2_with fail
          go_ret
          exact ⟨rfl, rfl⟩

theorem findN_facts {t : List Nd} (hR : RightP t) {ms : List Nat} (ns : List Nat) (hms : ∀ k ∈ ms, k < t.length) : (mapN ms (findF t ns)).length ≤ t.length ∧ ∀ m ∈ mapN ms (findF t ns), m < t.length :=
  mapN_facts hR.le (fun i hi => findF_facts t ns _ i hi) ms hms

theorem findN_mem (t : List Nd) (ns ms : List Nat) (x : Nat) : x ∈ mapN ms (findF t ns) ↔ x ∈ ms ∧ (ns.any fun i => und t i x) = true := by
  rw [mapN_mem]
  constructor
  · rintro ⟨i, hi, hx⟩
    unfold findF at hx
    split at hx
    · rename_i hu
      rw [List.mem_singleton] at hx
      subst hx
      exact ⟨hi, hu⟩
    · simp at hx
  · rintro ⟨hx, hu⟩
    refine ⟨x, hx, ?_⟩
    unfold findF
    rw [if_pos hu]
    simp

set_option maxRecDepth 100000 in
set_option maxHeartbeats 2000000 in
theorem findOf_any (a : Option Addr) (c : Nat) (t : List Nd) (hR : RightP t) (ad : Option Addr) (c2 : Nat) (l : List Int) (ns : List Nat) (ho : OrdP t.length l ns) (hl : l.length ≤ 2147483647) (ad3 : Option Addr) (c3 : Nat) (m : List Int) (ms : List Nat) (hom : OrdP t.length m ms) (hm : m.length ≤ 2147483647) (w : World) (h : NSl w w.heap.size a t) (hi : ISl w w.heap.size ad l) (hj : ISl w w.heap.size ad3 m) :
    Calls Try.prog 66 #[.slice a t.length c, .slice ad l.length c2, .slice ad3 m.length c3] w (ListPost (toI (mapN ms (findF t ns))) w) := by
  have HC := Lib.hid (chosen_any a c t hR ad c2 l ns ho hl w h hi)
  have HR := Lib.hid hR
  have HO := Lib.hid ho
  have HM := Lib.hid hom
  have HJ := Lib.hid hj
  have hnl := ho.len
  have hml := hom.len
  have hle := hR.le
  have HMf := Lib.hid (findN_facts hR ns hom.lt)
  have HNL := Lib.hid (show ns.length ≤ 200 by omega)
  have HML := Lib.hid (show ms.length ≤ 200 by omega)
  clear hR ho hom h hi hj hnl hml hl
  go_enter Try.func66, Try.ntmps66
  go_wp2_with fail
  refine HC.out.mono ?_
  rintro e w1 ⟨L, bl, st, g, doc, rfl, hL, hT, hsel, hb1⟩
  have HT := Lib.hid hT
  have HSel := Lib.hid hsel
  have HB1 := Lib.hid hb1
  clear hT hsel hb1
  go_wp2_with fail
  refine (these_any t hle _ L bl st ad3 c3 m ms HM.out hm w1 hL HT.out (HJ.out.up HB1.out)).mono ?_
  rintro e w2 ⟨a2, c4, rfl, hown, hb2⟩
  have HB2 := Lib.hid hb2
  have HT2 := Lib.hid (HT.out.kept hb2)
  have HSel2 := Lib.hid (HSel.out.kept hb2)
  have HRs : Hid (RSl w2 w2.heap.size a2 (ptrs bl ms)) := by
    obtain ⟨a1, c1, hv, _, hrs⟩ := RSl.own hown
    cases hv
    exact hrs
  have hL2 := Nat.lt_of_lt_of_le hL hb2.size
  clear hown hb2
  go_wp2_with fail
  refine (findNodes_any HR.out HT2.out ns HO.out.lt (by have := HNL.out; omega) ms HM.out.lt (by have := HML.out; omega) a2 c4 HRs.out g doc HSel2.out).mono ?_
  rintro e w3 ⟨g2, rfl, hsel3, hb3⟩
  obtain ⟨M, hM⟩ : ∃ M, M = mapN ms (findF t ns) := ⟨_, rfl⟩
  rw [← hM] at hsel3 HMf
  have HMe := Lib.hid hM
  clear hM
  obtain ⟨a5, c5, g0, hrs⟩ := hsel3.places
  have HRs3 := Lib.hid hrs
  have HB3 := Lib.hid hb3
  have HT3 := Lib.hid (HT2.out.kept hb3)
  have hL3 := Nat.lt_of_lt_of_le hL2 hb3.size
  clear hsel3 hrs hb3
  go_wp2_with fail
  refine (placesOf_any bl t.length L hle M HMf.out.2 (by have := HMf.out.1; omega) a5 c5 w3 hL3 HT3.out.nodes (fun j hj => HT3.out.cell j hj) HRs3.out).mono ?_
  rintro e w4 ⟨v, rfl, hown4, hb4⟩
  have HB : Hid (Below w.heap.size w w3) := bnext (bnext HB1.out HB2.out) HB3.out
  have HO4 := Lib.hid (hown4.base HB.out.size)
  have HB4 := Lib.hid (bnext HB.out hb4)
  clear hown4 hb4
  go_wp2_with fail
  go_ret2
  exact ⟨v, rfl, by rw [← HMe.out]; exact HO4.out, HB4.out⟩
end Go.Proofs.Ytfebdbfkpmjpeaa
