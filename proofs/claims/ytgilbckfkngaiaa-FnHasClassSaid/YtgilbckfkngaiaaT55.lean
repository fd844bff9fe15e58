/- FindNodes and HasNodes. -/
import Derived.Test.YtgilbckfkngaiaaT54
import Derived.Deep.RegionLaw
namespace Go.Proofs.Ytgilbckfkngaiaa
open Go.RowKit
set_option linter.unusedVariables false

set_option maxRecDepth 100000 in
set_option maxHeartbeats 2000000 in
theorem sliceContains_any {t : List Nd} (hR : RightP t) {w : World} {B L : Nat} {bl : Nat → Nat} {st : Nat → Dn} (hT : Tree t w B L bl st) (ns : List Nat) (hns : ∀ k ∈ ns, k < t.length) (hlen : ns.length ≤ 1000) (a : Option Addr) (c : Nat) (h : RSl w w.heap.size a (ptrs bl ns)) (j : Nat) (hj : j < t.length) :
    Calls Try.prog 186 #[.slice a ns.length c, .pointer (some ⟨bl j, 0, none⟩)] w fun e w' => e = .returned (.bool (ns.any fun i => und t i j)) ∧ w = w' := by
  have HC : Hid (∀ i, i < t.length → Calls Try.prog 188 #[.pointer (some ⟨bl i, 0, none⟩), .pointer (some ⟨bl j, 0, none⟩)] w fun e w' => e = .returned (.bool (und t i j)) ∧ w = w') := fun i hi => contains_any hR hT i j hi hj
  have HH := Lib.hid h
  have HNs := Lib.hid hns
  obtain ⟨r, hr⟩ : ∃ r, r = ns.any fun i => und t i j := ⟨_, rfl⟩
  have HRr := Lib.hid hr
  rw [← hr]
  clear hR hT h hns hr
  go_enter Try.func186, Try.ntmps186
  go_wp2_with fail
  go_loopw [9] (fun x wr => ∃ k : Nat, k ≤ ns.length ∧ x = .int .i64 k ∧ Hid ((ns.take k).any (fun i => und t i j) = false) ∧ w = wr) (fun x _ => ns.length - (intOf x).toNat)
  case atStart => exact ⟨0, by omega, rfl, rfl, rfl⟩
  case round =>
    obtain ⟨k, hk, rfl, hno, rfl⟩ := hrel
    by_cases hlt : k < ns.length
    · obtain ⟨b, o, rfl, hbB, hc⟩ := HH.out.at_ (by rw [ptrs_length]; omega)
      have g1 := hc k (by rw [ptrs_length]; exact hlt)
      rw [ptrs_at hlt] at g1
      have HCk := Lib.hid (HC.out ns[k] (HNs.out _ (List.getElem_mem hlt)))
      cases hu : und t ns[k] j
      · have HN : Hid ((ns.take (k + 1)).any (fun i => und t i j) = false) := by
          rw [Hid, List.take_succ_eq_append_getElem hlt, List.any_append, hno.out]; simp [hu]
        rw [hu] at HCk
        obtain ⟨q, hq⟩ : ∃ q, q = ns[k] := ⟨_, rfl⟩
        rw [← hq] at g1 HCk
        clear hc hu hq
        go_wp2_with fail
        refine HCk.out.mono ?_
        rintro e w1 ⟨rfl, rfl⟩
        go_wp2_with fail
        go_roundw
        case rel => exact ⟨k + 1, by omega, by go_num, HN, by trivial⟩
        case measure => simp [intOf]; omega
      · have HT : Hid (r = true) := by
          rw [Hid, HRr.out, List.any_eq_true]; exact ⟨_, List.getElem_mem hlt, hu⟩
        rw [hu] at HCk
        obtain ⟨q, hq⟩ : ∃ q, q = ns[k] := ⟨_, rfl⟩
        rw [← hq] at g1 HCk
        clear hc hu hq
        go_wp2_with fail
        refine HCk.out.mono ?_
        rintro e w1 ⟨rfl, rfl⟩
        go_wp2_with fail
        go_ret
        exact ⟨ret_b HT.out, rfl⟩
    · have HF : Hid (r = false) := by
        have e : k = ns.length := by omega
        have := hno.out
        rw [e, List.take_length] at this
        rw [Hid, HRr.out]; exact this
      go_wp2_with fail
      go_ret
      exact ⟨ret_b HF.out, rfl⟩

/-- What FindNodes tells of one of the other nodes. -/
def findF (t : List Nd) (ns : List Nat) (j : Nat) : List Nat := if (ns.any fun i => und t i j) = true then [j] else []
theorem findF_facts (t : List Nd) (ns : List Nat) (n j : Nat) (hj : j < n) : (∀ m ∈ findF t ns j, m < n) ∧ (findF t ns j).Nodup ∧ (findF t ns j).length ≤ 200 := by
  unfold findF
  split
  · exact ⟨fun m hm => by rw [List.mem_singleton] at hm; omega, by simp, by simp⟩
  · exact ⟨fun m hm => by simp at hm, by simp, by simp⟩

set_option maxRecDepth 100000 in
set_option maxHeartbeats 2000000 in
theorem find1_any {t : List Nd} (hR : RightP t) {w : World} {B L : Nat} {bl : Nat → Nat} {st : Nat → Dn} (hT : Tree t w B L bl st) (ns : List Nat) (hns : ∀ k ∈ ns, k < t.length) (hlen : ns.length ≤ 1000) (a : Option Addr) (c : Nat) (h : RSl w w.heap.size a (ptrs bl ns)) (b g : Nat) (hb : w.cell? ⟨b, 0, none⟩ = some (.pointer (some ⟨g, 0, none⟩))) (hbl : b < w.heap.size) (hg : w.cell? ⟨g, 0, none⟩ = some (.slice a ns.length c)) (hgl : g < w.heap.size) :
    Gives_find bl t.length (findF t ns) (some ⟨b, 0, none⟩) w := by
  intro W j k hW hj hk
  have g1 := (hW.cell (p := ⟨b, 0, none⟩) hbl).trans hb
  have g2 := (hW.cell (p := ⟨g, 0, none⟩) hgl).trans hg
  have HS := Lib.hid (sliceContains_any hR (hT.kept hW) ns hns hlen a c (h.up hW) j hj)
  have HF : Hid (findF t ns j = if (ns.any fun i => und t i j) = true then [j] else []) := rfl
  obtain ⟨r, hr⟩ : ∃ r, r = ns.any fun i => und t i j := ⟨_, rfl⟩
  rw [← hr] at HS HF
  clear hR hT hns h hb hg hW hr
  go_enter Try.func185, Try.ntmps185
  go_wp2_with fail
  refine HS.out.mono ?_
  rintro e w1 ⟨rfl, rfl⟩
  cases r
  · have HE : Hid (findF t ns j = []) := HF.out
    go_wp2_with fail
    go_ret
    refine ⟨_, rfl, ?_, Below.refl _ _⟩
    rw [HE.out]
    exact ⟨none, 0, rfl, World.ownsRow_nil _ _ _ _⟩
  · have HE : Hid (findF t ns j = [j]) := HF.out
    go_wp2_with fail
    go_ret
    refine ⟨_, rfl, ?_, (Below.refl _ _).alloc (Nat.le_refl _) _⟩
    rw [HE.out]
    refine ⟨some ⟨W.heap.size, 0, none⟩, 1, rfl, ⟨rfl, .inr ⟨W.heap.size, 1, #[.pointer (some ⟨bl j, 0, none⟩)], rfl, by omega, heap_alloc_new W _, by show 1 ≤ 1; omega, by simp [maxLen], rfl, rfl⟩⟩⟩

set_option maxRecDepth 100000 in
set_option maxHeartbeats 4000000 in
theorem findNodes_any {t : List Nd} (hR : RightP t) {w : World} {B0 B L : Nat} {bl : Nat → Nat} {st : Nat → Dn} (hT : Tree t w B0 L bl st) (ns : List Nat) (hns : ∀ k ∈ ns, k < t.length) (hlen : ns.length ≤ 400) (ms : List Nat) (hms : ∀ k ∈ ms, k < t.length) (hlem : ms.length ≤ 400) (a2 : Option Addr) (c2 : Nat) (h2 : RSl w w.heap.size a2 (ptrs bl ms)) (g : Nat) (doc : Option Addr) (hs : SelOf bl ns B g doc w) :
    Calls Try.prog 160 #[.pointer (some ⟨g, 0, none⟩), .slice a2 ms.length c2] w (AddPost bl (mapN ms (findF t ns)) doc w) := by
  have hmf : ∀ (fn : Fn) (first cap : Array Value) (w : World), (Instr.makeFunc fn first cap).run Try.prog w = .ok (.func fn first cap) w := fun _ _ _ _ => rfl
  obtain ⟨a, c, prev, hs1, _, hown, _⟩ := hs
  have hrs : RSl w w.heap.size a (ptrs bl ns) := by
    obtain ⟨a1, c1, hv, _, hrs⟩ := RSl.own hown
    cases hv
    exact hrs
  obtain ⟨W, hW⟩ : ∃ W, W = w.alloc (.cells #[.pointer (some ⟨g, 0, none⟩)] 74) := ⟨_, rfl⟩
  have hb0 : Below w.heap.size w W := by rw [hW]; exact (Below.refl _ _).alloc (Nat.le_refl _) _
  have hbox : W.cell? ⟨w.heap.size, 0, none⟩ = some (.pointer (some ⟨g, 0, none⟩)) := by rw [hW, World.cell?_alloc_mark]; rfl
  have hlt : w.heap.size < W.heap.size := by rw [hW]; simp
  have hT1 := hT.kept hb0
  have hg := (hb0.cell (p := ⟨g, 0, none⟩) hs1.lt).trans hs1.cells.1
  have hb1 : Below W.heap.size W W.drew := (Below.refl _ _).drew
  have HMap := Lib.hid (mapNodes_find bl t.length ms (findF t ns) hms (fun i hi => findF_facts t ns _ i hi) hR.le hlem a2 c2 (some ⟨w.heap.size, 0, none⟩) W.drew ((h2.up hb0).up hb1) (hT1.kept hb1).nodes (find1_any hR (hT1.kept hb1) ns hns (by omega) a c ((hrs.up hb0).up hb1) w.heap.size g hbox hlt hg (show g < W.heap.size by have := hs1.lt; omega)))
  have HS := Lib.hid (hs1.below hb0 hs1.lt)
  have HSl := Lib.hid hs1.lt
  have HB0 := Lib.hid hb0
  have HW := Lib.hid hW
  have hszW := hb0.size
  obtain ⟨M, hM⟩ : ∃ M, M = mapN ms (findF t ns) := ⟨_, rfl⟩
  rw [← hM] at HMap ⊢
  clear hb0 hT1 hT hns hms h2 hR hW hs1 hown hrs hg hb1 hM
  go_enter Try.func160, Try.ntmps160
  go_wp2_with fail
  rw [← HW.out]
  have HLt := Lib.hid hlt
  go_region_law (first
    | (go_simp; go_at_call 153; refine HMap.out.mono ?_
       rintro e w1 ⟨v, rfl, ⟨a1, c1, rfl, hown⟩, hb2⟩
       have hb3 : Below W.heap.size W w1 := bnext (Below.refl W.heap.size W).drew hb2
       have gbox := (hb3.cell (p := ⟨w.heap.size, 0, none⟩) hlt).trans hbox
       have HO := Lib.hid hown
       have HB := Lib.hid hb3
       have HS1 := Lib.hid (HS.out.below hb3 (by have := HSl.out; omega))
       clear hown hb2 hb3)
    | (go_simp; go_at_call 129; refine (push_any g a ns.length c doc prev a1 _ c1 w1 HS1.out).mono ?_
       rintro e w2 ⟨rfl, hs2, hb4⟩
       have HS2 := Lib.hid hs2
       have HB2 := Lib.hid hb4
       clear hs2 hb4))
  all_goals
    go_wp2_with fail
    go_ret
    exact ⟨_, rfl, ⟨a1, c1, _, HS2.out, by have := HB0.out.size; have := HB.out.size; omega, own_base (own_kept HO.out (fun b _ hb => HB2.out.block b hb)) (by show w.heap.size ≤ W.heap.size; omega), _, rfl⟩, bnext HB0.out (bnext HB.out HB2.out)⟩
end Go.Proofs.Ytgilbckfkngaiaa
