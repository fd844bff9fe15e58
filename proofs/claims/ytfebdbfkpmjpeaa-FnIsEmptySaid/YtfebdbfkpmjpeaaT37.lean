/- grep, NotFunction, FilterFunction. -/
import Derived.Test.YtfebdbfkpmjpeaaT36
namespace Go.Proofs.Ytfebdbfkpmjpeaa
open Go.RowKit
set_option linter.unusedVariables false

def SinglePost (p : Addr) (doc : Option Addr) (w : World) (e : Ending) (w' : World) : Prop :=
  ∃ g gn, e = .returned (.pointer (some ⟨g, 0, none⟩)) ∧ SelB w' g (some ⟨gn, 0, none⟩) 1 1 doc none ∧ w.heap.size ≤ g ∧ w.heap.size ≤ gn ∧ w'.ownsRow w.heap.size 97 1 (.slice (some ⟨gn, 0, none⟩) 1 1) 1 [.pointer (some p)] ∧ Below w.heap.size w w'

set_option maxRecDepth 100000 in
set_option maxHeartbeats 1000000 in
theorem single_any (p : Addr) (doc : Option Addr) (w : World) : Calls Try.prog 181 #[.pointer (some p), .pointer doc] w (SinglePost p doc w) := by
  go_enter Try.func181, Try.ntmps181
  go_wp2_with fail
  go_ret
  refine ⟨w.heap.size + 1, w.heap.size, rfl, ?_, by omega, by omega, ⟨rfl, .inr ⟨w.heap.size, 1, #[.pointer (some p)], rfl, by omega, ?_, by omega, by simp [maxLen], rfl, rfl⟩⟩, ?_⟩
  · have := heap_alloc_new (w.alloc (.cells #[.pointer (some p)] 97)) (.cells #[.slice (some ⟨w.heap.size, 0, none⟩) 1 1, .pointer doc, .pointer none] 121)
    unfold SelB
    simpa using this
  · rw [Below.heap_alloc _ _ _ (by simp)]
    exact heap_alloc_new w _
  · exact ((Below.refl _ _).alloc (Nat.le_refl _) _).alloc (by simp) _

def GrepRel (bl : Nat → Nat) (ns : List Nat) (p : Nat → Bool) (w : World) (v x : Value) (wr : World) : Prop :=
  ∃ (k : Nat) (a : Option Addr) (c : Nat), k ≤ ns.length ∧ x = .int .i64 (k : Nat) ∧ v = .slice a (pickN p (ns.take k)).length c ∧
    wr.ownsRow w.heap.size 97 1 (.slice a (pickN p (ns.take k)).length c) (pickN p (ns.take k)).length (ptrs bl (pickN p (ns.take k))) ∧ Below w.heap.size w wr

set_option maxRecDepth 100000 in
set_option maxHeartbeats 2000000 in
theorem grep_any (bl : Nat → Nat) (ns : List Nat) (hlen : ns.length ≤ 200) (p : Nat → Bool) (b4 b5 : Nat) (g : Nat) (a : Option Addr) (c : Nat) (doc prev : Option Addr) (w : World)
    (hs : SelB w g a ns.length c doc prev) (h : RSl w w.heap.size a (ptrs bl ns)) (hp : Tests b4 b5 p w) :
    Calls Try.prog 211 #[.pointer (some ⟨g, 0, none⟩), .func (.func 212) #[] #[.pointer (some ⟨b4, 0, none⟩), .pointer (some ⟨b5, 0, none⟩)]] w (OwnNPost bl (pickN p ns) w) := by
  obtain ⟨i0, hinf, hz0, hz1, hz2⟩ := info_parts Try.infoP
  obtain ⟨s0, s1, _⟩ := hs.cells
  have hgl := hs.lt
  have HH := Lib.hid h
  have HP := Lib.hid hp
  clear h hs hp
  go_enter Try.func211, Try.ntmps211
  go_wp2_with fail
  go_loopw [4, 12] (fun v x wr => GrepRel bl ns p w v x wr) (fun _ x _ => ns.length - (intOf x).toNat)
  case atStart => exact ⟨0, none, 0, by omega, rfl, rfl, World.ownsRow_nil _ _ _ _, Below.refl _ _⟩
  case round =>
    obtain ⟨k, a1, c1, hk, rfl, rfl, hown, hb⟩ := hrel
    by_cases hlt : k < ns.length
    · obtain ⟨b, o, rfl, hbB, hc⟩ := HH.out.at_ (by rw [ptrs_length]; omega)
      have g1 := hc k (by rw [ptrs_length]; exact hlt)
      rw [ptrs_at hlt] at g1
      replace g1 := (hb.cell (p := ⟨b, _, none⟩) hbB).trans g1
      have gs1 := (hb.cell (p := ⟨g, 1, none⟩) hgl).trans s1
      obtain ⟨j, hj⟩ : ∃ j, j = ns[k] := ⟨_, rfl⟩
      rw [← hj] at g1
      have htl : (ns.take k).length = k := by simp; omega
      have HJ : Hid (pickN p (ns.take (k + 1)) = pickN p (ns.take k) ++ if p k = true then [j] else []) := by
        rw [Hid, List.take_succ_eq_append_getElem hlt, hj, pickN_snoc, htl]
      have hle : (pickN p (ns.take k)).length ≤ 200 := by
        have := pickN_len p (ns.take k)
        simp at this; omega
      obtain ⟨L, hLL⟩ : ∃ L, L = pickN p (ns.take k) := ⟨_, rfl⟩
      rw [← hLL] at hown hle HJ ⊢
      have HW := Lib.hid hown
      have hsz := hb.size
      clear hc hj hown hLL htl
      go_wp2_with fail
      refine (single_any ⟨bl j, 0, none⟩ doc wr).mono ?_
      rintro e w1 ⟨gs, gn, rfl, _, _, _, _, hb1⟩
      have HB1 := Lib.hid (bnext hb hb1)
      have hsz1 := hb1.size
      have HW1 := Lib.hid (own_kept HW.out (fun b _ hb => hb1.block b hb))
      clear hb1
      go_wp2_with fail
      refine (HP.out w1 k (some ⟨gs, 0, none⟩) HB1.out (by omega)).mono ?_
      rintro e w2 ⟨rfl, m, rfl⟩
      have HB2 := Lib.hid (below_drewN HB1.out m)
      have HW2 : Hid ((w1.drewN m).ownsRow w.heap.size 97 1 (.slice a1 L.length c1) L.length (ptrs bl L)) := own_kept HW1.out (fun _ _ _ => rfl)
      obtain ⟨W, hW⟩ : ∃ W, W = w1.drewN m := ⟨_, rfl⟩
      have hszW : w.heap.size ≤ W.heap.size := by rw [hW]; exact HB2.out.size
      rw [← hW] at HB2 HW2 ⊢
      clear hW HW1 HB1 HW hsz1 gs1 g1
      cases hq : p k
      · have HE : Hid (pickN p (ns.take (k + 1)) = L) := by
          rw [Hid, HJ.out, hq]; simp
        clear HJ hq
        go_wp2_with fail
        go_roundw
        case rel => exact ⟨k + 1, a1, c1, by omega, by go_num, by rw [HE.out], by rw [HE.out]; exact HW2.out, HB2.out⟩
        case measure => simp [intOf]; omega
      · have HE : Hid (pickN p (ns.take (k + 1)) = L ++ [j]) := by
          rw [Hid, HJ.out, hq]; simp
        clear HJ hq
        go_wp2_with (at_builtin; refine wpList_append_own _ rfl _ _ 93 rfl w.heap.size 97 i0 (.pointer none) 1 8 Try.underlying93 hinf hz0 hz1 hz2 rfl (by decide) _ _ _ rfl (HW2.out.alloc _) ⟨W.heap.size, 0, none⟩ 1 1 [.pointer (some ⟨bl j, 0, none⟩)] rfl rfl (cell_one_new _ _ _) (by intro u hu; simp at hu; subst hu; rfl) (by unfold maxLen; omega) (by omega) (by simp; omega) ?_)
        intro v' w3 hown' hgrow _
        obtain ⟨a3, c3, hv2⟩ := own_slice hown'
        rw [hv2] at hown' ⊢
        have hb1 : Below w.heap.size w w3 := (HB2.out.alloc hszW _).grown hgrow (by simp; omega) (fun q hq => (HW2.out.lt q hq).1)
        have HO1 : Hid (w3.ownsRow w.heap.size 97 1 (.slice a3 (L.length + 1) c3) (L.length + 1) (ptrs bl (L ++ [j]))) := by
          rw [Hid, ptrs_snoc]; exact hown'
        clear hown' hgrow hv2
        go_wp2_with fail
        go_roundw
        case rel => exact ⟨k + 1, a3, c3, by omega, by go_num, by rw [HE.out, List.length_append]; rfl, by rw [HE.out, List.length_append]; exact HO1.out, hb1⟩
        case measure => simp [intOf]; omega
    · go_wp2_with fail
      go_ret
      have e : k = ns.length := by omega
      subst e
      rw [List.take_length] at hown ⊢
      exact ⟨_, rfl, ⟨a1, c1, rfl, hown⟩, hb⟩

/-- A function value that answers by a list. -/
def fnV (f b : Nat) : Value := .func (.func f) #[] #[.pointer (some ⟨b, 0, none⟩)]

set_option maxRecDepth 100000 in
set_option maxHeartbeats 1000000 in
theorem winFn_any (bl : Nat → Nat) (ns : List Nat) (hlen : ns.length ≤ 200) (f b : Nat) (hf : f = 113 ∨ f = 116) (p : Nat → Bool) (keep : Bool) (g : Nat) (a : Option Addr) (c : Nat) (doc prev : Option Addr) (w : World)
    (hs : SelB w g a ns.length c doc prev) (h : RSl w w.heap.size a (ptrs bl ns)) (hA : Answers f b p w) :
    Calls Try.prog 173 #[.pointer (some ⟨g, 0, none⟩), fnV f b, .bool keep] w (OwnNPost bl (pickN (fun i => p i == keep) ns) w) := by
  have hmf : ∀ (fn : Fn) (first cap : Array Value) (w : World), (Instr.makeFunc fn first cap).run Try.prog w = .ok (.func fn first cap) w := fun _ _ _ _ => rfl
  have HS := Lib.hid hs
  have HH := Lib.hid h
  have HA := Lib.hid hA
  have HF := Lib.hid hf
  unfold fnV
  clear hs h hA hf
  go_enter Try.func173, Try.ntmps173
  go_wp2_with fail
  have hb1 : Below w.heap.size w ((w.alloc (.cells #[.func (.func f) #[] #[.pointer (some ⟨b, 0, none⟩)]] 128)).alloc (.cells #[.bool keep] 4)) := ((Below.refl _ _).alloc (Nat.le_refl _) _).alloc (by simp) _
  have h4 : ((w.alloc (.cells #[.func (.func f) #[] #[.pointer (some ⟨b, 0, none⟩)]] 128)).alloc (.cells #[.bool keep] 4)).cell? ⟨w.heap.size, 0, none⟩ = some (.func (.func f) #[] #[.pointer (some ⟨b, 0, none⟩)]) := by
    rw [World.cell?_alloc_lt _ _ _ (by simp), World.cell?_alloc_mark]; rfl
  have h5 : ((w.alloc (.cells #[.func (.func f) #[] #[.pointer (some ⟨b, 0, none⟩)]] 128)).alloc (.cells #[.bool keep] 4)).cell? ⟨w.heap.size + 1, 0, none⟩ = some (.bool keep) := by
    rw [World.cell?_alloc_at _ _ _ _ (by simp)]; rfl
  obtain ⟨W, hW⟩ : ∃ W, W = ((w.alloc (.cells #[.func (.func f) #[] #[.pointer (some ⟨b, 0, none⟩)]] 128)).alloc (.cells #[.bool keep] 4)) := ⟨_, rfl⟩
  have hsz : w.heap.size + 2 ≤ W.heap.size := by rw [hW]; simp
  rw [← hW] at hb1 h4 h5 ⊢
  have HB1 := Lib.hid hb1
  have HT := Lib.hid (win1_any f w.heap.size (w.heap.size + 1) b keep p W HF.out h4 h5 (by omega) (by omega) (fun W' i s hB hi => HA.out W' i s (bnext hb1 hB) hi))
  clear hW h4 h5 hb1
  refine (grep_any bl ns hlen (fun i => p i == keep) w.heap.size (w.heap.size + 1) g a c doc prev W (HS.out.below HB1.out HS.out.lt) (HH.out.up HB1.out) HT.out).mono ?_
  rintro e w1 ⟨v, rfl, ⟨a1, c1, rfl, hown⟩, hb2⟩
  have HO := Lib.hid (own_base hown (show w.heap.size ≤ W.heap.size by omega))
  have HB2 := Lib.hid (bnext HB1.out hb2)
  clear hown hb2
  go_wp2_with fail
  go_ret
  exact ⟨_, rfl, ⟨a1, c1, rfl, HO.out⟩, HB2.out⟩

set_option maxRecDepth 100000 in
set_option maxHeartbeats 1000000 in
theorem notFn_any (bl : Nat → Nat) (ns : List Nat) (hlen : ns.length ≤ 200) (f b : Nat) (hf : f = 113 ∨ f = 116) (p : Nat → Bool) (g B : Nat) (doc : Option Addr) (w : World)
    (hs : SelOf bl ns B g doc w) (hA : Answers f b p w) :
    Calls Try.prog 112 #[.pointer (some ⟨g, 0, none⟩), fnV f b] w (AddPost bl (pickN (fun i => p i == false) ns) doc w) := by
  obtain ⟨a, c, prev, hs1, _, hown, _⟩ := hs
  have hrs : RSl w w.heap.size a (ptrs bl ns) := by
    obtain ⟨a1, c1, hv, _, hrs⟩ := RSl.own hown
    cases hv
    exact hrs
  have HWin := Lib.hid (winFn_any bl ns hlen f b hf p false g a c doc prev w hs1 hrs hA)
  obtain ⟨LL, hLL⟩ : ∃ LL, LL = pickN (fun i => p i == false) ns := ⟨_, rfl⟩
  rw [← hLL] at HWin ⊢
  clear hLL
  have HS := Lib.hid hs1
  clear hs1 hown hrs hA hf
  unfold fnV at HWin ⊢
  go_enter Try.func112, Try.ntmps112
  go_wp2_with fail
  refine HWin.out.mono ?_
  rintro e w1 ⟨v, rfl, ⟨a1, c1, rfl, hown⟩, hb⟩
  have HO := Lib.hid hown
  have HB := Lib.hid hb
  clear hown hb
  go_wp2_with fail
  refine (push_any g a ns.length c doc prev a1 _ c1 w1 (HS.out.below HB.out HS.out.lt)).mono ?_
  rintro e w2 ⟨rfl, hs2, hb2⟩
  have HS2 := Lib.hid hs2
  have HB2 := Lib.hid hb2
  clear hs2 hb2
  go_wp2_with fail
  go_ret
  exact ⟨_, rfl, ⟨a1, c1, _, HS2.out, HB.out.size, own_kept HO.out (fun b _ hb => HB2.out.block b hb), _, rfl⟩, bnext HB.out HB2.out⟩

set_option maxRecDepth 100000 in
set_option maxHeartbeats 1000000 in
theorem filterFn_any (bl : Nat → Nat) (ns : List Nat) (hlen : ns.length ≤ 200) (f b : Nat) (hf : f = 113 ∨ f = 116) (p : Nat → Bool) (g B : Nat) (doc : Option Addr) (w : World)
    (hs : SelOf bl ns B g doc w) (hA : Answers f b p w) :
    Calls Try.prog 115 #[.pointer (some ⟨g, 0, none⟩), fnV f b] w (AddPost bl (pickN (fun i => p i == true) ns) doc w) := by
  obtain ⟨a, c, prev, hs1, _, hown, _⟩ := hs
  have hrs : RSl w w.heap.size a (ptrs bl ns) := by
    obtain ⟨a1, c1, hv, _, hrs⟩ := RSl.own hown
    cases hv
    exact hrs
  have HWin := Lib.hid (winFn_any bl ns hlen f b hf p true g a c doc prev w hs1 hrs hA)
  obtain ⟨LL, hLL⟩ : ∃ LL, LL = pickN (fun i => p i == true) ns := ⟨_, rfl⟩
  rw [← hLL] at HWin ⊢
  clear hLL
  have HS := Lib.hid hs1
  clear hs1 hown hrs hA hf
  unfold fnV at HWin ⊢
  go_enter Try.func115, Try.ntmps115
  go_wp2_with fail
  refine HWin.out.mono ?_
  rintro e w1 ⟨v, rfl, ⟨a1, c1, rfl, hown⟩, hb⟩
  have HO := Lib.hid hown
  have HB := Lib.hid hb
  clear hown hb
  go_wp2_with fail
  refine (push_any g a ns.length c doc prev a1 _ c1 w1 (HS.out.below HB.out HS.out.lt)).mono ?_
  rintro e w2 ⟨rfl, hs2, hb2⟩
  have HS2 := Lib.hid hs2
  have HB2 := Lib.hid hb2
  clear hs2 hb2
  go_wp2_with fail
  go_ret
  exact ⟨_, rfl, ⟨a1, c1, _, HS2.out, HB.out.size, own_kept HO.out (fun b _ hb => HB2.out.block b hb), _, rfl⟩, bnext HB.out HB2.out⟩
end Go.Proofs.Ytfebdbfkpmjpeaa
