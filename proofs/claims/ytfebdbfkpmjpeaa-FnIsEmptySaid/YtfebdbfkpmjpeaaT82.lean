/- FnIsEmpty: the walk. -/
import Derived.Test.YtfebdbfkpmjpeaaT81
import Derived.Test.YtfebdbfkpmjpeaaT17
namespace Go.Proofs.Ytfebdbfkpmjpeaa
open Go.RowKit
set_option linter.unusedVariables false

set_option maxRecDepth 100000 in
set_option maxHeartbeats 1000000 in
theorem simple8 (ad : Option Addr) (c : Nat) (t : List Nd) (hR : RightP t) (i : Nat) (hi : i < t.length) (w : World) (h : NSl w w.heap.size ad t) :
    Calls Try.prog 145 #[.slice ad t.length c, .int .i64 i, .agg #[.int .i64 8, .int .i64 0, .string ⟨#[]⟩, .string ⟨#[]⟩, .int .i64 0, .int .i64 0, .int .i64 0, .int .i64 1]] w (MPost (EmptyP t i) w) := by
  have HH := Lib.hid h
  obtain ⟨b, o, rfl, hbB, hc⟩ := h.at_ (by omega)
  obtain ⟨g1, g2, g3, g4, g5, -⟩ := hc i hi
  have hm := h.1
  unfold maxLen at hm
  obtain ⟨x, hx⟩ : ∃ x, x = t[i] := ⟨_, rfl⟩
  rw [← hx] at g1 g2 g3 g4 g5
  have HX := Lib.hid hx
  have HR := Lib.hid hR
  clear hc hx h hR
  have HB := Lib.hid (((Below.refl w.heap.size w).alloc (Nat.le_refl _) (.cells #[.int .i64 8, .int .i64 0, .string ⟨#[]⟩, .string ⟨#[]⟩, .int .i64 0, .int .i64 0, .int .i64 0, .int .i64 1] 27)).alloc (by simp) (.cells #[.int .i64 x.kind, .string x.tag, .string x.text, .slice x.aa x.attrs.length x.ac, .int .i64 x.size] 58))
  go_enter Try.func145, Try.ntmps145
  go_wp2_with fail
  refine (empty_any _ c t HR.out i hi _ (HH.out.up HB.out)).mono ?_
  rintro e w1 ⟨m, rfl, hm2, hb⟩
  have HM := Lib.hid hm2
  clear hm2
  go_wp2_with fail
  go_ret
  exact ⟨m, rfl, HM.out, bnext HB.out hb⟩

/-- What the program says of an element's kids. -/
def EmptyQ (t : List Nd) (i : Nat) (r : Bool) : Prop :=
  (r = true → ∀ j ∈ kidsL t i, kindN t j ≠ 3 ∧ (kindN t j = 4 → blankN t j)) ∧ (r = false → ∃ j ∈ kidsL t i, kindN t j = 3 ∨ kindN t j = 4)
def EmptyQPost (t : List Nd) (i : Nat) (w : World) (e : Ending) (w' : World) : Prop := ∃ r, e = .returned (.bool r) ∧ EmptyQ t i r ∧ Below w.heap.size w w'

theorem typ_text8 {x : Nd} (h : 1 ≤ x.kind ∧ x.kind ≤ 5) : typOf x.kind = 1 ↔ x.kind = 4 := by
  unfold typOf
  split
  · omega
  · split
    · omega
    · split
      · omega
      · split <;> omega
theorem typ_three {x : Nd} (h : 1 ≤ x.kind ∧ x.kind ≤ 5) : (typOf x.kind == 3) = (x.kind == 3) := by
  rw [Bool.eq_iff_iff, beq_iff_eq, beq_iff_eq]; exact typ_el h
theorem typ_one {x : Nd} (h : 1 ≤ x.kind ∧ x.kind ≤ 5) : (typOf x.kind == 1) = (x.kind == 4) := by
  rw [Bool.eq_iff_iff, beq_iff_eq, beq_iff_eq]; exact typ_text8 h

def EmQRel (t : List Nd) (bl : Nat → Nat) (K : List Nat) (W : World) (x : Value) (wr : World) : Prop :=
  ∃ k : Nat, k ≤ K.length ∧ x = ptrK bl K k ∧ Hid (∀ j ∈ K.take k, kindN t j ≠ 3 ∧ (kindN t j = 4 → blankN t j)) ∧ Below W.heap.size W wr

set_option maxRecDepth 100000 in
set_option maxHeartbeats 4000000 in
theorem emptyMatch (t : List Nd) (hR : RightP t) (w : World) (B L : Nat) (bl : Nat → Nat) (st : Nat → Dn) (hT : Tree t w B L bl st) (i : Nat) (hi : i < t.length) (hk3 : t[i].kind = 3) (v : Value) (hv : v = .agg #[]) :
    Calls Try.prog 153 #[v, .pointer (some ⟨bl i, 0, none⟩)] w (EmptyQPost t i w) := by
  subst hv
  obtain ⟨h5, _, hlt⟩ := hT.elem i hi hk3
  have hkids := kids_at hR hT.kin hi
  have hf : w.cell? ⟨bl i, 1, none⟩ = some (ptrK bl (kidsL t i) 0) := by
    have := (hT.dom.cells hi).2.2.1
    rw [this, hkids.fst]; rfl
  have hinj : ∀ a c (ha : a < (kidsL t i).length) (hc : c < (kidsL t i).length), bl (kidsL t i)[a] = bl (kidsL t i)[c] → a = c := fun a c ha hc e => hkids.inj a c ha hc (hT.dom.inj _ _ (hkids.lt a ha) (hkids.lt c hc) e)
  obtain ⟨K, hK⟩ : ∃ K, K = kidsL t i := ⟨_, rfl⟩
  rw [← hK] at hkids hf hinj
  have HKE := Lib.hid hK
  have HT := Lib.hid hT
  have HK := Lib.hid hkids
  have HInj := Lib.hid hinj
  have HR := Lib.hid hR
  clear hT hkids hinj hR hK
  go_enter Try.func153, Try.ntmps153
  go_wp2_with fail
  go_loopw [5] (fun x wr => EmQRel t bl K w x wr) (fun x _ => measE bl K x)
  case atStart => exact ⟨0, Nat.zero_le _, rfl, (fun j hj => by simp at hj), (Below.refl _ _).alloc (Nat.le_refl _) _⟩
  case round =>
    obtain ⟨k, hk, rfl, hno, hb⟩ := hrel
    have HB := Lib.hid hb
    clear hb
    have HMe := Lib.hid (measE_at (bl := bl) HInj.out hk)
    by_cases hltk : k < K.length
    · have hjt := HK.out.lt k hltk
      have HMn := Lib.hid (measE_at (bl := bl) HInj.out (show k + 1 ≤ K.length by omega))
      obtain ⟨_, _, _, _, _, q4, q5, q7, _⟩ := (HT.out.kept HB.out).dom.cells hjt
      have hself := (HT.out.kin _ hjt).2
      have hkr := HR.out.kindR _ hjt
      have htx := HR.out.text _ hjt
      rw [HK.out.nxt k hltk] at q4
      rw [hself.typ] at q5
      rw [hself.dat] at q7
      have q4' : wr.cell? ⟨bl K[k], 4, none⟩ = some (ptrK bl K (k + 1)) := q4
      have hkn : kindN t K[k] = t[K[k]].kind := by unfold kindN; rw [getD_at hjt]
      have hbn : blankN t K[k] = Sp t[K[k]].text 0 := by unfold blankN; rw [getD_at hjt]
      have hmem : K[k] ∈ K := List.getElem_mem hltk
      have HTk : Hid (K.take (k + 1) = K.take k ++ [K[k]]) := List.take_succ_eq_append_getElem hltk
      have HF : Hid (t[K[k]].kind = 3 ∨ t[K[k]].kind = 4 → EmptyQ t i false) := by
        intro h
        refine ⟨(fun h => by cases h), fun _ => ⟨K[k], by rw [← HKE.out]; exact hmem, by rw [hkn]; exact h⟩⟩
      have HN : Hid (t[K[k]].kind ≠ 3 → (t[K[k]].kind = 4 → Sp t[K[k]].text 0) → ∀ j ∈ K.take (k + 1), kindN t j ≠ 3 ∧ (kindN t j = 4 → blankN t j)) := by
        intro h3 h4 j hj
        rw [HTk.out, List.mem_append, List.mem_singleton] at hj
        rcases hj with hj | rfl
        · exact hno.out j hj
        · rw [hkn, hbn]; exact ⟨h3, h4⟩
      have e3 := typ_three hkr
      have e1 := typ_one hkr
      have hdat : t[K[k]].kind = 4 → datOf t[K[k]] = t[K[k]].text := fun h => by simp [datOf, h]
      rw [ptrK_at hltk] at HMe ⊢
      by_cases h3 : t[K[k]].kind = 3
      · have d3 : (typOf t[K[k]].kind == 3) = true := by rw [e3, h3]; rfl
        have HFo := Lib.hid (HF.out (.inl h3))
        obtain ⟨y, hy⟩ : ∃ y, y = typOf t[K[k]].kind := ⟨_, rfl⟩
        rw [← hy] at q5 d3
        obtain ⟨j, hj⟩ : ∃ j, j = K[k] := ⟨_, rfl⟩
        rw [← hj] at q5 ⊢
        clear q4 q4' q7 hself htx hkn hbn hmem HTk HF HN e3 e1 hdat h3 hy hj hkr
        go_wp2_with fail
        go_ret
        exact ⟨false, rfl, HFo.out, HB.out⟩
      · have d3 : (typOf t[K[k]].kind == 3) = false := by rw [e3]; exact beq_eq_false_iff_ne.2 h3
        by_cases h4 : t[K[k]].kind = 4
        · have d4 : (typOf t[K[k]].kind == 1) = true := by rw [e1, h4]; rfl
          have HFo := Lib.hid (HF.out (.inr h4))
          have HTr := Lib.hid (trim_any_c t[K[k]].text wr (by omega))
          have HNo := Lib.hid (fun h => HN.out h3 (fun _ => h))
          rw [hdat h4] at q7
          obtain ⟨y, hy⟩ : ∃ y, y = typOf t[K[k]].kind := ⟨_, rfl⟩
          rw [← hy] at q5 d3 d4
          obtain ⟨x, hx⟩ : ∃ x, x = t[K[k]].text := ⟨_, rfl⟩
          rw [← hx] at q7 HTr HNo
          have HNx : Hid (∀ w', Below wr.heap.size wr w' → w'.cell? ⟨bl K[k], 4, none⟩ = some (ptrK bl K (k + 1))) := fun w' h' => by
            have := ((HT.out.kept (bnext HB.out h')).dom.cells hjt).2.2.2.2.2.1
            rw [HK.out.nxt k hltk] at this
            exact this
          obtain ⟨j, hj⟩ : ∃ j, j = K[k] := ⟨_, rfl⟩
          rw [← hj] at q5 q7 HNx HMe ⊢
          clear q4 q4' hself htx hkn hbn hmem HTk HF HN e3 e1 hdat h3 h4 hy hj hkr hx
          go_wp2_with fail
          refine HTr.out.mono ?_
          rintro e w2 ⟨tv, rfl, htv, hb2⟩
          have g4 := HNx.out w2 hb2
          have HB2 := Lib.hid (bnext HB.out hb2)
          cases hem : tv.toList.isEmpty
          · clear htv hb2
            go_wp2_with fail
            go_ret
            exact ⟨false, rfl, HFo.out, HB2.out⟩
          · have HNe := Lib.hid (HNo.out (htv hem))
            clear htv hb2
            go_wp2_with fail
            go_roundw
            case rel => exact ⟨k + 1, by omega, rfl, HNe.out, HB2.out⟩
            case measure => rw [HMn.out, HMe.out]; omega
        · have d4 : (typOf t[K[k]].kind == 1) = false := by rw [e1]; exact beq_eq_false_iff_ne.2 h4
          have HNe := Lib.hid (HN.out h3 (fun h => absurd h h4))
          obtain ⟨y, hy⟩ : ∃ y, y = typOf t[K[k]].kind := ⟨_, rfl⟩
          rw [← hy] at q5 d3 d4
          obtain ⟨j, hj⟩ : ∃ j, j = K[k] := ⟨_, rfl⟩
          rw [← hj] at q5 q4' HMe ⊢
          clear q4 q7 hself htx hkn hbn hmem HTk HF HN e3 e1 hdat h3 h4 hy hj hkr
          go_wp2_with fail
          go_roundw
          case rel => exact ⟨k + 1, by omega, rfl, HNe.out, HB.out⟩
          case measure => rw [HMn.out, HMe.out]; omega
    · have e : k = K.length := by omega
      have HQ : Hid (EmptyQ t i true) := by
        rw [e, List.take_length, HKE.out] at hno
        exact ⟨fun _ => hno.out, (fun h => by cases h)⟩
      rw [ptrK_end (bl := bl) (K := K) (k := k) (by omega)]
      clear e hno HMe
      go_wp2_with fail
      go_ret
      exact ⟨true, rfl, HQ.out, HB.out⟩

set_option maxRecDepth 100000 in
set_option maxHeartbeats 2000000 in
theorem iIsEmpty (ad : Option Addr) (c : Nat) (t : List Nd) (hR : RightP t) (i : Nat) (hi : i < t.length) (hk : t[i].kind = 3) (w : World) (h : NSl w w.heap.size ad t) :
    Calls Try.prog 31 #[.slice ad t.length c, .int .i64 i] w fun e w' => ∃ r, e = .returned (.tuple #[.bool r, .bool true]) ∧ EmptyQ t i r ∧ Below w.heap.size w w' := by
  have hle := hR.le
  go_enter Try.func31, Try.ntmps31
  go_wp2_with fail
  refine (grown_any _ c t _ h hR).mono ?_
  rintro e w1 ⟨L, bl, st, rfl, hb1, hL, hT⟩
  have hcell := hT.cell i hi
  have HM : Hid (Calls Try.prog 92 #[.pointer (some ⟨bl i, 0, none⟩)] w1 (EmptyQPost t i w1)) := by
    have HQ := Lib.hid (emptyMatch t hR w1 _ L bl st hT i hi hk (.agg #[]) rfl)
    clear hcell hT hb1 h hR hk hL
    rw [Hid]
    go_enter Try.func92, Try.ntmps92
    go_wp2_with fail
    refine HQ.out.mono ?_
    rintro e w2 ⟨r, rfl, hq, hb2⟩
    have HQ2 := Lib.hid hq
    have HB2 := Lib.hid hb2
    clear hq hb2
    go_wp2_with fail
    go_ret
    exact ⟨r, rfl, HQ2.out, HB2.out⟩
  have HB := Lib.hid hb1
  clear hT hb1 h hR hk
  go_wp2_with fail
  refine HM.out.mono ?_
  rintro e w2 ⟨r, rfl, hq, hb2⟩
  have HQ2 := Lib.hid hq
  have HB2 := Lib.hid hb2
  clear hq hb2
  go_wp2_with fail
  go_ret2
  exact ⟨r, rfl, HQ2.out, bnext HB.out HB2.out⟩

theorem empty_agree {t : List Nd} {i : Nat} {m : Int} {r : Bool} (hp : EmptyP t i m) (hq : EmptyQ t i r) (h2 : m = 0 ∨ m = 1) : r = (m == 1) := by
  rcases h2 with rfl | rfl
  · obtain ⟨j, hj, hj2⟩ := hp.2.1 rfl
    cases r
    · rfl
    · obtain ⟨q1, q2⟩ := hq.1 rfl j hj
      rcases hj2 with h | ⟨h, hn⟩
      · exact absurd h q1
      · exact absurd (q2 h) hn
  · cases r
    · obtain ⟨j, hj, hj2⟩ := hq.2 rfl
      obtain ⟨q1, q2⟩ := hp.1 rfl j hj
      rcases hj2 with h | h
      · exact absurd h q1
      · exact absurd h q2
    · rfl

set_option maxRecDepth 100000 in
set_option maxHeartbeats 2000000 in
theorem FnIsEmpty_walk (ad : Option Addr) (len c : Nat) (t : List Nd) (I : Int) (w : World) (h : NSl w w.heap.size ad t ∧ len = t.length) (_hI : (Lit.int .i64 I).wf = true) :
    Calls Try.prog 6 #[.slice ad len c, .int .i64 I] w fun e w' => e = .returned (.bool true) ∧ Below w.heap.size w w' := by
  obtain ⟨h, rfl⟩ := h
  have HH := Lib.hid h
  clear h
  go_enter Try.func6, Try.ntmps6
  go_wp2_with fail
  refine (zzFits1_any _ _ t _ HH.out).mono ?_
  rintro e w1 ⟨rfl, hb1⟩
  have HB1 := Lib.hid hb1
  clear hb1
  cases hf : fits1 t
  · go_wp2_with fail
    go_ret
    exact ⟨rfl, HB1.out⟩
  · go_wp2_with fail
    refine (lalone_any (fun i m => EmptyP t i m) _ c t hf I ⟨8, 0, ⟨#[]⟩, ⟨#[]⟩, 0, 0, 0, 0⟩ ⟨rfl, rfl, rfl, rfl, rfl, rfl⟩ rfl _ (HH.out.up HB1.out) (fun W => rs8 W) (fun i hR hi _ W hW => simple8 _ c t hR i hi W hW)).mono ?_
    rintro e w2 ⟨want, sure, rfl, hb2, hs⟩
    have HB2 := Lib.hid (bnext HB1.out hb2)
    have HS := Lib.hid hs
    clear hb2 hs
    cases sure
    · go_wp2_with fail
      go_ret
      exact ⟨rfl, HB2.out⟩
    · obtain ⟨hR, i, m, rfl, ⟨hi, hk⟩, hm, hm2, hw⟩ := HS.out rfl
      have HM := Lib.hid hm
      have HM2 : Hid (m = 0 ∨ m = 1) := by have := hm.2.2; rw [Hid]; omega
      have HW := Lib.hid hw
      clear hw hm2 hm
      go_wp2_with fail
      refine (iIsEmpty _ c t hR i hi hk _ (HH.out.up HB2.out)).mono ?_
      rintro e w3 ⟨r, rfl, hq, hb3⟩
      have hr : r = want := (empty_agree HM.out hq HM2.out).trans HW.out.symm
      have HB3 := Lib.hid (bnext HB2.out hb3)
      subst hr
      clear hb3 hR hk hq HM HM2 HW
      go_wp2_with fail
      go_ret
      exact ⟨by simp, HB3.out⟩
end Go.Proofs.Ytfebdbfkpmjpeaa
