/- FnEmptied: the walk (joined by join.py) -/
import Derived.Test.YtmhhfljbocbolaaP4
import Derived.Test.YtmhhfljbocbolaaP5
import Derived.BigRegion
import Derived.BigQuiet
import Derived.Deep.QuietTactic
import Derived.Test.YtmhhfljbocbolaaT166
namespace Go.Proofs.Ytmhhfljbocbolaa
set_option linter.unusedVariables false

def cutAll (F : Fo) (cs : List Nat) : Fo := cs.foldl Fo.cut F
theorem cutAll_snoc (F : Fo) (cs : List Nat) (c : Nat) : cutAll F (cs ++ [c]) = (cutAll F cs).cut c := by simp [cutAll]
theorem cutAll_ok {F : Fo} {S : Nat → Prop} {h : Nat → Nat} (o : F.Ok S h) (cs : List Nat) : (cutAll F cs).Ok S h := by
  induction cs generalizing F with
  | nil => exact o
  | cons c cs ih => exact ih (o.cut c)

theorem cutAll_par (cs : List Nat) : ∀ (F : Fo) (i : Nat), (cutAll F cs).par i = if i ∈ cs then none else F.par i := by
  induction cs with
  | nil => intro F i; simp [cutAll]
  | cons c cs ih =>
    intro F i
    show (cutAll (F.cut c) cs).par i = _
    rw [ih]
    show (if i ∈ cs then none else if i = c then none else F.par i) = _
    by_cases h1 : i ∈ cs
    · rw [if_pos h1, if_pos (List.mem_cons_of_mem _ h1)]
    · rw [if_neg h1]
      by_cases h2 : i = c
      · rw [if_pos h2, if_pos (by rw [h2]; exact List.mem_cons_self)]
      · rw [if_neg h2, if_neg (by simp [h1, h2])]
theorem cutAll_kids (cs : List Nat) : ∀ (F : Fo) (p : Nat), (cutAll F cs).kids p = (F.kids p).filter fun c => !decide (c ∈ cs) := by
  induction cs with
  | nil => intro F p; show F.kids p = _; rw [List.filter_eq_self.2]; intro a _; simp
  | cons c cs ih =>
    intro F p
    show (cutAll (F.cut c) cs).kids p = _
    rw [ih]
    show ((F.kids p).filter fun x => !decide (x = c)).filter _ = _
    rw [List.filter_filter]
    refine List.filter_congr fun x _ => ?_
    by_cases h1 : x = c
    · simp [h1]
    · by_cases h2 : x ∈ cs <;> simp [h1, h2]

theorem clearAll_facts (ms : List Nat) : ∀ {F : Fo} {S : Nat → Prop} {h : Nat → Nat} (o : F.Ok S h) (i : Nat), ((clearAll F ms).par i = match F.par i with | some m => if m ∈ ms then none else some m | none => none) ∧ (clearAll F ms).kids i = if i ∈ ms then [] else F.kids i := by
  induction ms with
  | nil => intro F S h o i; exact ⟨by cases e : F.par i <;> simp [clearAll, e], by simp [clearAll]⟩
  | cons m ms ih =>
    intro F S h o i
    obtain ⟨h1, h2⟩ := ih (o.clear m) i
    refine ⟨?_, ?_⟩
    · show (clearAll (F.clear m) ms).par i = _
      rw [h1]
      show (match (if F.par i = some m then none else F.par i) with | some q => if q ∈ ms then none else some q | none => none) = _
      cases e : F.par i with
      | none => simp
      | some q =>
        by_cases e2 : q = m
        · subst e2; simp
        · rw [if_neg (by intro e3; cases e3; exact e2 rfl)]
          simp [e2]
    · show (clearAll (F.clear m) ms).kids i = _
      rw [h2]
      show (if i ∈ ms then [] else if i = m then [] else F.kids i) = _
      by_cases h1 : i ∈ ms
      · rw [if_pos h1, if_pos (List.mem_cons_of_mem _ h1)]
      · rw [if_neg h1]
        by_cases h3 : i = m
        · rw [if_pos h3, if_pos (by rw [h3]; exact List.mem_cons_self)]
        · rw [if_neg h3, if_neg (by simp [h1, h3])]

theorem cut_clear {F : Fo} {S : Nat → Prop} {h : Nat → Nat} (o : F.Ok S h) (ms : List Nat) : cutAll F (ms.flatMap F.kids) = clearAll F ms := by
  have key : ∀ i, i ∈ ms.flatMap F.kids ↔ ∃ m ∈ ms, F.par i = some m := fun i => by
    rw [List.mem_flatMap]
    constructor
    · rintro ⟨m, hm, hi⟩; exact ⟨m, hm, (o.mem m i).1 hi⟩
    · rintro ⟨m, hm, hi⟩; exact ⟨m, hm, (o.mem m i).2 hi⟩
  refine Fo.ext2 (fun i => ?_) (fun p => ?_)
  · rw [cutAll_par, (clearAll_facts ms o i).1]
    cases e : F.par i with
    | none => simp
    | some q =>
      by_cases hq : q ∈ ms
      · rw [if_pos ((key i).2 ⟨q, hq, e⟩)]; simp [hq]
      · rw [if_neg (fun hi => by obtain ⟨m, hm, e2⟩ := (key i).1 hi; rw [e] at e2; cases e2; exact hq hm)]; simp [hq]
  · rw [cutAll_kids, (clearAll_facts ms o p).2]
    by_cases hp : p ∈ ms
    · rw [if_pos hp, List.filter_eq_nil_iff]
      intro c hc
      have : c ∈ ms.flatMap F.kids := (key c).2 ⟨p, hp, (o.mem p c).1 hc⟩
      simp [this]
    · rw [if_neg hp, List.filter_eq_self]
      intro c hc
      have : c ∉ ms.flatMap F.kids := fun h2 => by
        obtain ⟨m, hm, e2⟩ := (key c).1 h2
        rw [(o.mem p c).1 hc] at e2; cases e2; exact hp hm
      simp [this]
/-- The children of some nodes, each once. -/
theorem flat_nodup {F : Fo} {S : Nat → Prop} {h : Nat → Nat} (o : F.Ok S h) : ∀ {ms : List Nat}, ms.Nodup → (ms.flatMap F.kids).Nodup := by
  intro ms
  induction ms with
  | nil => intro _; simp
  | cons m ms ih =>
    intro hn
    obtain ⟨h1, h2⟩ := List.nodup_cons.1 hn
    rw [List.flatMap_cons, List.nodup_append]
    refine ⟨o.nodup m, ih h2, fun a ha b hb e => ?_⟩
    subst e
    obtain ⟨q, hq, hb2⟩ := List.mem_flatMap.1 hb
    have e1 := (o.mem m a).1 ha
    have e2 := (o.mem q a).1 hb2
    rw [e1] at e2; cases e2
    exact h1 hq
end Go.Proofs.Ytmhhfljbocbolaa

namespace Go.Proofs.Ytmhhfljbocbolaa
open Go.RowKit
set_option linter.unusedVariables false

def SameSelPost (F : Fo) (S : Nat → Prop) (nd : Nat → Nd) (B : Nat) (bl : Nat → Nat) (g : Nat) (w : World) (e : Ending) (w' : World) : Prop :=
  e = .returned (.pointer (some ⟨g, 0, none⟩)) ∧ (∃ st, Prog F S nd B bl st w') ∧ Turn S bl w.heap.size w w'

theorem cut_none' {F : Fo} {S : Nat → Prop} {h : Nat → Nat} (o : F.Ok S h) {x : Nat} (hx : F.par x = none) : F.cut x = F := Fo.cut_none o hx

set_option maxRecDepth 100000 in
set_option maxHeartbeats 8000000 in
theorem remove_sel {F : Fo} {S : Nat → Prop} {ht : Nat → Nat} (o : F.Ok S ht) {nd : Nat → Nd} {B : Nat} {bl : Nat → Nat} {st : Nat → Dn} (ms : List Nat) (hms : ∀ m ∈ ms, S m) (hml : ms.length ≤ 1000) (w : World) (hP : Prog F S nd B bl st w)
    (C g : Nat) (doc : Option Addr) (hsel : SelOf bl ms C g doc w) :
    Calls Try.prog 36 #[.pointer (some ⟨g, 0, none⟩)] w (SameSelPost (cutAll F ms) S nd B bl g w) := by
  obtain ⟨a1, c1, prev, hsb, hCg, hown, -⟩ := hsel
  obtain ⟨z0, -, -⟩ := hsb.cells
  have hgl := hsb.lt
  have HO := Lib.hid o
  have HP := Lib.hid hP
  have HSb := Lib.hid hsb
  have HOwn := Lib.hid hown
  have HMs := Lib.hid hms
  have HRow : Hid (∀ W, Turn S bl w.heap.size w W → W.ownsRow C 69 1 (.slice a1 ms.length c1) ms.length (ptrs bl ms)) := fun W hW =>
    hW.own hown (fun q hq => (hown.lt q hq).2) (hP.own_ne hown (by decide))
  have HSel : Hid (∀ W, Turn S bl w.heap.size w W → SelB W g a1 ms.length c1 doc prev) := fun W hW => by
    refine (hW.block g hgl fun i hi e => ?_).trans hsb
    obtain ⟨_, _, _, hh, _⟩ := hP.dom.node i hi
    exact types_ne hsb hh (by decide) e
  have HPtr : Hid (∀ i (hi : i < ms.length) W, Turn S bl w.heap.size w W → ∃ b o, a1 = some ⟨b, o, none⟩ ∧ W.cell? ⟨b, o + i, none⟩ = some (.pointer (some ⟨bl ms[i], 0, none⟩))) := fun i hi W hW => by
    obtain ⟨_, _, hv, _, hr⟩ := RSl.own (HRow.out W hW)
    cases hv
    obtain ⟨b, o, rfl, _, hc⟩ := hr.at_ (by rw [ptrs_length]; omega)
    have g1 := hc i (by rw [ptrs_length]; exact hi)
    rw [ptrs_at hi] at g1
    exact ⟨b, o, rfl, g1⟩
  clear o hP hsb hown hms
  go_enter Try.func36, Try.ntmps36
  go_wp2_with fail
  go_loopw [10] (fun x wr => ∃ i : Nat, i ≤ ms.length ∧ x = .int .i64 i ∧ (∃ st, Prog (cutAll F (ms.take i)) S nd B bl st wr) ∧ Turn S bl w.heap.size w wr) (fun x _ => ms.length - (intOf x).toNat)
  case atStart => exact ⟨0, by omega, rfl, ⟨st, HP.out⟩, Turn.refl _ _ _ _⟩
  case round =>
    clear z0
    obtain ⟨i, hi, rfl, ⟨st1, hP1⟩, hT⟩ := hrel
    obtain ⟨wa, rfl⟩ : ∃ wa : World, wa = wr := ⟨_, rfl⟩
    have hT0 := Lib.hid hT
    by_cases hlt : i < ms.length
    · obtain ⟨b, og, rfl, g1⟩ := HPtr.out i hlt _ hT
      have hSm := HMs.out ms[i] (List.getElem_mem hlt)
      have HTake : Hid (cutAll F (ms.take (i + 1)) = (cutAll F (ms.take i)).cut ms[i]) := by rw [Hid, List.take_succ_eq_append_getElem hlt, cutAll_snoc]
      obtain ⟨m, hm⟩ : ∃ m, m = ms[i] := ⟨_, rfl⟩
      rw [← hm] at g1 hSm HTake
      have f0 := (hP1.dom.cells hSm).2.1
      rw [(hP1.fit m hSm).par] at f0
      have hO1 := cutAll_ok HO.out (ms.take i)
      have HP1 := Lib.hid hP1
      cases hp : (cutAll F (ms.take i)).par m with
      | none =>
        rw [hp] at f0
        simp only [ptrTo, Option.map_none] at f0
        have HE : Hid (cutAll F (ms.take (i + 1)) = cutAll F (ms.take i)) := by rw [Hid, HTake.out, Fo.cut_none hO1 hp]
        clear hm hT hP1 hO1 hp
        go_wp2_with fail
        go_roundw
        case rel => exact ⟨i + 1, by omega, by go_num, ⟨st1, by rw [HE.out]; exact HP1.out⟩, hT0.out⟩
        case measure => simp [intOf]; omega
      | some p =>
        rw [hp] at f0
        simp only [ptrTo, Option.map_some] at f0
        have HRem := Lib.hid (removeP_any hO1 wa B bl st1 hP1 p m hp)
        clear hm hT hP1 hO1 hp
        go_wp2_with fail
        refine HRem.out.mono ?_
        rintro e w3 ⟨rfl, ⟨st3, hP3⟩, hO3⟩
        have HP3 := Lib.hid hP3
        have HT3 : Hid (Turn S bl w.heap.size w w3) := hT0.out.trans (Turn.of_only hO3)
        clear hP3 hO3 f0
        go_wp2_with fail
        go_roundw
        case rel => exact ⟨i + 1, by omega, by go_num, ⟨st3, by rw [HTake.out]; exact HP3.out⟩, HT3.out⟩
        case measure => simp [intOf]; omega
    · have e : i = ms.length := by omega
      subst e
      rw [List.take_length] at hP1
      have HPe := Lib.hid hP1
      clear hP1 hT
      go_wp2_with fail
      go_ret
      exact ⟨rfl, ⟨st1, HPe.out⟩, hT0.out⟩
end Go.Proofs.Ytmhhfljbocbolaa

namespace Go.Proofs.Ytmhhfljbocbolaa
open Go.RowKit
set_option linter.unusedVariables false

set_option maxRecDepth 100000 in
set_option maxHeartbeats 4000000 in
theorem removeOf_any (a : Option Addr) (c : Nat) (t : List Nd) (hR : RightP t) (ad : Option Addr) (c2 : Nat) (l : List Int) (ms : List Nat) (ho : OrdP t.length l ms) (hl : l.length ≤ 2147483647) (w : World) (h : NSl w w.heap.size a t) (hi : ISl w w.heap.size ad l) :
    Calls Try.prog 19 #[.slice a t.length c, .slice ad l.length c2] w (OfPost (cutAll (fo0 t) ms) (sz t) (ndT t) t.length w) := by
  have HSl := Lib.hid (selected_any a c t hR ad c2 l ms ho hl w h hi)
  have HR := Lib.hid hR
  have HO := Lib.hid ho
  have HNb : Hid (∀ i, i < t.length → NdB (ndT t i)) := fun i hi => by
    unfold ndT; rw [getD_at hi]
    exact (h.2.1 _ (List.getElem_mem hi)).ndb
  have hml : ms.length ≤ 200 := by have := ho.len; have := hR.le; omega
  have hpos := hR.pos
  have hle := hR.le
  clear hR ho h hi
  go_enter Try.func19, Try.ntmps19
  go_wp2_with fail
  refine HSl.out.mono ?_
  rintro e w1 ⟨L, bl, st, gw, g0, g, doc, rfl, hL, hT, hW, hsel, hgw, hb1⟩
  have hP := hT.prog HR.out
  have HP := Lib.hid hP
  have HT := Lib.hid hT
  have HW := Lib.hid hW
  have HB1 := Lib.hid hb1
  have HEm := Lib.hid (remove_sel (fo0_ok HR.out) ms HO.out.lt (by omega) w1 hP _ g doc hsel)
  clear hP hT hW hb1 hsel
  go_wp2_with fail
  refine HEm.out.mono ?_
  rintro e w2 ⟨rfl, ⟨st2, hP2⟩, hT2⟩
  have o' := cutAll_ok (fo0_ok HR.out) ms
  have hlen : ((cutAll (fo0 t) ms).all (sz t) 0).length ≤ t.length := all_bound o' (fun i hi => hi) hpos
  have hW2 : WorldB w2 gw L t.length g0 := (hT2.block gw (Array.getElem?_eq_some_iff.1 HW.out).1 (fun i hi e => by
    obtain ⟨_, _, _, hh, _⟩ := HP.out.dom.node i hi
    exact types_ne HW.out hh (by decide) e)).trans HW.out
  have hL2 : ∀ j, j < t.length → w2.cell? ⟨L, j, none⟩ = some (.pointer (some ⟨bl j, 0, none⟩)) := fun j hj => by
    obtain ⟨cur, h1, h2, h3⟩ := HT.out.row
    have h4 := hT2.block L (Array.getElem?_eq_some_iff.1 h1).1 (fun i hi e => by
      obtain ⟨_, _, _, hh, _⟩ := HP.out.dom.node i hi
      exact types_ne h1 hh (by decide) e)
    rw [cell_of_row w2 L j _ _ _ (h4.trans h1), h3 j hj]; rfl
  have HB2 : Hid (Below w.heap.size w w2) := by
    have h5 := hT2.below (C := w.heap.size) HB1.out.size (fun i hi => (HT.out.dom.node i hi).1)
    exact HB1.out.trans h5
  have HEn := Lib.hid (ends_any o' (fun i hi => ndG_of HR.out hi) HNb.out hpos hle (fun i hi => hi) (by omega) w2 hP2 gw L g0 hW2 hL2)
  clear hP2 hT2 o' hW2 hL2 hlen
  go_wp2_with fail
  refine HEn.out.mono ?_
  rintro e w3 ⟨a3, m3, c3, a4, m4, c4, rfl, hOut, hb3⟩
  have HFin : Hid (OfPost (cutAll (fo0 t) ms) (sz t) (ndT t) t.length w (.returned (.tuple #[.slice a3 m3 c3, .slice a4 m4 c4, .bool true])) w3) :=
    ⟨_, _, _, _, _, _, rfl, hOut, bnext HB2.out hb3⟩
  clear hOut hb3
  go_wp2_with fail
  go_ret3
  exact HFin.out
end Go.Proofs.Ytmhhfljbocbolaa

namespace Go.Proofs.Ytmhhfljbocbolaa
open Go.RowKit
set_option linter.unusedVariables false

theorem attr_neq (a b : ByteArray) (w : World) : (binOp .neq 96 (.agg #[.string a, .string b]) (.agg #[.string a, .string b])).run Try.prog w = .ok (.bool false) w := by
  rw [run_neq_struct, run_equalIn_struct _ _ _ _ _ (by kernel_rfl) (by kernel_rfl)]
  obtain ⟨f1, f2, hf, h1, h2, h3, h4, h5, h6⟩ : ∃ f1 f2 : Field, (Try.prog.fieldsOf 96).toList = [f1, f2] ∧ (f1.name == "_") = false ∧ (f2.name == "_") = false ∧ f1.type = 9 ∧ f2.type = 9 ∧ f1.offset = 0 ∧ f2.offset = 1 :=
    ⟨(Try.prog.fieldsOf 96).toList[0]!, (Try.prog.fieldsOf 96).toList[1]!, by kernel_rfl, by kernel_rfl, by kernel_rfl, by kernel_rfl, by kernel_rfl, by kernel_rfl, by kernel_rfl⟩
  have n1 : f1.name ≠ "_" := by simpa using h1
  have n2 : f2.name ≠ "_" := by simpa using h2
  rw [hf]
  simp only [Op.eqFields, ne_eq, n1, n2, not_false_eq_true, if_true, h3, h4, h5, h6]
  go_simp

set_option maxRecDepth 100000 in
set_option maxHeartbeats 4000000 in
theorem sameNode_yes (x y : Nd) (hxy : strip y = strip x) (hl : x.attrs.length ≤ 1000) (w : World) (hx : ASl w w.heap.size x.aa x.attrs) (hy : ASl w w.heap.size y.aa y.attrs) :
    Calls Try.prog 35 #[.agg #[.int .i64 x.kind, .string x.tag, .string x.text, .slice x.aa x.attrs.length x.ac, .int .i64 x.size], .agg #[.int .i64 y.kind, .string y.tag, .string y.text, .slice y.aa y.attrs.length y.ac, .int .i64 y.size]] w (fun e w' => e = .returned (.bool true) ∧ Below w.heap.size w w') := by
  have e1 : y.kind = x.kind := show (strip y).kind = (strip x).kind by rw [hxy]
  have e2 : y.tag = x.tag := show (strip y).tag = (strip x).tag by rw [hxy]
  have e3 : y.text = x.text := show (strip y).text = (strip x).text by rw [hxy]
  have e4 : y.attrs = x.attrs := show (strip y).attrs = (strip x).attrs by rw [hxy]
  have e5 : y.size = x.size := show (strip y).size = (strip x).size by rw [hxy]
  rw [e4] at hy
  rw [e1, e2, e3, e4, e5]
  clear hxy e1 e2 e3 e4 e5
  obtain ⟨ya, hya⟩ : ∃ ya, ya = y.aa := ⟨_, rfl⟩
  obtain ⟨yc, hyc⟩ : ∃ yc, yc = y.ac := ⟨_, rfl⟩
  rw [← hya] at hy ⊢
  rw [← hyc]
  clear hya hyc
  have HX := Lib.hid hx
  have HY := Lib.hid hy
  obtain ⟨W0, hW0⟩ : ∃ W0, W0 = (w.alloc (.cells #[.int .i64 x.kind, .string x.tag, .string x.text, .slice x.aa x.attrs.length x.ac, .int .i64 x.size] 47)).alloc (.cells #[.int .i64 x.kind, .string x.tag, .string x.text, .slice ya x.attrs.length yc, .int .i64 x.size] 47) := ⟨_, rfl⟩
  have hb0 : Below w.heap.size w W0 := by rw [hW0]; exact ((Below.refl _ _).alloc (Nat.le_refl _) _).alloc (by rw [World.size_alloc]; omega) _
  have HB0 := Lib.hid hb0
  have hs0 : w.heap.size + 2 ≤ W0.heap.size := by rw [hW0, World.size_alloc, World.size_alloc]; omega
  have HQ : Hid (∀ W, Below W0.heap.size W0 W → W.cell? ⟨w.heap.size, 3, none⟩ = some (.slice x.aa x.attrs.length x.ac) ∧ W.cell? ⟨w.heap.size + 1, 3, none⟩ = some (.slice ya x.attrs.length yc)) := by
    intro W hb
    have q0 : W.heap[w.heap.size]? = some (.cells #[.int .i64 x.kind, .string x.tag, .string x.text, .slice x.aa x.attrs.length x.ac, .int .i64 x.size] 47 (0, 0)) := by
      rw [hb.block _ (by omega), hW0, Below.heap_alloc _ _ _ (by rw [World.size_alloc]; omega)]; exact heap_alloc_new w _
    have q1 : W.heap[w.heap.size + 1]? = some (.cells #[.int .i64 x.kind, .string x.tag, .string x.text, .slice ya x.attrs.length yc, .int .i64 x.size] 47 (0, 0)) := by
      rw [hb.block _ (by omega), hW0]
      have := heap_alloc_new (w.alloc (.cells #[.int .i64 x.kind, .string x.tag, .string x.text, .slice x.aa x.attrs.length x.ac, .int .i64 x.size] 47)) (.cells #[.int .i64 x.kind, .string x.tag, .string x.text, .slice ya x.attrs.length yc, .int .i64 x.size] 47)
      rwa [World.size_alloc] at this
    exact ⟨by rw [cell_of_row W _ _ _ _ _ q0]; rfl, by rw [cell_of_row W _ _ _ _ _ q1]; rfl⟩
  clear hx hy hb0
  go_enter Try.func35, Try.ntmps35
  go_wp2_with fail
  rw [← hW0]
  clear hW0
  go_loopw [5] (fun v wr => ∃ i q : Nat, i ≤ x.attrs.length ∧ v = .int .i64 i ∧ wr = W0.drewN q) (fun v _ => x.attrs.length - (intOf v).toNat)
  case atStart => exact ⟨0, 0, Nat.zero_le _, rfl, rfl⟩
  case round =>
    obtain ⟨i, q, hi, rfl, rfl⟩ := hrel
    have hb := below_drewN (Below.refl W0.heap.size W0) q
    obtain ⟨q3, r3⟩ := HQ.out _ hb
    have HBw := Lib.hid (HB0.out.trans (hb.mono (show w.heap.size ≤ W0.heap.size by omega)))
    clear hb
    obtain ⟨W, hW⟩ : ∃ W, W = W0.drewN q := ⟨_, rfl⟩
    rw [← hW] at q3 r3 HBw ⊢
    have HW := Lib.hid hW
    clear hW
    by_cases hlt : i < x.attrs.length
    · have HXi := (HX.out.below HBw.out).more HBw.out.size
      have HYi := (HY.out.below HBw.out).more HBw.out.size
      obtain ⟨b, o, hao, hbB, hc⟩ := HXi.2.2.resolve_left (fun h0 => by rw [h0] at hlt; simp at hlt)
      obtain ⟨b2, o2, hao2, hbB2, hc2⟩ := HYi.2.2.resolve_left (fun h0 => by rw [h0] at hlt; simp at hlt)
      obtain ⟨g1, g2⟩ := hc i hlt
      obtain ⟨k1, k2⟩ := hc2 i hlt
      rw [List.getD_eq_getElem?_getD, List.getElem?_eq_getElem hlt, Option.getD_some] at g1 g2 k1 k2
      obtain ⟨z, hz⟩ : ∃ z, z = x.attrs[i] := ⟨_, rfl⟩
      rw [← hz] at g1 g2 k1 k2
      rw [hao] at q3
      rw [hao2] at r3
      have heq : ∀ w : World, (binOp .neq 96 (.agg #[.string z.key, .string z.val]) (.agg #[.string z.key, .string z.val])).run Try.prog w = .ok (.bool false) w := fun w => attr_neq z.key z.val w
      have e1 : IntKind.i64.wrap (i : Int) = (i : Int) := IntWalk.i64_in _ ⟨by omega, by omega⟩
      clear hc hc2 HXi HYi hz hao hao2
      go_wp2_with fail
      go_quiet (fail)
      go_wp2_with fail
      go_roundw
      case rel => exact ⟨i + 1, q + nq, by omega, by go_num, by rw [HW.out, World.drewN_drewN]⟩
      case measure => simp [intOf]; omega
    · go_wp2_with fail
      go_ret
      exact ⟨rfl, HBw.out⟩
end Go.Proofs.Ytmhhfljbocbolaa

namespace Go.Proofs.Ytmhhfljbocbolaa
open Go.RowKit
set_option linter.unusedVariables false

set_option maxRecDepth 100000 in
set_option maxHeartbeats 8000000 in
theorem sameTree_yes (A Bs : List Nd) (h : A.map strip = Bs.map strip) (hg : ∀ x ∈ A, x.attrs.length ≤ 1000) (hl : A.length ≤ 100000) (a : Option Addr) (c : Nat) (a2 : Option Addr) (c2 : Nat) (w : World) (h1 : NSl w w.heap.size a A) (h2 : NSl w w.heap.size a2 Bs) :
    Calls Try.prog 18 #[.slice a A.length c, .slice a2 Bs.length c2] w (fun e w' => e = .returned (.bool true) ∧ Below w.heap.size w w') := by
  have hlen : Bs.length = A.length := by have := congrArg List.length h; simpa using this.symm
  rw [hlen]
  have H1 := Lib.hid h1
  have H2 := Lib.hid h2
  have HS := Lib.hid h
  have HG := Lib.hid hg
  have HLn := Lib.hid hlen
  clear h1 h2 h hg hlen
  go_enter Try.func18, Try.ntmps18
  go_wp2_with fail
  go_loopw [5] (fun v wr => ∃ i : Nat, i ≤ A.length ∧ v = .int .i64 i ∧ Below w.heap.size w wr) (fun v _ => A.length - (intOf v).toNat)
  case atStart => exact ⟨0, Nat.zero_le _, rfl, Below.refl _ _⟩
  case round =>
    obtain ⟨i, hi, rfl, hb⟩ := hrel
    obtain ⟨wi, rfl⟩ : ∃ wi : World, wi = wr := ⟨_, rfl⟩
    have HB := Lib.hid hb
    by_cases hlt : i < A.length
    · have hlt2 : i < Bs.length := by rw [HLn.out]; exact hlt
      obtain ⟨b1, o1, rfl, hbB1, hc1⟩ := H1.out.at_ (by omega)
      obtain ⟨b2, o2, rfl, hbB2, hc2⟩ := H2.out.at_ (by omega)
      have p1 : ∀ {j v}, w.cell? ⟨b1, j, none⟩ = some v → wi.cell? ⟨b1, j, none⟩ = some v := fun h => (hb.cell (p := ⟨b1, _, none⟩) hbB1).trans h
      have p2 : ∀ {j v}, w.cell? ⟨b2, j, none⟩ = some v → wi.cell? ⟨b2, j, none⟩ = some v := fun h => (hb.cell (p := ⟨b2, _, none⟩) hbB2).trans h
      obtain ⟨g1, g2, g3, g4, g5, hok1⟩ := hc1 i hlt
      obtain ⟨k1, k2, k3, k4, k5, hok2⟩ := hc2 i hlt2
      have hst : strip A[i] = strip Bs[i] := by
        have := congrArg (fun l => l[i]?) HS.out
        simpa [List.getElem?_eq_getElem hlt, List.getElem?_eq_getElem hlt2] using this
      have hw := HG.out A[i] (List.getElem_mem hlt)
      obtain ⟨x, hx⟩ : ∃ x, x = A[i] := ⟨_, rfl⟩
      obtain ⟨y, hy⟩ : ∃ y, y = Bs[i] := ⟨_, rfl⟩
      rw [← hx] at g1 g2 g3 g4 g5 hok1 hst hw
      rw [← hy] at k1 k2 k3 k4 k5 hok2 hst
      have e1 : y.kind = x.kind := show (strip y).kind = (strip x).kind by rw [hst]
      have e2 : y.tag = x.tag := show (strip y).tag = (strip x).tag by rw [hst]
      have e3 : y.text = x.text := show (strip y).text = (strip x).text by rw [hst]
      have e4 : y.attrs = x.attrs := show (strip y).attrs = (strip x).attrs by rw [hst]
      have e5 : y.size = x.size := show (strip y).size = (strip x).size by rw [hst]
      have HX := Lib.hid (hok1.attrs.below hb)
      have HY := Lib.hid (hok2.attrs.below hb)
      have HA : Hid (∀ W, Below wi.heap.size wi W → Calls Try.prog 35 #[.agg #[.int .i64 x.kind, .string x.tag, .string x.text, .slice x.aa x.attrs.length x.ac, .int .i64 x.size], .agg #[.int .i64 x.kind, .string x.tag, .string x.text, .slice y.aa x.attrs.length y.ac, .int .i64 x.size]] W (fun e w' => e = .returned (.bool true) ∧ Below W.heap.size W w')) := fun W hW => by
        have hwW := hb.trans (hW.mono hb.size)
        have := sameNode_yes x y hst.symm hw W ((hok1.attrs.below hwW).more hwW.size) ((hok2.attrs.below hwW).more hwW.size)
        rw [e1, e2, e3, e4, e5] at this
        exact this
      replace g1 := p1 g1
      replace g2 := p1 g2
      replace g3 := p1 g3
      replace g4 := p1 g4
      replace g5 := p1 g5
      replace k1 := p2 k1
      replace k2 := p2 k2
      replace k3 := p2 k3
      replace k4 := p2 k4
      replace k5 := p2 k5
      rw [e1] at k1
      rw [e2] at k2
      rw [e3] at k3
      rw [e4] at k4
      rw [e5] at k5
      have HC : Hid (∀ W, Below wi.heap.size wi W → W.cell? ⟨b1, o1 + i * 5, none⟩ = some (.int .i64 x.kind) ∧ W.cell? ⟨b1, o1 + i * 5 + 1, none⟩ = some (.string x.tag) ∧ W.cell? ⟨b1, o1 + i * 5 + 2, none⟩ = some (.string x.text) ∧ W.cell? ⟨b1, o1 + i * 5 + 3, none⟩ = some (.slice x.aa x.attrs.length x.ac) ∧ W.cell? ⟨b1, o1 + i * 5 + 4, none⟩ = some (.int .i64 x.size) ∧ W.cell? ⟨b2, o2 + i * 5, none⟩ = some (.int .i64 x.kind) ∧ W.cell? ⟨b2, o2 + i * 5 + 1, none⟩ = some (.string x.tag) ∧ W.cell? ⟨b2, o2 + i * 5 + 2, none⟩ = some (.string x.text) ∧ W.cell? ⟨b2, o2 + i * 5 + 3, none⟩ = some (.slice y.aa x.attrs.length y.ac) ∧ W.cell? ⟨b2, o2 + i * 5 + 4, none⟩ = some (.int .i64 x.size)) := fun W hW => by
        have q1 : ∀ {j v}, wi.cell? ⟨b1, j, none⟩ = some v → W.cell? ⟨b1, j, none⟩ = some v := fun h => (hW.cell (p := ⟨b1, _, none⟩) (by have := hb.size; show b1 < _; omega)).trans h
        have q2 : ∀ {j v}, wi.cell? ⟨b2, j, none⟩ = some v → W.cell? ⟨b2, j, none⟩ = some v := fun h => (hW.cell (p := ⟨b2, _, none⟩) (by have := hb.size; show b2 < _; omega)).trans h
        exact ⟨q1 g1, q1 g2, q1 g3, q1 g4, q1 g5, q2 k1, q2 k2, q2 k3, q2 k4, q2 k5⟩
      clear hc1 hc2 p1 p2 hst hw hx hy e1 e2 e3 e4 e5 hok1 hok2 hb
      go_wp2_with fail
      refine wp_region_G ((fun (_ : Array Bool) w' => w'.cell? ⟨b1, o1 + i * 5, none⟩ = some (.int .i64 x.kind) ∧ w'.cell? ⟨b1, o1 + i * 5 + 1, none⟩ = some (.string x.tag) ∧ w'.cell? ⟨b1, o1 + i * 5 + 2, none⟩ = some (.string x.text) ∧ w'.cell? ⟨b1, o1 + i * 5 + 3, none⟩ = some (.slice x.aa x.attrs.length x.ac) ∧ w'.cell? ⟨b1, o1 + i * 5 + 4, none⟩ = some (.int .i64 x.size) ∧ w'.cell? ⟨b2, o2 + i * 5, none⟩ = some (.int .i64 x.kind) ∧ w'.cell? ⟨b2, o2 + i * 5 + 1, none⟩ = some (.string x.tag) ∧ w'.cell? ⟨b2, o2 + i * 5 + 2, none⟩ = some (.string x.text) ∧ w'.cell? ⟨b2, o2 + i * 5 + 3, none⟩ = some (.slice y.aa x.attrs.length y.ac) ∧ w'.cell? ⟨b2, o2 + i * 5 + 4, none⟩ = some (.int .i64 x.size))) (by kernel_rfl) ?_
      have hG0 : (fun (_ : Array Bool) w' => w'.cell? ⟨b1, o1 + i * 5, none⟩ = some (.int .i64 x.kind) ∧ w'.cell? ⟨b1, o1 + i * 5 + 1, none⟩ = some (.string x.tag) ∧ w'.cell? ⟨b1, o1 + i * 5 + 2, none⟩ = some (.string x.text) ∧ w'.cell? ⟨b1, o1 + i * 5 + 3, none⟩ = some (.slice x.aa x.attrs.length x.ac) ∧ w'.cell? ⟨b1, o1 + i * 5 + 4, none⟩ = some (.int .i64 x.size) ∧ w'.cell? ⟨b2, o2 + i * 5, none⟩ = some (.int .i64 x.kind) ∧ w'.cell? ⟨b2, o2 + i * 5 + 1, none⟩ = some (.string x.tag) ∧ w'.cell? ⟨b2, o2 + i * 5 + 2, none⟩ = some (.string x.text) ∧ w'.cell? ⟨b2, o2 + i * 5 + 3, none⟩ = some (.slice y.aa x.attrs.length y.ac) ∧ w'.cell? ⟨b2, o2 + i * 5 + 4, none⟩ = some (.int .i64 x.size)) (Array.replicate 10 false) wi.drew := ⟨g1, g2, g3, g4, g5, k1, k2, k3, k4, k5⟩
      refine wpAnyG_take0 (i := 0) (v := ?v0) (by simp only [List.getElem?_toArray, List.getElem?_cons_zero]; rfl) (by decide +kernel) (by decide +kernel) (by decide +kernel) (by intro _ _ _ h; exact h) (fun l w => Iff.rfl) (Or.inl ⟨by rfl, ?hy0⟩) hG0 (fun hG1 => ?rest0)
      case hy0 => intro W' _; go_simp <;> with_reducible rfl
      clear hG0
      simp only [Act.put, List.setIfInBounds_toArray]
      refine wpAnyG_take0 (i := 1) (v := ?v1) (by simp only [List.getElem?_toArray, List.getElem?_cons_succ, List.getElem?_cons_zero]; rfl) (by decide +kernel) (by decide +kernel) (by decide +kernel) (by intro _ _ _ h; exact h) (fun l w => Iff.rfl) (Or.inl ⟨by rfl, ?hy1⟩) hG1 (fun hG2 => ?rest1)
      case hy1 => intro W' _; go_simp <;> with_reducible rfl
      clear hG1
      simp only [Act.put]
      refine wpAnyG_take0 (i := 2) (v := ?v2) (by simp only [List.getElem?_toArray, List.getElem?_cons_succ, List.getElem?_cons_zero]; rfl) (by decide +kernel) (by decide +kernel) (by decide +kernel) (by intro _ _ _ h; exact h) (fun l w => Iff.rfl) (Or.inl ⟨by rfl, ?hy2⟩) hG2 (fun hG3 => ?rest2)
      case hy2 => intro W' _; go_simp <;> with_reducible rfl
      clear hG2
      simp only [Act.put]
      refine wpAnyG_take (i := 3) (f := 8) (v := ?v3) (by simp only [List.getElem?_toArray, List.getElem?_cons_succ, List.getElem?_cons_zero]; rfl) (by decide +kernel) (by decide +kernel) (by decide +kernel) (by decide +kernel) rfl rfl (by intro _ _ _ h; exact h) (fun _ _ h g => g) (fun l w => Iff.rfl) (Or.inl ⟨by rfl, ?hy3⟩) hG3 (fun hG4 => ?rest3)
      case hy3 => intro W' hS; (try dsimp only at hS); go_simp <;> with_reducible rfl
      clear hG3
      simp only [Act.put]
      refine wpAnyG_take0 (i := 4) (v := ?v4) (by simp only [List.getElem?_toArray, List.getElem?_cons_succ, List.getElem?_cons_zero]; rfl) (by decide +kernel) (by decide +kernel) (by decide +kernel) (by intro _ _ _ h; exact h) (fun l w => Iff.rfl) (Or.inl ⟨by rfl, ?hy4⟩) hG4 (fun hG5 => ?rest4)
      case hy4 => intro W' _; go_simp <;> with_reducible rfl
      clear hG4
      simp only [Act.put]
      refine wpAnyG_take0 (i := 5) (v := ?v5) (by simp only [List.getElem?_toArray, List.getElem?_cons_succ, List.getElem?_cons_zero]; rfl) (by decide +kernel) (by decide +kernel) (by decide +kernel) (by intro _ _ _ h; exact h) (fun l w => Iff.rfl) (Or.inl ⟨by rfl, ?hy5⟩) hG5 (fun hG6 => ?rest5)
      case hy5 => intro W' _; go_simp <;> with_reducible rfl
      clear hG5
      simp only [Act.put]
      refine wpAnyG_take0 (i := 6) (v := ?v6) (by simp only [List.getElem?_toArray, List.getElem?_cons_succ, List.getElem?_cons_zero]; rfl) (by decide +kernel) (by decide +kernel) (by decide +kernel) (by intro _ _ _ h; exact h) (fun l w => Iff.rfl) (Or.inl ⟨by rfl, ?hy6⟩) hG6 (fun hG7 => ?rest6)
      case hy6 => intro W' _; go_simp <;> with_reducible rfl
      clear hG6
      simp only [Act.put]
      refine wpAnyG_take (i := 7) (f := 8) (v := ?v7) (by simp only [List.getElem?_toArray, List.getElem?_cons_succ, List.getElem?_cons_zero]; rfl) (by decide +kernel) (by decide +kernel) (by decide +kernel) (by decide +kernel) rfl rfl (by intro _ _ _ h; exact h) (fun _ _ h g => g) (fun l w => Iff.rfl) (Or.inl ⟨by rfl, ?hy7⟩) hG7 (fun hG8 => ?rest7)
      case hy7 => intro W' hS; (try dsimp only at hS); go_simp <;> with_reducible rfl
      clear hG7
      simp only [Act.put]
      refine wpAnyG_one (i := 8) (by decide +kernel) rfl (fun K' hK => ?_)
      go_simp
      go_at_call 35
      refine (HA.out _ (Below.refl _ _).drew).mono ?_
      rintro e w3 ⟨rfl, hb3⟩
      have hb3' : Below wi.heap.size wi w3 := (Below.refl _ _).drew.trans hb3
      have HB3 := Lib.hid hb3'
      refine hK.out _ _ (HC.out w3 hb3') (fun hG100 => ?_); clear hK K' hb3 hb3' hG8
      refine wpAnyG_take0 (i := 9) (v := ?v9) (by simp only [List.getElem?_toArray, List.getElem?_cons_succ, List.getElem?_cons_zero]; rfl) (by decide +kernel) (by decide +kernel) (by decide +kernel) (by intro _ _ _ h; exact h) (fun l w => Iff.rfl) (Or.inl ⟨by rfl, ?hy9⟩) hG100 (fun hG101 => ?rest9)
      case hy9 => intro W' _; go_simp <;> with_reducible rfl
      clear hG100
      simp only [Act.put]
      refine wpAnyG_done (by decide +kernel) ?_ _
      go_wp2_with fail
      go_roundw
      case rel => exact ⟨i + 1, by omega, by go_num, HB.out.trans (HB3.out.mono HB.out.size)⟩
      case measure => simp [intOf]; omega
    · go_wp2_with fail
      go_ret
      exact ⟨rfl, HB.out⟩
end Go.Proofs.Ytmhhfljbocbolaa


namespace Go.Proofs.Ytmhhfljbocbolaa
set_option linter.unusedVariables false

theorem outL_first {t : List Nd} (hR : RightP t) : outL (fo0 t) (sz t) (ndT t) 0 = t.map strip := by
  unfold outL
  rw [fo0_all hR _ _ (Nat.le_refl _) hR.pos, hR.top]
  refine List.ext_getElem (by simp) fun i h1 h2 => ?_
  have hi : i < t.length := by simpa using h2
  rw [List.getElem_map, List.getElem_map, List.getElem_range']
  have e0 : 0 + 1 * i = i := by omega
  rw [e0, fo0_all hR _ _ (Nat.le_refl _) hi, List.length_range']
  have e1 : ndT t i = t[i] := getD_at hi
  rw [e1]
  have e2 : t[i].size = (sz t i : Int) := size_at hi (hR.lam i (Nat.zero_le _) hi).1
  show strip { t[i] with size := (sz t i : Int) } = strip t[i]
  rw [← e2]

theorem clear_none {F : Fo} {S : Nat → Prop} {h : Nat → Nat} (o : F.Ok S h) : ∀ {ms : List Nat}, ms.flatMap F.kids = [] → clearAll F ms = F := by
  intro ms
  induction ms with
  | nil => intro _; rfl
  | cons m ms ih =>
    intro hf
    rw [List.flatMap_cons, List.append_eq_nil_iff] at hf
    show clearAll (F.clear m) ms = F
    rw [Fo.clear_done o hf.1]
    exact ih hf.2
end Go.Proofs.Ytmhhfljbocbolaa

namespace Go.Proofs.Ytmhhfljbocbolaa
open Go.RowKit
set_option linter.unusedVariables false

def SzAt (A : List Nd) (F : Fo) (h : Nat → Nat) (k y : Nat) : Prop := ∀ j z, (F.all h y)[j]? = some z → ∃ e, A[k + j]? = some e ∧ e.size = ((F.all h z).length : Int)

theorem szAt_root {A : List Nd} {F : Fo} {h : Nat → Nat} {nd : Nat → Nd} (hs : A.map strip = outL F h nd 0) : SzAt A F h 0 0 := by
  intro j z hz
  have h1 := congrArg (fun l => l[j]?) hs
  unfold outL at h1
  simp only [List.getElem?_map, hz, Option.map_some] at h1
  obtain ⟨e, he, e2⟩ := Option.map_eq_some_iff.1 h1
  exact ⟨e, by rw [Nat.zero_add]; exact he, show (strip e).size = _ by rw [e2]; rfl⟩

theorem szAt_kid {A : List Nd} {F : Fo} {S : Nat → Prop} {h : Nat → Nat} (o : F.Ok S h) {k y j : Nat} (hA : SzAt A F h k y) (hj : j < (F.kids y).length) : SzAt A F h (k + 1 + (soFar F h y j).length) (F.kids y)[j] := by
  intro q z hz
  have e : F.all h y = (y :: soFar F h y j) ++ (F.all h (F.kids y)[j] ++ ((F.kids y).drop (j + 1)).flatMap (F.all h)) := by
    rw [F.all_eq o y]
    unfold soFar
    conv => lhs; rw [← List.take_append_drop j (F.kids y), List.drop_eq_getElem_cons hj, List.flatMap_append, List.flatMap_cons]
    rfl
  have hq := (List.getElem?_eq_some_iff.1 hz).1
  have h1 : (F.all h y)[1 + (soFar F h y j).length + q]? = some z := by
    rw [e, List.getElem?_append_right (by simp; omega), List.length_cons]
    have e2 : 1 + (soFar F h y j).length + q - ((soFar F h y j).length + 1) = q := by omega
    rw [e2, List.getElem?_append_left hq]; exact hz
  obtain ⟨x, hx, e3⟩ := hA _ z h1
  refine ⟨x, ?_, e3⟩
  rw [← hx]; congr 1; omega

set_option maxRecDepth 100000 in
set_option maxHeartbeats 2000000 in
theorem sized_yes {F : Fo} {S : Nat → Prop} {h : Nat → Nat} (o : F.Ok S h) (A : List Nd) (hA : A.length ≤ 100000) (a : Option Addr) (c : Nat) (d : Nat) : ∀ (y k en deep : Nat) (I E D : Int) (w : World), I = k → E = en → D = deep → h y < d → h y < deep → deep ≤ 100000 → SzAt A F h k y → k + (F.all h y).length ≤ en → en ≤ A.length → NSl w w.heap.size a A →
    Calls Try.prog 57 #[.slice a A.length c, .int .i64 I, .int .i64 E, .int .i64 D] w (fun e w' => e = .returned (.bool true) ∧ w = w') := by
  induction d with
  | zero => intro y k en deep I E D w _ _ _ hd; omega
  | succ d ih =>
    rintro y i en deep I E D w rfl rfl rfl hd hdp hdl hsz hen hea hM
    have hp := kids_len o y
    have h0 : (F.all h y)[0]? = some y := by rw [F.all_eq o y]; rfl
    obtain ⟨x, hx, hxs⟩ := hsz 0 y h0
    rw [Nat.add_zero] at hx
    have hi : i < A.length := (List.getElem?_eq_some_iff.1 hx).1
    have HI := Lib.hid ih
    have HH := Lib.hid hM
    have HO := Lib.hid o
    have HSz := Lib.hid hsz
    obtain ⟨b, off, rfl, hbB, hc⟩ := hM.at_ (by omega)
    obtain ⟨-, -, -, -, h5, -⟩ := hc i hi
    have HC := Lib.hid hc
    rw [List.getElem?_eq_getElem hi] at hx
    injection hx with hx
    rw [hx, hxs] at h5
    clear hc hM ih hx hxs h0 hsz o
    obtain ⟨n, hn⟩ : ∃ n, n = (F.all h y).length := ⟨_, rfl⟩
    rw [← hn] at h5 hen hp
    have HN := Lib.hid hn
    clear hn
    have hdd : 1 ≤ deep := by omega
    have hn1 : 1 ≤ n := by omega
    have k0 : ((deep : Int) == 0) = false := beq_eq_false_iff_ne.2 (by omega)
    have k1 : ¬ ((n : Int) < 1) := by omega
    have k2 : ¬ ((en : Int) - (i : Int) < (n : Int)) := by omega
    go_enter Try.func57, Try.ntmps57
    go_wp2_with fail
    go_loopw [10] (fun v wr => ∃ j : Nat, j ≤ (F.kids y).length ∧ v = .int .i64 ((i + 1 + (soFar F h y j).length : Nat) : Int) ∧ w = wr) (fun v _ => i + n - (intOf v).toNat)
    case atStart => exact ⟨0, Nat.zero_le _, by simp [soFar], rfl⟩
    case round =>
      obtain ⟨j, hj, rfl, rfl⟩ := hrel
      have hsf := soFar_len HO.out y j
      rw [← HN.out] at hsf
      by_cases hlt : j < (F.kids y).length
      · have hsf2 := soFar_len HO.out y (j + 1)
        rw [soFar_succ F h y j hlt, List.length_append, ← HN.out] at hsf2
        have hky := HO.out.ht _ _ ((HO.out.mem y _).1 (List.getElem_mem hlt))
        have hkz := szAt_kid HO.out HSz.out hlt
        have hk1 := kids_len HO.out (F.kids y)[j]
        have h0 : (F.all h (F.kids y)[j])[0]? = some (F.kids y)[j] := by rw [F.all_eq HO.out (F.kids y)[j]]; rfl
        obtain ⟨x2, hx2, hx2s⟩ := hkz 0 _ h0
        have HNx : Hid ((soFar F h y (j + 1)).length = (soFar F h y j).length + (F.all h (F.kids y)[j]).length) := by rw [Hid, soFar_succ F h y j hlt, List.length_append]
        obtain ⟨m, hm⟩ : ∃ m, m = (soFar F h y j).length := ⟨_, rfl⟩
        obtain ⟨z, hz⟩ : ∃ z, z = (F.kids y)[j] := ⟨_, rfl⟩
        rw [← hm] at hsf2 hkz hx2 HNx
        rw [← hz] at hsf2 hkz HNx
        rw [← hz] at hky hk1 hx2s
        rw [← hm] at hsf ⊢
        obtain ⟨r, hr⟩ : ∃ r, r = (F.all h z).length := ⟨_, rfl⟩
        rw [← hr] at hsf2 hk1 hx2s HNx
        rw [Nat.add_zero] at hx2
        have hkt : i + 1 + m < A.length := (List.getElem?_eq_some_iff.1 hx2).1
        obtain ⟨-, -, -, -, g5, -⟩ := HC.out (i + 1 + m) hkt
        rw [List.getElem?_eq_getElem hkt] at hx2
        injection hx2 with hx2
        rw [hx2, hx2s] at g5
        have HCall := Lib.hid (HI.out z (i + 1 + m) (i + n) (deep - 1) ((i + 1 + m : Nat) : Int) ((i : Int) + (n : Int)) ((deep : Int) - 1) _ rfl (by omega) (by omega) (by omega) (by omega) (by omega) hkz (by rw [← hr]; omega) (by omega) HH.out)
        have HM := Lib.hid hm
        have hd1 : 1 ≤ deep := by omega
        clear hkz hx2 hx2s h0 hky hz hm hr
        go_wp2_with fail
        refine HCall.out.mono ?_
        rintro e w1 ⟨rfl, rfl⟩
        go_wp2_with fail
        go_roundw
        case rel => exact ⟨j + 1, by omega, by rw [HNx.out]; go_num, by trivial⟩
        case measure => simp [intOf]; omega
      · have e : j = (F.kids y).length := by omega
        subst e
        have hend : n = 1 + (soFar F h y (F.kids y).length).length := by rw [HN.out, ← soFar_end HO.out y, List.length_cons]; omega
        go_wp2_with fail
        go_ret
        exact ⟨rfl, rfl⟩
end Go.Proofs.Ytmhhfljbocbolaa

namespace Go.Proofs.Ytmhhfljbocbolaa
open Go.RowKit
set_option linter.unusedVariables false

set_option maxRecDepth 100000 in
set_option maxHeartbeats 2000000 in
theorem told7_yes (ad : Option Addr) (n c : Nat) (a : Option Addr) (m c1 : Nat) (a2 : Option Addr) (c2 : Nat) (w : World)
    (hS : Calls Try.prog 37 #[.slice a m c1] w (fun e w' => e = .returned (.bool true) ∧ Below w.heap.size w w')) :
    Calls Try.prog 20 #[.slice ad n c, .slice a m c1, .slice a2 n c2, .bool true] w (fun e w' => e = .returned (.bool true) ∧ Below w.heap.size w w') := by
  have H := Lib.hid hS
  clear hS
  have e : ((n : Int) == (n : Int)) = true := beq_iff_eq.2 rfl
  go_enter Try.func20, Try.ntmps20
  go_wp2_with fail
  refine H.out.mono ?_
  rintro e w1 ⟨rfl, hb⟩
  have HB := Lib.hid hb
  clear hb
  go_wp2_with fail
  go_ret
  exact ⟨by trivial, HB.out⟩
end Go.Proofs.Ytmhhfljbocbolaa

namespace Go.Proofs.Ytmhhfljbocbolaa
set_option linter.unusedVariables false

theorem flat_at {f : Nat → List Nat} : ∀ (l : List Nat) (i z : Nat), (l.flatMap f)[i]? = some z → ∃ l1 c l2 i2, l = l1 ++ c :: l2 ∧ i = (l1.flatMap f).length + i2 ∧ (f c)[i2]? = some z := by
  intro l
  induction l with
  | nil => intro i z h; simp at h
  | cons c l ih =>
    intro i z h
    rw [List.flatMap_cons] at h
    by_cases hlt : i < (f c).length
    · rw [List.getElem?_append_left hlt] at h
      exact ⟨[], c, l, i, rfl, by simp, h⟩
    · rw [List.getElem?_append_right (by omega)] at h
      obtain ⟨l1, c2, l2, i2, e1, e2, e3⟩ := ih _ _ h
      refine ⟨c :: l1, c2, l2, i2, by rw [e1]; rfl, ?_, e3⟩
      rw [List.flatMap_cons, List.length_append]; omega

theorem all_sub_at {F : Fo} {S : Nat → Prop} {h : Nat → Nat} (o : F.Ok S h) : ∀ (d y i z : Nat), h y < d → (F.all h y)[i]? = some z → ∀ q u, (F.all h z)[q]? = some u → (F.all h y)[i + q]? = some u := by
  intro d
  induction d with
  | zero => intro y i z hd; omega
  | succ d ih =>
    intro y i z hd hz q u hu
    cases i with
    | zero =>
      have e : z = y := by rw [F.all_eq o y] at hz; simpa using hz.symm
      rw [e] at hu; rw [Nat.zero_add]; exact hu
    | succ i =>
      rw [F.all_eq o y, List.getElem?_cons_succ] at hz
      obtain ⟨l1, c, l2, i2, e1, e2, e3⟩ := flat_at _ _ _ hz
      have hc : c ∈ F.kids y := by rw [e1]; simp
      have hh := o.ht _ _ ((o.mem y c).1 hc)
      have h1 := ih c i2 z (by omega) e3 q u hu
      have hlt := (List.getElem?_eq_some_iff.1 h1).1
      have e4 : i + 1 + q = i + q + 1 := by omega
      rw [F.all_eq o y, e4, List.getElem?_cons_succ, e1, List.flatMap_append, List.flatMap_cons, List.getElem?_append_right (by omega)]
      have e5 : i + q - (l1.flatMap (F.all h)).length = i2 + q := by omega
      rw [e5, List.getElem?_append_left hlt]; exact h1

theorem all_fits {F : Fo} {S : Nat → Prop} {h : Nat → Nat} (o : F.Ok S h) {y i z : Nat} (hz : (F.all h y)[i]? = some z) : 1 ≤ (F.all h z).length ∧ i + (F.all h z).length ≤ (F.all h y).length := by
  have h1 := kids_len o z
  have hl : (F.all h z).length - 1 < (F.all h z).length := by omega
  have h2 := all_sub_at o _ y i z (Nat.lt_succ_self _) hz _ _ (List.getElem?_eq_getElem hl)
  have := (List.getElem?_eq_some_iff.1 h2).1
  omega
end Go.Proofs.Ytmhhfljbocbolaa

namespace Go.Proofs.Ytmhhfljbocbolaa
open Go.RowKit
set_option linter.unusedVariables false

structure Shp (A : List Nd) : Prop where
  pos : 0 < A.length
  root : A[0]!.kind = 1 ∧ A[0]!.size = A.length
  size : ∀ i (h : i < A.length), 1 ≤ A[i].size ∧ A[i].size ≤ (A.length : Int) - i
  kind : ∀ i (h : i < A.length), 1 ≤ A[i].kind ∧ A[i].kind ≤ 5 ∧ (0 < i → A[i].kind ≠ 1)
  leaf : ∀ i (h : i < A.length), 1 < A[i].size → A[i].kind = 1 ∨ A[i].kind = 3

set_option maxRecDepth 100000 in
set_option maxHeartbeats 2000000 in
theorem shaped_yes {F : Fo} {S : Nat → Prop} {h : Nat → Nat} (o : F.Ok S h) {nd : Nat → Nd} (A : List Nd) (hA : A.length ≤ 100000) (hs : A.map strip = outL F h nd 0) (hh : h 0 < 2000) (hp : Shp A) (a : Option Addr) (c : Nat) (w : World) (hM : NSl w w.heap.size a A) :
    Calls Try.prog 37 #[.slice a A.length c] w (fun e w' => e = .returned (.bool true) ∧ Below w.heap.size w w') := by
  obtain ⟨b, off, rfl, hbB, hc⟩ := hM.at_ hp.pos
  obtain ⟨g1, -, -, -, g5, -⟩ := hc 0 hp.pos
  have r := hp.root
  have e0 : A[0]! = A[0]'hp.pos := by simp [hp.pos]
  rw [e0] at r
  rw [r.1] at g1
  rw [r.2] at g5
  rw [Nat.zero_mul, Nat.add_zero] at g1 g5
  have hl : (F.all h 0).length = A.length := by have := congrArg List.length hs; unfold outL at this; simpa using this.symm
  have HSz := Lib.hid (fun W hW => sized_yes o A hA (some ⟨b, off, none⟩) c 2000 0 0 A.length 2000 0 A.length 2000 W rfl rfl rfl hh hh (by omega) (szAt_root hs) (by omega) (Nat.le_refl _) hW)
  have HM := Lib.hid hM
  have HP := Lib.hid hp
  have HC := Lib.hid hc
  have hpos := hp.pos
  have k0 : ((A.length : Int) == 0) = false := beq_eq_false_iff_ne.2 (by omega)
  clear hc hM hp e0 r hl hs
  go_enter Try.func37, Try.ntmps37
  go_wp2_with fail
  go_loopw [3] (fun v wr => ∃ i : Nat, i ≤ A.length ∧ v = .int .i64 i ∧ Below w.heap.size w wr) (fun v _ => A.length - (intOf v).toNat)
  case atStart => exact ⟨0, Nat.zero_le _, rfl, Below.refl _ _⟩
  case round =>
    obtain ⟨i, hi, rfl, hb⟩ := hrel
    have HB := Lib.hid hb
    by_cases hlt : i < A.length
    · obtain ⟨q1, q2, q3, q4, q5, -⟩ := HC.out i hlt
      have p : ∀ {j v}, w.cell? ⟨b, j, none⟩ = some v → wr.cell? ⟨b, j, none⟩ = some v := fun h => (hb.cell (p := ⟨b, _, none⟩) hbB).trans h
      replace q1 := p q1
      replace q2 := p q2
      replace q3 := p q3
      replace q4 := p q4
      replace q5 := p q5
      have z1 := HP.out.size i hlt
      have z2 := HP.out.kind i hlt
      have z3 := HP.out.leaf i hlt
      obtain ⟨x, hx⟩ : ∃ x, x = A[i] := ⟨_, rfl⟩
      rw [← hx] at q1 q2 q3 q4 q5 z1 z2 z3
      clear hx p hb
      have a1 : ¬ (x.size < 1) := by omega
      have a2 : ¬ ((A.length : Int) - (i : Int) < x.size) := by omega
      have a3 : ¬ (x.kind < 1) := by omega
      have a4 : ¬ (5 < x.kind) := by omega
      have HRel : Hid (∀ W, Below wr.heap.size wr W → Below w.heap.size w W) := fun W hW => HB.out.trans (hW.mono HB.out.size)
      have key : ((0 : Int) < (i : Int) ∧ (x.kind == 1) = false) ∨ ¬ ((0 : Int) < (i : Int)) := by
        by_cases h0 : 0 < i
        · exact .inl ⟨by omega, beq_eq_false_iff_ne.2 (z2.2.2 h0)⟩
        · exact .inr (by omega)
      have key2 : ¬ (1 < x.size) ∨ (1 < x.size ∧ (x.kind != 1) = false) ∨ (1 < x.size ∧ (x.kind != 1) = true ∧ (x.kind != 3) = false) := by
        by_cases h1 : 1 < x.size
        · rcases z3 h1 with h2 | h2
          · exact .inr (.inl ⟨h1, by simp [h2]⟩)
          · exact .inr (.inr ⟨h1, by simp [h2], by simp [h2]⟩)
        · exact .inl h1
      clear z1 z2 z3
      rcases key with ⟨b1, b2⟩ | b1 <;> rcases key2 with d1 | ⟨d1, d2⟩ | ⟨d1, d2, d3⟩
      all_goals
        go_wp2_with fail
        go_roundw
        case rel => exact ⟨i + 1, by omega, by go_num, HRel.out _ ((Below.refl _ _).alloc (Nat.le_refl _) _)⟩
        case measure => simp [intOf]; omega
    · go_wp2_with fail
      refine (HSz.out _ (HM.out.up HB.out)).mono ?_
      rintro e w2 ⟨rfl, rfl⟩
      go_wp2_with fail
      go_ret
      exact ⟨rfl, HB.out⟩
end Go.Proofs.Ytmhhfljbocbolaa

namespace Go.Proofs.Ytmhhfljbocbolaa
open Go.RowKit
set_option linter.unusedVariables false

/-- A listing is shaped where the kinds fit. -/
theorem shp_of {F : Fo} {S : Nat → Prop} {h : Nat → Nat} (o : F.Ok S h) {nd : Nat → Nd} {A : List Nd} (hs : A.map strip = outL F h nd 0) (h0 : (nd 0).kind = 1)
    (hk : ∀ y ∈ F.all h 0, 1 ≤ (nd y).kind ∧ (nd y).kind ≤ 5 ∧ (y ≠ 0 → (nd y).kind ≠ 1)) (hl : ∀ y ∈ F.all h 0, F.kids y ≠ [] → (nd y).kind = 1 ∨ (nd y).kind = 3) : Shp A := by
  have hlen : A.length = (F.all h 0).length := by have := congrArg List.length hs; unfold outL at this; simpa using this
  have hat : ∀ i (hi : i < A.length), ∃ z, (F.all h 0)[i]? = some z ∧ A[i].kind = (nd z).kind ∧ A[i].size = ((F.all h z).length : Int) := by
    intro i hi
    have hz : (F.all h 0)[i]? = some ((F.all h 0)[i]'(by omega)) := List.getElem?_eq_getElem _
    refine ⟨_, hz, ?_⟩
    have h1 := congrArg (fun l => l[i]?) hs
    unfold outL at h1
    simp only [List.getElem?_map, hz, Option.map_some, List.getElem?_eq_getElem hi, Option.some.injEq] at h1
    exact ⟨show (strip A[i]).kind = _ by rw [h1]; rfl, show (strip A[i]).size = _ by rw [h1]; rfl⟩
  have hp : 0 < A.length := by rw [hlen, F.all_eq o 0]; simp
  have hn := Fo.all_nodup o _ 0 (Nat.le_refl _)
  have hz0 : (F.all h 0)[0]? = some 0 := by rw [F.all_eq o 0]; rfl
  refine ⟨hp, ?_, fun i hi => ?_, fun i hi => ?_, fun i hi hs1 => ?_⟩
  · obtain ⟨z, hz, e1, e2⟩ := hat 0 hp
    rw [hz0] at hz
    injection hz with hz
    subst hz
    have e0 : A[0]! = A[0]'hp := by simp [hp]
    rw [e0, e1, e2, hlen]
    exact ⟨h0, rfl⟩
  · obtain ⟨z, hz, e1, e2⟩ := hat i hi
    have := all_fits o hz
    rw [e2, hlen]; omega
  · obtain ⟨z, hz, e1, e2⟩ := hat i hi
    obtain ⟨k1, k2, k3⟩ := hk z (List.mem_of_getElem? hz)
    rw [e1]
    refine ⟨k1, k2, fun hpos => k3 fun e => ?_⟩
    subst e
    have := (List.getElem?_inj (i := i) (j := 0) (by rw [← hlen]; exact hi) hn).1 (hz.trans hz0.symm)
    omega
  · obtain ⟨z, hz, e1, e2⟩ := hat i hi
    rw [e2] at hs1
    rw [e1]
    refine hl z (List.mem_of_getElem? hz) fun e => ?_
    rw [F.all_eq o z, e] at hs1
    simp at hs1

theorem ndT_kind {t : List Nd} (hR : RightP t) {i : Nat} (hi : i < t.length) : 1 ≤ (ndT t i).kind ∧ (ndT t i).kind ≤ 5 ∧ (i ≠ 0 → (ndT t i).kind ≠ 1) := by
  have e : ndT t i = t[i] := getD_at hi
  have n := hR.node i hi
  rw [e]
  rcases n.kinds with h | h | h | h <;> omega

theorem ndT_leaf {t : List Nd} (hR : RightP t) {i : Nat} (hi : i < t.length) (hk : (fo0 t).kids i ≠ []) : (ndT t i).kind = 1 ∨ (ndT t i).kind = 3 := by
  have e : ndT t i = t[i] := getD_at hi
  have n := hR.node i hi
  rw [e]
  have h1 : t[i].size = 1 → False := fun hs => by
    have a1 := fo0_all hR _ i (Nat.le_refl _) hi
    have e2 : t[i].size = (sz t i : Int) := size_at hi (hR.lam i (Nat.zero_le _) hi).1
    have e3 : sz t i = 1 := by omega
    rw [e3, Fo.all_eq (fo0_ok hR)] at a1
    have h2 := congrArg List.length a1
    simp only [List.length_cons, List.length_range', Nat.add_eq_right] at h2
    have h3 := List.eq_nil_of_length_eq_zero h2
    cases hq : (fo0 t).kids i with
    | nil => exact hk hq
    | cons a l =>
      rw [hq, List.flatMap_cons, Fo.all_eq (fo0_ok hR)] at h3
      simp at h3
  rcases n.kinds with h | h | h | h
  · exact .inl h.1
  · exact (h1 h.2.1).elim
  · exact .inr h.1
  · exact (h1 h.2).elim

theorem shp_clear {t : List Nd} (hR : RightP t) (ms : List Nat) {A : List Nd} (hs : A.map strip = outL (clearAll (fo0 t) ms) (sz t) (ndT t) 0) : Shp A := by
  have o := fo0_ok hR
  have oc := clearAll_ok o ms
  have hm : ∀ y ∈ (clearAll (fo0 t) ms).all (sz t) 0, y < t.length := fun y hy => oc.all_mem (S := fun i => i < t.length) hR.pos hy
  refine shp_of oc hs hR.root (fun y hy => ndT_kind hR (hm y hy)) (fun y hy hk => ndT_leaf hR (hm y hy) fun e => hk ?_)
  rw [(clearAll_facts ms o y).2, e]; split <;> rfl

theorem len_outL {F : Fo} {h : Nat → Nat} {nd : Nat → Nd} {A : List Nd} (hs : A.map strip = outL F h nd 0) : A.length = (F.all h 0).length := by
  have := congrArg List.length hs; unfold outL at this; simpa using this

theorem flat_eq {t : List Nd} {ms : List Nat} (hms : ∀ m ∈ ms, m < t.length) : ms.flatMap (kidsL t) = ms.flatMap (fo0 t).kids := by
  induction ms with
  | nil => rfl
  | cons m ms ih => rw [List.flatMap_cons, List.flatMap_cons, ih (fun m hm => hms m (List.mem_cons_of_mem _ hm)), fo0_kids (hms m List.mem_cons_self)]

/-- The children of some nodes of a tree: places of it, each once. -/
theorem flat_ord {t : List Nd} (hR : RightP t) {ms : List Nat} (hms : ∀ m ∈ ms, m < t.length) (hn : ms.Nodup) : OrdP t.length (toI (ms.flatMap (kidsL t))) (ms.flatMap (kidsL t)) := by
  rw [flat_eq hms]
  refine ⟨rfl, fun k hk => ?_, flat_nodup (fo0_ok hR) hn⟩
  obtain ⟨m, hm, h2⟩ := List.mem_flatMap.1 hk
  exact ((fo0_ok hR).dom _ _ (((fo0_ok hR).mem m k).1 h2)).2

def EmLoop (t : List Nd) (ms : List Nat) (B : Nat) (W : World) (v x : Value) (wr : World) : Prop :=
  ∃ (k : Nat) (a1 : Option Addr) (c1 : Nat), k ≤ ms.length ∧ x = .int .i64 k ∧ v = .slice a1 (toI ((ms.take k).flatMap (kidsL t))).length c1 ∧ wr.ownsRow B 3 1 v (toI ((ms.take k).flatMap (kidsL t))).length (ivs (toI ((ms.take k).flatMap (kidsL t)))) ∧ Below W.heap.size W wr
end Go.Proofs.Ytmhhfljbocbolaa

namespace Go.Proofs.Ytmhhfljbocbolaa
open Go.RowKit
set_option linter.unusedVariables false

theorem ivs_toI (l : List Nat) : ivs (toI l) = ints l := by simp [ivs, toI, ints]

set_option maxRecDepth 100000 in
set_option maxHeartbeats 4000000 in
theorem FnEmptied_walk (ad : Option Addr) (len c : Nat) (t : List Nd) (a2 : Option Addr) (len2 c2 : Nat) (l : List Int) (w : World) (h : NSl w w.heap.size ad t ∧ len = t.length) (hi : ISl w w.heap.size a2 l ∧ len2 = l.length) :
    Calls Try.prog 4 #[.slice ad len c, .slice a2 len2 c2] w fun e w' => e = .returned (.bool true) ∧ Below w.heap.size w w' := by
  obtain ⟨h, rfl⟩ := h
  obtain ⟨hi, rfl⟩ := hi
  have HH := Lib.hid h
  have hll := hi.len
  have HI := Lib.hid hi
  unfold maxLen at hll
  clear h hi
  go_enter Try.func4, Try.ntmps4
  go_wp2_with fail
  refine (zzFits1_any _ _ t _ HH.out).mono ?_
  rintro e w1 ⟨rfl, hb1⟩
  have HB1 := Lib.hid hb1
  clear hb1
  cases hf : fits1 t
  · go_wp2_with fail
    go_ret
    exact ⟨rfl, HB1.out⟩
  by_cases k1 : 2147483647 < l.length
  · go_wp2_with fail
    go_ret
    exact ⟨rfl, HB1.out⟩
  have hl : l.length ≤ 2147483647 := by omega
  have HC : Hid (ChC t ad c (EmptyG t l) 7 a2 l.length c2 none 0 0 w1) := fun W sb hb hs => changedEmpty_any ad c t hf W (HH.out.up (bnext HB1.out hb)) sb a2 c2 l hl (HI.out.up (bnext HB1.out hb)) hs
  go_wp2_with fail
  refine (step7_any 7 a2 l.length c2 none 0 0 w1).mono ?_
  rintro e w2 ⟨rfl, hb2⟩
  have HB2 := Lib.hid hb2
  have HCW := Lib.hid (HC.out.up hb2)
  clear hb2
  go_wp2_with fail
  refine (sure7_any HCW.out).mono ?_
  rintro e w3 ⟨b, rfl, hy, hb3⟩
  have HB03 := Lib.hid (bnext HB1.out (bnext HB2.out hb3))
  cases b
  · clear hy hb3
    go_wp2_with fail
    go_ret
    exact ⟨rfl, HB03.out⟩
  obtain ⟨hR, F, S, hh, nd, ms, hCh, hne, hk3, rfl, rfl, rfl⟩ := hy rfl
  have ho := hCh.ord
  have hle := hR.le
  have hms := ho.lt
  have hnd := ho.asc
  have HR := Lib.hid hR
  have HE := Lib.hid (emptyOf_any ad c t hR a2 c2 l ms ho hl w3 (HH.out.up HB03.out) (HI.out.up HB03.out))
  have HLen : Hid (∀ k, ((ms.take k).flatMap (kidsL t)).length ≤ t.length) := fun k => by
    have := (flat_ord hR (ms := ms.take k) (fun m hm => hms m (List.mem_of_mem_take hm)) (hnd.sublist (List.take_sublist k ms))).len
    simpa [toI_length] using this
  have HLt := Lib.hid hms
  have HNd := Lib.hid hnd
  have HEq := Lib.hid ho.eq
  have HLm : Hid (l.length = ms.length) := by rw [Hid, ho.eq, List.length_map]
  clear hy hb3 hR hCh hne hk3 ho hms hnd
  go_wp2_with fail
  refine HE.out.mono ?_
  rintro e w4 ⟨a3, m3, c3, a4, m4, c4, rfl, hO, hb4⟩
  have HB4 := Lib.hid (bnext HB03.out hb4)
  have HO := Lib.hid hO
  clear hO hb4
  go_wp2_with fail
  go_loopw [8, 9] (fun v x wr => EmLoop t ms w4.heap.size w4 v x wr) (fun _ x _ => ms.length - (intOf x).toNat)
  case atStart => exact ⟨0, none, 0, by omega, rfl, rfl, World.ownsRow_nil _ _ _ _, Below.refl _ _⟩
  case round =>
    obtain ⟨k, a1, c1, hk, rfl, rfl, hown, hb⟩ := hrel
    have HB := Lib.hid hb
    have HB5 := Lib.hid (bnext HB4.out hb)
    by_cases hlt : k < ms.length
    · have hkl : k < l.length := by rw [HLm.out]; exact hlt
      obtain ⟨bb, o, rfl, hbB, hc⟩ := (HI.out.up HB5.out).at_ (by omega)
      have g1 := hc k hkl
      have e1 : l[k] = (ms[k] : Int) := by simp [HEq.out]
      rw [e1] at g1
      have hm := HLt.out ms[k] (List.getElem_mem hlt)
      have HKc : Hid (∀ W, Below wr.heap.size wr W → Calls Try.prog 17 #[.slice ad t.length c, .int .i64 (ms[k] : Int)] W (KidsPost t ms[k] W)) := fun W hW => kids_any ad c t hle ms[k] _ rfl W (HH.out.up (bnext HB5.out hW)) hm (HR.out.lam.node_at (Nat.zero_le _) hm) (HR.out.lam _ (Nat.zero_le _) hm).2.2.1 (HR.out.lam _ (Nat.zero_le _) hm).2.1
      have HJ : Hid (toI ((ms.take (k + 1)).flatMap (kidsL t)) = toI ((ms.take k).flatMap (kidsL t)) ++ toI (kidsL t ms[k])) := by
        rw [Hid, List.take_succ_eq_append_getElem hlt, List.flatMap_append, List.flatMap_singleton]; simp [toI]
      have hL2 := HLen.out (k + 1)
      have hJl := congrArg List.length HJ.out
      rw [List.length_append, toI_length, toI_length, toI_length] at hJl
      have hkk : (kidsL t ms[k]).length ≤ 200 := by omega
      have hKl : (toI (kidsL t ms[k])).length = (kidsL t ms[k]).length := toI_length _
      have HKl := Lib.hid hKl
      obtain ⟨j, hj⟩ : ∃ j, j = ms[k] := ⟨_, rfl⟩
      rw [← hj] at g1 HKc HJ hkk HKl
      obtain ⟨X, hX⟩ : ∃ X, X = toI ((ms.take k).flatMap (kidsL t)) := ⟨_, rfl⟩
      have hXl : X.length ≤ 200 := by rw [hX, toI_length]; have := HLen.out k; omega
      rw [← hX] at hown HJ ⊢
      have HO1 := Lib.hid hown
      clear hj hX hJl hL2 hc e1 hKl hown
      go_wp2_with fail
      refine (HKc.out wr (Below.refl _ _)).mono ?_
      rintro e w5 ⟨av, cv, rfl, hrs, hb5⟩
      have HRs : Hid (RSl w5 w5.heap.size av (ivs (toI (kidsL t j)))) := by rw [ivs_toI]; exact hrs
      have HB6 := Lib.hid (bnext HB.out hb5)
      have HO2 := Lib.hid (own_kept HO1.out (fun b _ hb => hb5.block b hb))
      have hsz1 := HB6.out.size
      clear hrs hb5 g1
      go_wp2_with (at_builtin; refine wpList_append_ints _ rfl _ _ rfl w4.heap.size (.slice a1 X.length c1) X rfl HO2.out av cv (toI (kidsL t j)) ?c1 HRs.out (by rw [HKl.out]; omega) hsz1 ?_)
      case c1 => rw [HKl.out]; rfl
      intro a5 c5 w6 hown2 hg2 _
      have hb6 : Below w4.heap.size w4 w6 := HB6.out.grown hg2 hsz1 (fun q hq => (HO2.out.lt q hq).1)
      have HO3 := Lib.hid hown2
      clear hown2 hg2
      go_wp2_with fail
      go_roundw
      case rel => exact ⟨k + 1, a5, c5, by omega, by go_num, by rw [HJ.out, List.length_append], by have := HO3.out; rw [HJ.out, List.length_append]; exact this, hb6⟩
      case measure => simp [intOf]; omega
    · have hnl : ¬ (k < l.length) := by rw [HLm.out]; exact hlt
      have e : k = ms.length := by omega
      have hTk : ms.take k = ms := by rw [e, List.take_length]
      rw [hTk] at hown ⊢
      have hKn := HLen.out ms.length
      rw [List.take_length] at hKn
      have HRow : Hid (RSl wr wr.heap.size a1 (ivs (toI (ms.flatMap (kidsL t))))) := by
        obtain ⟨a5, c5, hv, _, hrs⟩ := RSl.own hown
        cases hv
        exact hrs
      obtain ⟨⟨A, rfl, hA, hs⟩, rfl, hpl⟩ := HO.out
      have o' := clearAll_ok (fo0_ok HR.out) ms
      have hAl : A.length ≤ 200 := by rw [len_outL hs]; have := all_bound o' (fun i hi => hi) HR.out.pos; omega
      have HG : Hid (∀ x ∈ A, x.attrs.length ≤ 1000) := fun x hx => (ndW_of hs (fun y hy => ndW_t HR.out (o'.all_mem (S := fun i => i < t.length) HR.out.pos hy)) x hx).few
      have HA := Lib.hid hA
      have HS := Lib.hid hs
      have HPl := Lib.hid hpl
      have HOk := Lib.hid o'
      have HOrd := Lib.hid (flat_ord HR.out HLt.out HNd.out)
      have hKl : (toI (ms.flatMap (kidsL t))).length ≤ 200 := by rw [toI_length]; omega
      have HFe := Lib.hid (flat_eq (t := t) HLt.out)
      clear hA hs hpl o' hKn hTk e hown HO
      obtain ⟨K, hK⟩ : ∃ K, K = ms.flatMap (kidsL t) := ⟨_, rfl⟩
      rw [← hK] at HRow HOrd hKl HFe ⊢
      clear hK
      by_cases hz : K = []
      · subst hz
        have hT0 : A.map strip = t.map strip := by rw [HS.out, clear_none (fo0_ok HR.out) HFe.out.symm]; exact outL_first HR.out
        have HTr := Lib.hid (sameTree_yes A t hT0 HG.out (by omega) a3 c3 ad c wr (HA.out.up hb) (HH.out.up HB5.out))
        clear hT0 hKl
        go_wp2_with fail
        refine HTr.out.mono ?_
        rintro e w5 ⟨rfl, hb5⟩
        have HB6 := Lib.hid (bnext HB5.out hb5)
        clear hb5
        go_wp2_with fail
        go_ret
        exact ⟨by trivial, HB6.out⟩
      · have hKp : 0 < (toI K).length := by rw [toI_length]; exact List.length_pos_iff.2 hz
        have HRem := Lib.hid (removeOf_any ad c t HR.out a1 c1 (toI K) K HOrd.out (by omega) wr (HH.out.up HB5.out) ⟨HRow.out, by unfold maxLen; omega, fun x hx => by obtain ⟨q, hq, rfl⟩ := List.mem_map.1 hx; have := HOrd.out.lt q hq; omega⟩)
        have k0 : (((toI K).length : Int) == 0) = false := beq_eq_false_iff_ne.2 (by omega)
        clear hz
        go_wp2_with fail
        refine HRem.out.mono ?_
        rintro e w5 ⟨a5, m5, c5, a6, m6, c6, rfl, hO5, hb5⟩
        obtain ⟨⟨A2, rfl, hA2, hs2⟩, rfl, hpl2⟩ := hO5
        rw [HFe.out, cut_clear (fo0_ok HR.out)] at hs2 hpl2
        have HB6 := Lib.hid (bnext HB5.out hb5)
        have hb45 := bnext HB.out hb5
        have HSh := Lib.hid (shaped_yes HOk.out A (by omega) HS.out (by have := HR.out.top; omega) (shp_clear HR.out ms HS.out) a3 c3 w5 (HA.out.up hb45))
        have HTold := Lib.hid (told7_yes ad t.length c a3 A.length c3 a4 c4 w5 HSh.out)
        have HTr : Hid (∀ W, Below w5.heap.size w5 W → Calls Try.prog 18 #[.slice a3 A.length c3, .slice a5 A2.length c5] W (fun e w' => e = .returned (.bool true) ∧ Below W.heap.size W w')) := fun W hW => sameTree_yes A A2 (by rw [HS.out, hs2]) HG.out (by omega) a3 c3 a5 c5 W (HA.out.up (bnext hb45 hW)) (hA2.up hW)
        have HLi : Hid (∀ W, Below w5.heap.size w5 W → Calls Try.prog 21 #[.slice a4 t.length c4, .slice a6 t.length c6] W (fun e w' => e = .returned (.bool true) ∧ Below W.heap.size W w')) := fun W hW => sameL_yes (placeL (clearAll (fo0 t) ms) (sz t) t.length) (by simp [placeL]; omega) a4 t.length c4 a6 t.length c6 W (HPl.out.up (bnext hb45 hW)) (hpl2.up hW) (by simp [placeL]) (by simp [placeL])
        clear hA2 hs2 hpl2 hb45 hb5
        go_wp2_with fail
        refine HTold.out.mono ?_
        rintro e w6 ⟨rfl, hb6⟩
        have HT2 := Lib.hid (HTr.out w6 hb6)
        have HB7 := Lib.hid hb6
        clear hb6
        go_wp2_with fail
        refine HT2.out.mono ?_
        rintro e w7 ⟨rfl, hb7⟩
        have HB8 := Lib.hid (bnext HB7.out hb7)
        have HL2 := Lib.hid (HLi.out w7 HB8.out)
        clear hb7
        go_wp2_with fail
        refine HL2.out.mono ?_
        rintro e w8 ⟨rfl, hb8⟩
        have HB9 := Lib.hid (bnext HB6.out (bnext HB8.out hb8))
        clear hb8
        go_wp2_with fail
        go_ret
        exact ⟨by trivial, HB9.out⟩
end Go.Proofs.Ytmhhfljbocbolaa
