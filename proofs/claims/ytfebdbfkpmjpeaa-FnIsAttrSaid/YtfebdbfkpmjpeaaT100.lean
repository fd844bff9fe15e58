/- The program's side of an attribute's test. (Written by a program of mine.) -/
import Derived.Test.YtfebdbfkpmjpeaaT96
import Derived.Test.YtfebdbfkpmjpeaaT17
import Derived.Deep.RegionLaw
namespace Go.Proofs.Ytfebdbfkpmjpeaa
open Go.RowKit
set_option linter.unusedVariables false

theorem once_of {l : List At2} (h : AttrsP l) : KeysOnce l := by
  unfold KeysOnce
  rw [List.Nodup, List.pairwise_iff_getElem]
  intro i j hi hj hij e
  rw [List.getElem_map, List.getElem_map] at e
  simp only [List.length_map] at hi hj
  refine h.once i j hij hj ?_
  unfold keyAt
  rw [List.getD_eq_getElem?_getD, List.getD_eq_getElem?_getD, List.getElem?_eq_getElem hi, List.getElem?_eq_getElem hj, Option.getD_some, Option.getD_some]
  have e2 : l[i].key.data.toList = l[j].key.data.toList := by rw [← ByteArray.toList_eq, ← ByteArray.toList_eq]; exact e
  have e3 := Array.toList_inj.1 e2
  exact ByteArray.ext e3

theorem RightP.ats {t : List Nd} (h : RightP t) {i : Nat} (hi : i < t.length) (hk : t[i].kind = 3) : AttrsP t[i].attrs := by
  rcases (h.node i hi).kinds with ⟨h1, _⟩ | ⟨h1, _⟩ | ⟨_, h1⟩ | ⟨h1, _⟩
  · omega
  · omega
  · exact h1
  · omega

theorem Tree.elAt {t : List Nd} {w : World} {B L : Nat} {bl : Nat → Nat} {st : Nat → Dn} (h : Tree t w B L bl st) (hR : RightP t) (i : Nat) (hi : i < t.length) (hk : t[i].kind = 3) : ∃ aa ac, ElAt w (bl i) B t[i].attrs aa ac := by
  obtain ⟨h5, _, hlt⟩ := h.elem i hi hk
  obtain ⟨_, _, _, _, _, _, _, _, aa, ac, h9, hown⟩ := h.dom.cells hi
  have e : (st i).ats = t[i].attrs := by
    rw [(h.kin i hi).2.ats]
    unfold atsOf
    rw [if_neg (by omega)]
  rw [e] at h9 hown
  have hA := hR.ats hi hk
  exact ⟨aa, ac, h5, h9, hown, once_of hA, fun x hx => by have := hR.vals i hi x hx; omega, by have := hA.len; omega, hlt⟩

set_option maxRecDepth 100000 in
theorem attrOps_any (w : World) : Calls Try.prog 123 #[] w fun e w' => ∃ b, e = .returned (.slice (some ⟨b, 0, none⟩) 8 8) ∧ b < w'.heap.size ∧ Below w.heap.size w w' ∧ w'.heap[b]? = some (.cells #[.string ⟨#[]⟩, .string ⟨#[61]⟩, .string ⟨#[33, 61]⟩, .string ⟨#[126, 61]⟩, .string ⟨#[124, 61]⟩, .string ⟨#[94, 61]⟩, .string ⟨#[36, 61]⟩, .string ⟨#[42, 61]⟩] 9 (0, 0)) := by
  go_enter Try.func123, Try.ntmps123
  go_wp2_with fail
  go_ret
  exact ⟨w.heap.size, rfl, by simp, (Below.refl _ _).alloc (Nat.le_refl _) _, heap_alloc_new w _⟩

set_option maxRecDepth 100000 in
set_option maxHeartbeats 1000000 in
theorem ia_1 (g B : Nat) (l : List At2) (aa : Option Addr) (ac : Nat) (k val : ByteArray) (hv : val.size ≤ 1000000000) (f : Bool) (w : World) (h : ElAt w g B l aa ac) :
    Calls Try.prog 122 #[.pointer (some ⟨g, 0, none⟩), .string k, .string ⟨#[]⟩, .string val, .bool f] w (AnsPost (MatB 1 l k val f) w) := by
  have HM := Lib.hid (at_1 g B l aa ac k val hv f w h)
  clear h
  go_enter Try.func122, Try.ntmps122
  go_wp2_with fail
  refine HM.out.mono ?_
  rintro e w1 ⟨b, rfl, hb, hb1⟩
  have HA := Lib.hid hb
  have HB1 := Lib.hid hb1
  clear hb hb1
  go_wp2_with fail
  go_ret
  exact ⟨b, rfl, HA.out, HB1.out⟩

set_option maxRecDepth 100000 in
set_option maxHeartbeats 4000000 in
theorem iIsAttr_1 (k val : ByteArray) (hv : val.size ≤ 1000000000) (flag : Int) (ad : Option Addr) (c : Nat) (t : List Nd) (hR : RightP t) (i : Nat) (hi : i < t.length) (hk : t[i].kind = 3) (w : World) (h : NSl w w.heap.size ad t) :
    Calls Try.prog 64 #[.slice ad t.length c, .int .i64 i, .string k, .int .i64 1, .string val, .int .i64 flag] w fun e w' => ∃ b, e = .returned (.tuple #[.bool b, .bool true]) ∧ MatB 1 t[i].attrs k val (flag == 1) b ∧ Below w.heap.size w w' := by
  have hle := hR.le
  go_enter Try.func64, Try.ntmps64
  go_wp2_with fail
  refine (grown_any _ c t _ h hR).mono ?_
  rintro e w1 ⟨L, bl, st, rfl, hb1, hL, hT⟩
  have hcell := hT.cell i hi
  obtain ⟨aa, ac, hE⟩ := hT.elAt hR i hi hk
  have HE := Lib.hid hE
  have HB := Lib.hid hb1
  obtain ⟨v, hv1⟩ : ∃ v, v = w1.heap.size := ⟨_, rfl⟩
  have hLt : L < w1.heap.size := hL
  clear hT hb1 h hR hk hE
  go_wp2_with fail
  have hcell2 : w1.drew.cell? ⟨L, i, none⟩ = some (.pointer (some ⟨bl i, 0, none⟩)) := hcell
  have HB1 : Hid (Below w1.heap.size w1 w1.drew) := (Below.refl _ _).drew
  have hwz : IntKind.i64.wrap 0 = 0 := by rfl
  have hw1 : IntKind.i64.wrap (1 - 1) = 0 := by rfl
  go_region_law (first
    | (go_simp; go_at_call 123; refine (attrOps_any _).mono ?_
       rintro e w2 ⟨b, rfl, hbl, hb2, hrow⟩
       have hc3 := (hb2.cell (p := ⟨L, i, none⟩) (by simpa using hLt)).trans hcell2
       have hop : w2.cell? ⟨b, 0, none⟩ = some (.string ⟨#[]⟩) := cell_of_row w2 b 0 _ _ _ hrow
       have HB2 := Lib.hid (HB1.out.trans hb2)
       clear hb2 hrow)
    | (go_simp; go_at_call 122; refine (ia_1 (bl i) _ _ aa ac k val hv (flag == 1) _ (HE.out.kept HB2.out)).mono ?_
       rintro e w3 ⟨r, rfl, hr, hb3⟩
       have HR := Lib.hid hr
       have HB3 := Lib.hid (HB2.out.trans (hb3.mono HB2.out.size))
       clear hr hb3))
  all_goals
    go_wp2_with fail
    go_ret2
    exact ⟨_, rfl, HR.out, bnext HB.out HB3.out⟩

set_option maxRecDepth 100000 in
set_option maxHeartbeats 1000000 in
theorem ia_2 (g B : Nat) (l : List At2) (aa : Option Addr) (ac : Nat) (k val : ByteArray) (hv : val.size ≤ 1000000000) (f : Bool) (w : World) (h : ElAt w g B l aa ac) :
    Calls Try.prog 122 #[.pointer (some ⟨g, 0, none⟩), .string k, .string ⟨#[61]⟩, .string val, .bool f] w (AnsPost (MatB 2 l k val f) w) := by
  have HM := Lib.hid (at_2 g B l aa ac k val hv f w h)
  clear h
  go_enter Try.func122, Try.ntmps122
  go_wp2_with fail
  refine HM.out.mono ?_
  rintro e w1 ⟨b, rfl, hb, hb1⟩
  have HA := Lib.hid hb
  have HB1 := Lib.hid hb1
  clear hb hb1
  go_wp2_with fail
  go_ret
  exact ⟨b, rfl, HA.out, HB1.out⟩

set_option maxRecDepth 100000 in
set_option maxHeartbeats 4000000 in
theorem iIsAttr_2 (k val : ByteArray) (hv : val.size ≤ 1000000000) (flag : Int) (ad : Option Addr) (c : Nat) (t : List Nd) (hR : RightP t) (i : Nat) (hi : i < t.length) (hk : t[i].kind = 3) (w : World) (h : NSl w w.heap.size ad t) :
    Calls Try.prog 64 #[.slice ad t.length c, .int .i64 i, .string k, .int .i64 2, .string val, .int .i64 flag] w fun e w' => ∃ b, e = .returned (.tuple #[.bool b, .bool true]) ∧ MatB 2 t[i].attrs k val (flag == 1) b ∧ Below w.heap.size w w' := by
  have hle := hR.le
  go_enter Try.func64, Try.ntmps64
  go_wp2_with fail
  refine (grown_any _ c t _ h hR).mono ?_
  rintro e w1 ⟨L, bl, st, rfl, hb1, hL, hT⟩
  have hcell := hT.cell i hi
  obtain ⟨aa, ac, hE⟩ := hT.elAt hR i hi hk
  have HE := Lib.hid hE
  have HB := Lib.hid hb1
  obtain ⟨v, hv1⟩ : ∃ v, v = w1.heap.size := ⟨_, rfl⟩
  have hLt : L < w1.heap.size := hL
  clear hT hb1 h hR hk hE
  go_wp2_with fail
  have hcell2 : w1.drew.cell? ⟨L, i, none⟩ = some (.pointer (some ⟨bl i, 0, none⟩)) := hcell
  have HB1 : Hid (Below w1.heap.size w1 w1.drew) := (Below.refl _ _).drew
  have hwz : IntKind.i64.wrap 1 = 1 := by rfl
  have hw1 : IntKind.i64.wrap (2 - 1) = 1 := by rfl
  go_region_law (first
    | (go_simp; go_at_call 123; refine (attrOps_any _).mono ?_
       rintro e w2 ⟨b, rfl, hbl, hb2, hrow⟩
       have hc3 := (hb2.cell (p := ⟨L, i, none⟩) (by simpa using hLt)).trans hcell2
       have hop : w2.cell? ⟨b, 1, none⟩ = some (.string ⟨#[61]⟩) := cell_of_row w2 b 1 _ _ _ hrow
       have HB2 := Lib.hid (HB1.out.trans hb2)
       clear hb2 hrow)
    | (go_simp; go_at_call 122; refine (ia_2 (bl i) _ _ aa ac k val hv (flag == 1) _ (HE.out.kept HB2.out)).mono ?_
       rintro e w3 ⟨r, rfl, hr, hb3⟩
       have HR := Lib.hid hr
       have HB3 := Lib.hid (HB2.out.trans (hb3.mono HB2.out.size))
       clear hr hb3))
  all_goals
    go_wp2_with fail
    go_ret2
    exact ⟨_, rfl, HR.out, bnext HB.out HB3.out⟩

set_option maxRecDepth 100000 in
set_option maxHeartbeats 1000000 in
theorem ia_3 (g B : Nat) (l : List At2) (aa : Option Addr) (ac : Nat) (k val : ByteArray) (hv : val.size ≤ 1000000000) (f : Bool) (w : World) (h : ElAt w g B l aa ac) :
    Calls Try.prog 122 #[.pointer (some ⟨g, 0, none⟩), .string k, .string ⟨#[33, 61]⟩, .string val, .bool f] w (AnsPost (MatB 3 l k val f) w) := by
  have HM := Lib.hid (at_3 g B l aa ac k val hv f w h)
  clear h
  go_enter Try.func122, Try.ntmps122
  go_wp2_with fail
  refine HM.out.mono ?_
  rintro e w1 ⟨b, rfl, hb, hb1⟩
  have HA := Lib.hid hb
  have HB1 := Lib.hid hb1
  clear hb hb1
  go_wp2_with fail
  go_ret
  exact ⟨b, rfl, HA.out, HB1.out⟩

set_option maxRecDepth 100000 in
set_option maxHeartbeats 4000000 in
theorem iIsAttr_3 (k val : ByteArray) (hv : val.size ≤ 1000000000) (flag : Int) (ad : Option Addr) (c : Nat) (t : List Nd) (hR : RightP t) (i : Nat) (hi : i < t.length) (hk : t[i].kind = 3) (w : World) (h : NSl w w.heap.size ad t) :
    Calls Try.prog 64 #[.slice ad t.length c, .int .i64 i, .string k, .int .i64 3, .string val, .int .i64 flag] w fun e w' => ∃ b, e = .returned (.tuple #[.bool b, .bool true]) ∧ MatB 3 t[i].attrs k val (flag == 1) b ∧ Below w.heap.size w w' := by
  have hle := hR.le
  go_enter Try.func64, Try.ntmps64
  go_wp2_with fail
  refine (grown_any _ c t _ h hR).mono ?_
  rintro e w1 ⟨L, bl, st, rfl, hb1, hL, hT⟩
  have hcell := hT.cell i hi
  obtain ⟨aa, ac, hE⟩ := hT.elAt hR i hi hk
  have HE := Lib.hid hE
  have HB := Lib.hid hb1
  obtain ⟨v, hv1⟩ : ∃ v, v = w1.heap.size := ⟨_, rfl⟩
  have hLt : L < w1.heap.size := hL
  clear hT hb1 h hR hk hE
  go_wp2_with fail
  have hcell2 : w1.drew.cell? ⟨L, i, none⟩ = some (.pointer (some ⟨bl i, 0, none⟩)) := hcell
  have HB1 : Hid (Below w1.heap.size w1 w1.drew) := (Below.refl _ _).drew
  have hwz : IntKind.i64.wrap 2 = 2 := by rfl
  have hw1 : IntKind.i64.wrap (3 - 1) = 2 := by rfl
  go_region_law (first
    | (go_simp; go_at_call 123; refine (attrOps_any _).mono ?_
       rintro e w2 ⟨b, rfl, hbl, hb2, hrow⟩
       have hc3 := (hb2.cell (p := ⟨L, i, none⟩) (by simpa using hLt)).trans hcell2
       have hop : w2.cell? ⟨b, 2, none⟩ = some (.string ⟨#[33, 61]⟩) := cell_of_row w2 b 2 _ _ _ hrow
       have HB2 := Lib.hid (HB1.out.trans hb2)
       clear hb2 hrow)
    | (go_simp; go_at_call 122; refine (ia_3 (bl i) _ _ aa ac k val hv (flag == 1) _ (HE.out.kept HB2.out)).mono ?_
       rintro e w3 ⟨r, rfl, hr, hb3⟩
       have HR := Lib.hid hr
       have HB3 := Lib.hid (HB2.out.trans (hb3.mono HB2.out.size))
       clear hr hb3))
  all_goals
    go_wp2_with fail
    go_ret2
    exact ⟨_, rfl, HR.out, bnext HB.out HB3.out⟩

set_option maxRecDepth 100000 in
set_option maxHeartbeats 1000000 in
theorem ia_4 (g B : Nat) (l : List At2) (aa : Option Addr) (ac : Nat) (k val : ByteArray) (hv : val.size ≤ 1000000000) (f : Bool) (w : World) (h : ElAt w g B l aa ac) :
    Calls Try.prog 122 #[.pointer (some ⟨g, 0, none⟩), .string k, .string ⟨#[126, 61]⟩, .string val, .bool f] w (AnsPost (MatB 4 l k val f) w) := by
  have HM := Lib.hid (at_4 g B l aa ac k val hv f w h)
  clear h
  go_enter Try.func122, Try.ntmps122
  go_wp2_with fail
  refine HM.out.mono ?_
  rintro e w1 ⟨b, rfl, hb, hb1⟩
  have HA := Lib.hid hb
  have HB1 := Lib.hid hb1
  clear hb hb1
  go_wp2_with fail
  go_ret
  exact ⟨b, rfl, HA.out, HB1.out⟩

set_option maxRecDepth 100000 in
set_option maxHeartbeats 4000000 in
theorem iIsAttr_4 (k val : ByteArray) (hv : val.size ≤ 1000000000) (flag : Int) (ad : Option Addr) (c : Nat) (t : List Nd) (hR : RightP t) (i : Nat) (hi : i < t.length) (hk : t[i].kind = 3) (w : World) (h : NSl w w.heap.size ad t) :
    Calls Try.prog 64 #[.slice ad t.length c, .int .i64 i, .string k, .int .i64 4, .string val, .int .i64 flag] w fun e w' => ∃ b, e = .returned (.tuple #[.bool b, .bool true]) ∧ MatB 4 t[i].attrs k val (flag == 1) b ∧ Below w.heap.size w w' := by
  have hle := hR.le
  go_enter Try.func64, Try.ntmps64
  go_wp2_with fail
  refine (grown_any _ c t _ h hR).mono ?_
  rintro e w1 ⟨L, bl, st, rfl, hb1, hL, hT⟩
  have hcell := hT.cell i hi
  obtain ⟨aa, ac, hE⟩ := hT.elAt hR i hi hk
  have HE := Lib.hid hE
  have HB := Lib.hid hb1
  obtain ⟨v, hv1⟩ : ∃ v, v = w1.heap.size := ⟨_, rfl⟩
  have hLt : L < w1.heap.size := hL
  clear hT hb1 h hR hk hE
  go_wp2_with fail
  have hcell2 : w1.drew.cell? ⟨L, i, none⟩ = some (.pointer (some ⟨bl i, 0, none⟩)) := hcell
  have HB1 : Hid (Below w1.heap.size w1 w1.drew) := (Below.refl _ _).drew
  have hwz : IntKind.i64.wrap 3 = 3 := by rfl
  have hw1 : IntKind.i64.wrap (4 - 1) = 3 := by rfl
  go_region_law (first
    | (go_simp; go_at_call 123; refine (attrOps_any _).mono ?_
       rintro e w2 ⟨b, rfl, hbl, hb2, hrow⟩
       have hc3 := (hb2.cell (p := ⟨L, i, none⟩) (by simpa using hLt)).trans hcell2
       have hop : w2.cell? ⟨b, 3, none⟩ = some (.string ⟨#[126, 61]⟩) := cell_of_row w2 b 3 _ _ _ hrow
       have HB2 := Lib.hid (HB1.out.trans hb2)
       clear hb2 hrow)
    | (go_simp; go_at_call 122; refine (ia_4 (bl i) _ _ aa ac k val hv (flag == 1) _ (HE.out.kept HB2.out)).mono ?_
       rintro e w3 ⟨r, rfl, hr, hb3⟩
       have HR := Lib.hid hr
       have HB3 := Lib.hid (HB2.out.trans (hb3.mono HB2.out.size))
       clear hr hb3))
  all_goals
    go_wp2_with fail
    go_ret2
    exact ⟨_, rfl, HR.out, bnext HB.out HB3.out⟩

set_option maxRecDepth 100000 in
set_option maxHeartbeats 1000000 in
theorem ia_5 (g B : Nat) (l : List At2) (aa : Option Addr) (ac : Nat) (k val : ByteArray) (hv : val.size ≤ 1000000000) (f : Bool) (w : World) (h : ElAt w g B l aa ac) :
    Calls Try.prog 122 #[.pointer (some ⟨g, 0, none⟩), .string k, .string ⟨#[124, 61]⟩, .string val, .bool f] w (AnsPost (MatB 5 l k val f) w) := by
  have HM := Lib.hid (at_5 g B l aa ac k val hv f w h)
  clear h
  go_enter Try.func122, Try.ntmps122
  go_wp2_with fail
  refine HM.out.mono ?_
  rintro e w1 ⟨b, rfl, hb, hb1⟩
  have HA := Lib.hid hb
  have HB1 := Lib.hid hb1
  clear hb hb1
  go_wp2_with fail
  go_ret
  exact ⟨b, rfl, HA.out, HB1.out⟩

set_option maxRecDepth 100000 in
set_option maxHeartbeats 4000000 in
theorem iIsAttr_5 (k val : ByteArray) (hv : val.size ≤ 1000000000) (flag : Int) (ad : Option Addr) (c : Nat) (t : List Nd) (hR : RightP t) (i : Nat) (hi : i < t.length) (hk : t[i].kind = 3) (w : World) (h : NSl w w.heap.size ad t) :
    Calls Try.prog 64 #[.slice ad t.length c, .int .i64 i, .string k, .int .i64 5, .string val, .int .i64 flag] w fun e w' => ∃ b, e = .returned (.tuple #[.bool b, .bool true]) ∧ MatB 5 t[i].attrs k val (flag == 1) b ∧ Below w.heap.size w w' := by
  have hle := hR.le
  go_enter Try.func64, Try.ntmps64
  go_wp2_with fail
  refine (grown_any _ c t _ h hR).mono ?_
  rintro e w1 ⟨L, bl, st, rfl, hb1, hL, hT⟩
  have hcell := hT.cell i hi
  obtain ⟨aa, ac, hE⟩ := hT.elAt hR i hi hk
  have HE := Lib.hid hE
  have HB := Lib.hid hb1
  obtain ⟨v, hv1⟩ : ∃ v, v = w1.heap.size := ⟨_, rfl⟩
  have hLt : L < w1.heap.size := hL
  clear hT hb1 h hR hk hE
  go_wp2_with fail
  have hcell2 : w1.drew.cell? ⟨L, i, none⟩ = some (.pointer (some ⟨bl i, 0, none⟩)) := hcell
  have HB1 : Hid (Below w1.heap.size w1 w1.drew) := (Below.refl _ _).drew
  have hwz : IntKind.i64.wrap 4 = 4 := by rfl
  have hw1 : IntKind.i64.wrap (5 - 1) = 4 := by rfl
  go_region_law (first
    | (go_simp; go_at_call 123; refine (attrOps_any _).mono ?_
       rintro e w2 ⟨b, rfl, hbl, hb2, hrow⟩
       have hc3 := (hb2.cell (p := ⟨L, i, none⟩) (by simpa using hLt)).trans hcell2
       have hop : w2.cell? ⟨b, 4, none⟩ = some (.string ⟨#[124, 61]⟩) := cell_of_row w2 b 4 _ _ _ hrow
       have HB2 := Lib.hid (HB1.out.trans hb2)
       clear hb2 hrow)
    | (go_simp; go_at_call 122; refine (ia_5 (bl i) _ _ aa ac k val hv (flag == 1) _ (HE.out.kept HB2.out)).mono ?_
       rintro e w3 ⟨r, rfl, hr, hb3⟩
       have HR := Lib.hid hr
       have HB3 := Lib.hid (HB2.out.trans (hb3.mono HB2.out.size))
       clear hr hb3))
  all_goals
    go_wp2_with fail
    go_ret2
    exact ⟨_, rfl, HR.out, bnext HB.out HB3.out⟩

set_option maxRecDepth 100000 in
set_option maxHeartbeats 1000000 in
theorem ia_6 (g B : Nat) (l : List At2) (aa : Option Addr) (ac : Nat) (k val : ByteArray) (hv : val.size ≤ 1000000000) (f : Bool) (w : World) (h : ElAt w g B l aa ac) :
    Calls Try.prog 122 #[.pointer (some ⟨g, 0, none⟩), .string k, .string ⟨#[94, 61]⟩, .string val, .bool f] w (AnsPost (MatB 6 l k val f) w) := by
  have HM := Lib.hid (at_6 g B l aa ac k val hv f w h)
  clear h
  go_enter Try.func122, Try.ntmps122
  go_wp2_with fail
  refine HM.out.mono ?_
  rintro e w1 ⟨b, rfl, hb, hb1⟩
  have HA := Lib.hid hb
  have HB1 := Lib.hid hb1
  clear hb hb1
  go_wp2_with fail
  go_ret
  exact ⟨b, rfl, HA.out, HB1.out⟩

set_option maxRecDepth 100000 in
set_option maxHeartbeats 4000000 in
theorem iIsAttr_6 (k val : ByteArray) (hv : val.size ≤ 1000000000) (flag : Int) (ad : Option Addr) (c : Nat) (t : List Nd) (hR : RightP t) (i : Nat) (hi : i < t.length) (hk : t[i].kind = 3) (w : World) (h : NSl w w.heap.size ad t) :
    Calls Try.prog 64 #[.slice ad t.length c, .int .i64 i, .string k, .int .i64 6, .string val, .int .i64 flag] w fun e w' => ∃ b, e = .returned (.tuple #[.bool b, .bool true]) ∧ MatB 6 t[i].attrs k val (flag == 1) b ∧ Below w.heap.size w w' := by
  have hle := hR.le
  go_enter Try.func64, Try.ntmps64
  go_wp2_with fail
  refine (grown_any _ c t _ h hR).mono ?_
  rintro e w1 ⟨L, bl, st, rfl, hb1, hL, hT⟩
  have hcell := hT.cell i hi
  obtain ⟨aa, ac, hE⟩ := hT.elAt hR i hi hk
  have HE := Lib.hid hE
  have HB := Lib.hid hb1
  obtain ⟨v, hv1⟩ : ∃ v, v = w1.heap.size := ⟨_, rfl⟩
  have hLt : L < w1.heap.size := hL
  clear hT hb1 h hR hk hE
  go_wp2_with fail
  have hcell2 : w1.drew.cell? ⟨L, i, none⟩ = some (.pointer (some ⟨bl i, 0, none⟩)) := hcell
  have HB1 : Hid (Below w1.heap.size w1 w1.drew) := (Below.refl _ _).drew
  have hwz : IntKind.i64.wrap 5 = 5 := by rfl
  have hw1 : IntKind.i64.wrap (6 - 1) = 5 := by rfl
  go_region_law (first
    | (go_simp; go_at_call 123; refine (attrOps_any _).mono ?_
       rintro e w2 ⟨b, rfl, hbl, hb2, hrow⟩
       have hc3 := (hb2.cell (p := ⟨L, i, none⟩) (by simpa using hLt)).trans hcell2
       have hop : w2.cell? ⟨b, 5, none⟩ = some (.string ⟨#[94, 61]⟩) := cell_of_row w2 b 5 _ _ _ hrow
       have HB2 := Lib.hid (HB1.out.trans hb2)
       clear hb2 hrow)
    | (go_simp; go_at_call 122; refine (ia_6 (bl i) _ _ aa ac k val hv (flag == 1) _ (HE.out.kept HB2.out)).mono ?_
       rintro e w3 ⟨r, rfl, hr, hb3⟩
       have HR := Lib.hid hr
       have HB3 := Lib.hid (HB2.out.trans (hb3.mono HB2.out.size))
       clear hr hb3))
  all_goals
    go_wp2_with fail
    go_ret2
    exact ⟨_, rfl, HR.out, bnext HB.out HB3.out⟩

set_option maxRecDepth 100000 in
set_option maxHeartbeats 1000000 in
theorem ia_7 (g B : Nat) (l : List At2) (aa : Option Addr) (ac : Nat) (k val : ByteArray) (hv : val.size ≤ 1000000000) (f : Bool) (w : World) (h : ElAt w g B l aa ac) :
    Calls Try.prog 122 #[.pointer (some ⟨g, 0, none⟩), .string k, .string ⟨#[36, 61]⟩, .string val, .bool f] w (AnsPost (MatB 7 l k val f) w) := by
  have HM := Lib.hid (at_7 g B l aa ac k val hv f w h)
  clear h
  go_enter Try.func122, Try.ntmps122
  go_wp2_with fail
  refine HM.out.mono ?_
  rintro e w1 ⟨b, rfl, hb, hb1⟩
  have HA := Lib.hid hb
  have HB1 := Lib.hid hb1
  clear hb hb1
  go_wp2_with fail
  go_ret
  exact ⟨b, rfl, HA.out, HB1.out⟩

set_option maxRecDepth 100000 in
set_option maxHeartbeats 4000000 in
theorem iIsAttr_7 (k val : ByteArray) (hv : val.size ≤ 1000000000) (flag : Int) (ad : Option Addr) (c : Nat) (t : List Nd) (hR : RightP t) (i : Nat) (hi : i < t.length) (hk : t[i].kind = 3) (w : World) (h : NSl w w.heap.size ad t) :
    Calls Try.prog 64 #[.slice ad t.length c, .int .i64 i, .string k, .int .i64 7, .string val, .int .i64 flag] w fun e w' => ∃ b, e = .returned (.tuple #[.bool b, .bool true]) ∧ MatB 7 t[i].attrs k val (flag == 1) b ∧ Below w.heap.size w w' := by
  have hle := hR.le
  go_enter Try.func64, Try.ntmps64
  go_wp2_with fail
  refine (grown_any _ c t _ h hR).mono ?_
  rintro e w1 ⟨L, bl, st, rfl, hb1, hL, hT⟩
  have hcell := hT.cell i hi
  obtain ⟨aa, ac, hE⟩ := hT.elAt hR i hi hk
  have HE := Lib.hid hE
  have HB := Lib.hid hb1
  obtain ⟨v, hv1⟩ : ∃ v, v = w1.heap.size := ⟨_, rfl⟩
  have hLt : L < w1.heap.size := hL
  clear hT hb1 h hR hk hE
  go_wp2_with fail
  have hcell2 : w1.drew.cell? ⟨L, i, none⟩ = some (.pointer (some ⟨bl i, 0, none⟩)) := hcell
  have HB1 : Hid (Below w1.heap.size w1 w1.drew) := (Below.refl _ _).drew
  have hwz : IntKind.i64.wrap 6 = 6 := by rfl
  have hw1 : IntKind.i64.wrap (7 - 1) = 6 := by rfl
  go_region_law (first
    | (go_simp; go_at_call 123; refine (attrOps_any _).mono ?_
       rintro e w2 ⟨b, rfl, hbl, hb2, hrow⟩
       have hc3 := (hb2.cell (p := ⟨L, i, none⟩) (by simpa using hLt)).trans hcell2
       have hop : w2.cell? ⟨b, 6, none⟩ = some (.string ⟨#[36, 61]⟩) := cell_of_row w2 b 6 _ _ _ hrow
       have HB2 := Lib.hid (HB1.out.trans hb2)
       clear hb2 hrow)
    | (go_simp; go_at_call 122; refine (ia_7 (bl i) _ _ aa ac k val hv (flag == 1) _ (HE.out.kept HB2.out)).mono ?_
       rintro e w3 ⟨r, rfl, hr, hb3⟩
       have HR := Lib.hid hr
       have HB3 := Lib.hid (HB2.out.trans (hb3.mono HB2.out.size))
       clear hr hb3))
  all_goals
    go_wp2_with fail
    go_ret2
    exact ⟨_, rfl, HR.out, bnext HB.out HB3.out⟩

set_option maxRecDepth 100000 in
set_option maxHeartbeats 1000000 in
theorem ia_8 (g B : Nat) (l : List At2) (aa : Option Addr) (ac : Nat) (k val : ByteArray) (hv : val.size ≤ 1000000000) (f : Bool) (w : World) (h : ElAt w g B l aa ac) :
    Calls Try.prog 122 #[.pointer (some ⟨g, 0, none⟩), .string k, .string ⟨#[42, 61]⟩, .string val, .bool f] w (AnsPost (MatB 8 l k val f) w) := by
  have HM := Lib.hid (at_8 g B l aa ac k val hv f w h)
  clear h
  go_enter Try.func122, Try.ntmps122
  go_wp2_with fail
  refine HM.out.mono ?_
  rintro e w1 ⟨b, rfl, hb, hb1⟩
  have HA := Lib.hid hb
  have HB1 := Lib.hid hb1
  clear hb hb1
  go_wp2_with fail
  go_ret
  exact ⟨b, rfl, HA.out, HB1.out⟩

set_option maxRecDepth 100000 in
set_option maxHeartbeats 4000000 in
theorem iIsAttr_8 (k val : ByteArray) (hv : val.size ≤ 1000000000) (flag : Int) (ad : Option Addr) (c : Nat) (t : List Nd) (hR : RightP t) (i : Nat) (hi : i < t.length) (hk : t[i].kind = 3) (w : World) (h : NSl w w.heap.size ad t) :
    Calls Try.prog 64 #[.slice ad t.length c, .int .i64 i, .string k, .int .i64 8, .string val, .int .i64 flag] w fun e w' => ∃ b, e = .returned (.tuple #[.bool b, .bool true]) ∧ MatB 8 t[i].attrs k val (flag == 1) b ∧ Below w.heap.size w w' := by
  have hle := hR.le
  go_enter Try.func64, Try.ntmps64
  go_wp2_with fail
  refine (grown_any _ c t _ h hR).mono ?_
  rintro e w1 ⟨L, bl, st, rfl, hb1, hL, hT⟩
  have hcell := hT.cell i hi
  obtain ⟨aa, ac, hE⟩ := hT.elAt hR i hi hk
  have HE := Lib.hid hE
  have HB := Lib.hid hb1
  obtain ⟨v, hv1⟩ : ∃ v, v = w1.heap.size := ⟨_, rfl⟩
  have hLt : L < w1.heap.size := hL
  clear hT hb1 h hR hk hE
  go_wp2_with fail
  have hcell2 : w1.drew.cell? ⟨L, i, none⟩ = some (.pointer (some ⟨bl i, 0, none⟩)) := hcell
  have HB1 : Hid (Below w1.heap.size w1 w1.drew) := (Below.refl _ _).drew
  have hwz : IntKind.i64.wrap 7 = 7 := by rfl
  have hw1 : IntKind.i64.wrap (8 - 1) = 7 := by rfl
  go_region_law (first
    | (go_simp; go_at_call 123; refine (attrOps_any _).mono ?_
       rintro e w2 ⟨b, rfl, hbl, hb2, hrow⟩
       have hc3 := (hb2.cell (p := ⟨L, i, none⟩) (by simpa using hLt)).trans hcell2
       have hop : w2.cell? ⟨b, 7, none⟩ = some (.string ⟨#[42, 61]⟩) := cell_of_row w2 b 7 _ _ _ hrow
       have HB2 := Lib.hid (HB1.out.trans hb2)
       clear hb2 hrow)
    | (go_simp; go_at_call 122; refine (ia_8 (bl i) _ _ aa ac k val hv (flag == 1) _ (HE.out.kept HB2.out)).mono ?_
       rintro e w3 ⟨r, rfl, hr, hb3⟩
       have HR := Lib.hid hr
       have HB3 := Lib.hid (HB2.out.trans (hb3.mono HB2.out.size))
       clear hr hb3))
  all_goals
    go_wp2_with fail
    go_ret2
    exact ⟨_, rfl, HR.out, bnext HB.out HB3.out⟩
end Go.Proofs.Ytfebdbfkpmjpeaa
