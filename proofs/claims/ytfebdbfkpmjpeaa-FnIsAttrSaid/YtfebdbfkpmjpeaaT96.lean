/- The attribute selectors of the program: asked of an element; Match at each of the eight operators. (The second half written by a program of mine.) -/
import Derived.Test.YtfebdbfkpmjpeaaT93
import Derived.Test.YtfebdbfkpmjpeaaT92
namespace Go.Proofs.Ytfebdbfkpmjpeaa
open Go.RowKit
set_option linter.unusedVariables false

/-- An element's cells that a selector of attributes reads. -/
structure ElAt (w : World) (g B : Nat) (l : List At2) (aa : Option Addr) (ac : Nat) : Prop where
  typ : w.cell? ⟨g, 5, none⟩ = some (.int .u32 3)
  atr : w.cell? ⟨g, 9, none⟩ = some (.slice aa l.length ac)
  own : w.ownsRow B 163 3 (.slice aa l.length ac) l.length (flatA l)
  once : KeysOnce l
  vals : ∀ x ∈ l, x.val.size ≤ 2147483647
  len : l.length ≤ 2147483647
  lt : g < w.heap.size
theorem ElAt.kept {w w' : World} {g B : Nat} {l : List At2} {aa : Option Addr} {ac : Nat} (h : ElAt w g B l aa ac) (hb : Below w.heap.size w w') : ElAt w' g B l aa ac :=
  ⟨(hb.cell (p := ⟨g, 5, none⟩) h.lt).trans h.typ, (hb.cell (p := ⟨g, 9, none⟩) h.lt).trans h.atr, own_kept h.own (fun b _ hb2 => hb.block b hb2), h.once, h.vals, h.len, Nat.lt_of_lt_of_le h.lt hb.size⟩

def AnsPost (A : Bool → Prop) (w : World) (e : Ending) (w' : World) : Prop := ∃ b, e = .returned (.bool b) ∧ A b ∧ Below w.heap.size w w'
def NotAsked (l : List At2) (k val : ByteArray) (f : Bool) (b : Bool) : Prop := b = match findA l k with | none => true | some x => !eqB f x.val.data.toList val.data.toList


set_option maxRecDepth 100000 in
set_option maxHeartbeats 1000000 in
theorem am_pre (g B : Nat) (l : List At2) (aa : Option Addr) (ac : Nat) (k val : ByteArray) (hv : val.size ≤ 1000000000) (f : Bool) (w : World) (h : ElAt w g B l aa ac) :
    Calls Try.prog 222 #[.string k, .string val, .pointer (some ⟨g, 0, none⟩), .bool f] w (AnsPost (AttrAsked l k (RPre f val)) w) := by
  have HB0 : Hid (Below w.heap.size w ((w.alloc (.cells #[.string val] 9)).alloc (.cells #[.bool f] 4))) := ((Below.refl _ _).alloc (Nat.le_refl _) _).alloc (by simp) _
  have h2 := h.kept HB0.out
  have HM := Lib.hid (matchA_pre (some ⟨w.heap.size + 1, 0, none⟩) (some ⟨w.heap.size, 0, none⟩) (RPre f val) g B l h2.once h2.vals aa ac k _ h2.typ h2.atr h2.len h2.lt h2.own (asks_pre (w.heap.size + 1) w.heap.size f val hv _ (by simp) (by rw [World.cell?_alloc_lt _ _ _ (by simp)]; exact (World.cell?_alloc_mark _ _ _ _ 0).trans rfl) (by simp) (by simp; omega)))
  clear h h2
  go_enter Try.func222, Try.ntmps222
  go_wp2_with fail
  refine HM.out.mono ?_
  rintro e w1 ⟨b, rfl, hb, hb1⟩
  have HA := Lib.hid hb
  have HB1 := Lib.hid (HB0.out.trans (hb1.mono (by simp; omega)))
  clear hb hb1
  go_wp2_with fail
  go_ret
  exact ⟨b, rfl, HA.out, HB1.out⟩

set_option maxRecDepth 100000 in
set_option maxHeartbeats 1000000 in
theorem am_suf (g B : Nat) (l : List At2) (aa : Option Addr) (ac : Nat) (k val : ByteArray) (hv : val.size ≤ 1000000000) (f : Bool) (w : World) (h : ElAt w g B l aa ac) :
    Calls Try.prog 223 #[.string k, .string val, .pointer (some ⟨g, 0, none⟩), .bool f] w (AnsPost (AttrAsked l k (RSuf f val)) w) := by
  have HB0 : Hid (Below w.heap.size w ((w.alloc (.cells #[.string val] 9)).alloc (.cells #[.bool f] 4))) := ((Below.refl _ _).alloc (Nat.le_refl _) _).alloc (by simp) _
  have h2 := h.kept HB0.out
  have HM := Lib.hid (matchA_suf (some ⟨w.heap.size + 1, 0, none⟩) (some ⟨w.heap.size, 0, none⟩) (RSuf f val) g B l h2.once h2.vals aa ac k _ h2.typ h2.atr h2.len h2.lt h2.own (asks_suf (w.heap.size + 1) w.heap.size f val hv _ (by simp) (by rw [World.cell?_alloc_lt _ _ _ (by simp)]; exact (World.cell?_alloc_mark _ _ _ _ 0).trans rfl) (by simp) (by simp; omega)))
  clear h h2
  go_enter Try.func223, Try.ntmps223
  go_wp2_with fail
  refine HM.out.mono ?_
  rintro e w1 ⟨b, rfl, hb, hb1⟩
  have HA := Lib.hid hb
  have HB1 := Lib.hid (HB0.out.trans (hb1.mono (by simp; omega)))
  clear hb hb1
  go_wp2_with fail
  go_ret
  exact ⟨b, rfl, HA.out, HB1.out⟩

set_option maxRecDepth 100000 in
set_option maxHeartbeats 1000000 in
theorem am_sub (g B : Nat) (l : List At2) (aa : Option Addr) (ac : Nat) (k val : ByteArray) (hv : val.size ≤ 1000000000) (f : Bool) (w : World) (h : ElAt w g B l aa ac) :
    Calls Try.prog 224 #[.string k, .string val, .pointer (some ⟨g, 0, none⟩), .bool f] w (AnsPost (AttrAsked l k (RSub f val)) w) := by
  have HB0 : Hid (Below w.heap.size w ((w.alloc (.cells #[.string val] 9)).alloc (.cells #[.bool f] 4))) := ((Below.refl _ _).alloc (Nat.le_refl _) _).alloc (by simp) _
  have h2 := h.kept HB0.out
  have HM := Lib.hid (matchA_sub (some ⟨w.heap.size + 1, 0, none⟩) (some ⟨w.heap.size, 0, none⟩) (RSub f val) g B l h2.once h2.vals aa ac k _ h2.typ h2.atr h2.len h2.lt h2.own (asks_sub (w.heap.size + 1) w.heap.size f val hv _ (by simp) (by rw [World.cell?_alloc_lt _ _ _ (by simp)]; exact (World.cell?_alloc_mark _ _ _ _ 0).trans rfl) (by simp) (by simp; omega)))
  clear h h2
  go_enter Try.func224, Try.ntmps224
  go_wp2_with fail
  refine HM.out.mono ?_
  rintro e w1 ⟨b, rfl, hb, hb1⟩
  have HA := Lib.hid hb
  have HB1 := Lib.hid (HB0.out.trans (hb1.mono (by simp; omega)))
  clear hb hb1
  go_wp2_with fail
  go_ret
  exact ⟨b, rfl, HA.out, HB1.out⟩

/-- What stands ahead of a place is of another key, or has another value. -/
def NoEq (l : List At2) (k val : ByteArray) (f : Bool) (i : Nat) : Prop := ∀ j (h : j < l.length), j < i → (l[j].key.toList == k.toList) = true → eqB f l[j].val.data.toList val.data.toList = false

set_option maxRecDepth 100000 in
set_option maxHeartbeats 1000000 in
theorem am_not (g B : Nat) (l : List At2) (aa : Option Addr) (ac : Nat) (k val : ByteArray) (hv : val.size ≤ 1000000000) (f : Bool) (w : World) (h : ElAt w g B l aa ac) :
    Calls Try.prog 218 #[.string k, .string val, .pointer (some ⟨g, 0, none⟩), .bool f] w (AnsPost (NotAsked l k val f) w) := by
  have h5 := h.typ
  have h9 := h.atr
  have hl := h.len
  have hg := h.lt
  have HO := Lib.hid h.own
  have HU := Lib.hid h.once
  have HV := Lib.hid h.vals
  clear h
  go_enter Try.func218, Try.ntmps218
  go_wp2_with fail
  go_loopw [21] (fun x wr => ∃ k1 : Nat, k1 ≤ l.length ∧ x = .int .i64 k1 ∧ Hid (NoEq l k val f k1) ∧ Hid (Below w.heap.size w wr)) (fun x _ => l.length - (intOf x).toNat)
  case atStart => exact ⟨0, by omega, rfl, (fun j _ hj => by omega), Below.refl _ _⟩
  case round =>
    obtain ⟨i, hi, rfl, hno, hb⟩ := hrel
    by_cases hlt : i < l.length
    · obtain ⟨ab, rfl⟩ : ∃ ab, aa = some ⟨ab, 0, none⟩ := by
        rcases HO.out.2 with ⟨_, h0⟩ | ⟨q, cap, cur, hv, _⟩
        · omega
        · cases hv; exact ⟨q, rfl⟩
      have hab := (HO.out.lt ab rfl).2
      have hcell : ∀ j v, (flatA l)[j]? = some v → wr.cell? ⟨ab, j, none⟩ = some v := by
        intro j v hj
        have := HO.out.cells (g := ab) rfl j v hj
        rw [Addr.add_lit, Nat.zero_add] at this
        exact (hb.out.cell (p := ⟨ab, j, none⟩) hab).trans this
      obtain ⟨f0, f1, f2⟩ := flatA_at hlt
      have g0 := hcell _ _ f0
      have g1 := hcell _ _ f1
      have g2 := hcell _ _ f2
      clear hcell f0 f1 f2
      have hval := HV.out l[i] (List.getElem_mem hlt)
      have HHit : Hid ((l[i].key.toList == k.toList) = true → eqB f l[i].val.data.toList val.data.toList = true → NotAsked l k val f false) := by
        intro he hq
        unfold NotAsked
        rw [(findA_mem HU.out).2 ⟨List.getElem_mem hlt, tl_eq.1 he⟩]
        simp [hq]
      have HNx : Hid (((l[i].key.toList == k.toList) = true → eqB f l[i].val.data.toList val.data.toList = false) → NoEq l k val f (i + 1)) := by
        intro h j hj hj2 he
        by_cases e : j = i
        · subst e; exact h he
        · exact hno.out j hj (by omega) he
      obtain ⟨y, hy⟩ : ∃ y, y = l[i] := ⟨_, rfl⟩
      rw [← hy] at g1 g2 hval HHit HNx
      clear hy
      have hsz := hb.out.size
      have HB1 : Hid (Below w.heap.size w (wr.alloc (.cells #[.string ⟨#[]⟩, .string y.key, .string y.val] 163))) := hb.out.alloc hsz _
      have HC := Lib.hid (fun W => insens_any f y.val val hval (by omega) W)
      cases he : (y.key.toList == k.toList)
      · have HN := Lib.hid (HNx.out (fun h => by rw [he] at h; cases h))
        clear HNx HHit HC hno
        go_wp2_with fail
        go_roundw
        case rel => exact ⟨i + 1, by omega, by go_num, HN.out, HB1.out⟩
        case measure => simp [intOf]; omega
      · have HHe := Lib.hid (HHit.out he)
        obtain ⟨q, hq⟩ : ∃ q, q = eqB f y.val.data.toList val.data.toList := ⟨_, rfl⟩
        rw [← hq] at HC HHe HNx
        clear HHit hno hq
        go_wp2_with fail
        refine (HC.out _).mono ?_
        rintro e w1 ⟨rfl, hb1⟩
        have HB2 : Hid (Below w.heap.size w w1) := HB1.out.trans (hb1.mono (by simp; omega))
        clear hb1 HB1 hb
        cases q
        · have HN := Lib.hid (HNx.out (fun _ => rfl))
          clear HNx HHe
          go_wp2_with fail
          go_roundw
          case rel => exact ⟨i + 1, by omega, by go_num, HN.out, HB2.out⟩
          case measure => simp [intOf]; omega
        · have HF := Lib.hid (HHe.out rfl)
          clear HNx HHe
          go_wp2_with fail
          go_ret
          exact ⟨false, rfl, HF.out, HB2.out⟩
    · have HF : Hid (NotAsked l k val f true) := by
        unfold NotAsked
        cases hf : findA l k with
        | none => rfl
        | some x =>
          unfold findA at hf
          have hm := List.mem_of_find?_eq_some hf
          have hk := List.find?_some hf
          obtain ⟨j, hj, rfl⟩ := List.getElem_of_mem hm
          have := hno.out j hj (by omega) hk
          show true = !eqB f l[j].val.data.toList val.data.toList
          rw [this]; rfl
      clear hno
      go_wp2_with fail
      go_ret
      exact ⟨true, rfl, HF.out, hb.out⟩

set_option maxRecDepth 100000 in
set_option maxHeartbeats 1000000 in
theorem am_dash (g B : Nat) (l : List At2) (aa : Option Addr) (ac : Nat) (k val : ByteArray) (hv : val.size ≤ 2147483647) (f : Bool) (w : World) (h : ElAt w g B l aa ac) :
    Calls Try.prog 221 #[.string k, .string val, .pointer (some ⟨g, 0, none⟩), .bool f] w (AnsPost (AttrAsked l k (RDash f val)) w) := by
  have HB0 : Hid (Below w.heap.size w ((w.alloc (.cells #[.string val] 9)).alloc (.cells #[.bool f] 4))) := ((Below.refl _ _).alloc (Nat.le_refl _) _).alloc (by simp) _
  have h2 := h.kept HB0.out
  have HM := Lib.hid (matchA_dash (some ⟨w.heap.size, 0, none⟩) (some ⟨w.heap.size + 1, 0, none⟩) (RDash f val) g B l h2.once h2.vals aa ac k _ h2.typ h2.atr h2.len h2.lt h2.own (asks_dash w.heap.size (w.heap.size + 1) f val hv _ (by rw [World.cell?_alloc_lt _ _ _ (by simp)]; exact (World.cell?_alloc_mark _ _ _ _ 0).trans rfl) (by simp) (by simp; omega) (by simp)))
  clear h h2
  go_enter Try.func221, Try.ntmps221
  go_wp2_with fail
  refine HM.out.mono ?_
  rintro e w1 ⟨b, rfl, hb, hb1⟩
  have HA := Lib.hid hb
  have HB1 := Lib.hid (HB0.out.trans (hb1.mono (by simp; omega)))
  clear hb hb1
  go_wp2_with fail
  go_ret
  exact ⟨b, rfl, HA.out, HB1.out⟩

def MatB (op : Int) (l : List At2) (k val : ByteArray) (f : Bool) (b : Bool) : Prop :=
  if op = 1 then AttrAsked l k (fun _ b => b = true) b else if op = 2 then AttrAsked l k (REq f val) b else if op = 3 then NotAsked l k val f b
  else if op = 4 then AttrAsked l k (RInc f val) b else if op = 5 then AttrAsked l k (RDash f val) b else if op = 6 then AttrAsked l k (RPre f val) b
  else if op = 7 then AttrAsked l k (RSuf f val) b else AttrAsked l k (RSub f val) b
def opS (op : Int) : ByteArray :=
  if op = 1 then ⟨#[]⟩ else if op = 2 then ⟨#[61]⟩ else if op = 3 then ⟨#[33, 61]⟩ else if op = 4 then ⟨#[126, 61]⟩
  else if op = 5 then ⟨#[124, 61]⟩ else if op = 6 then ⟨#[94, 61]⟩ else if op = 7 then ⟨#[36, 61]⟩ else ⟨#[42, 61]⟩
theorem MatB.of {op : Int} {l : List At2} {k val : ByteArray} {f b : Bool} (P : Prop) (hp : P) (h : MatB op l k val f b = P) : MatB op l k val f b := h ▸ hp

set_option maxRecDepth 100000 in
set_option maxHeartbeats 2000000 in
theorem at_1 (g B : Nat) (l : List At2) (aa : Option Addr) (ac : Nat) (k val : ByteArray) (hv : val.size ≤ 1000000000) (f : Bool) (w : World) (h : ElAt w g B l aa ac) :
    Calls Try.prog 176 #[.agg #[.string k, .string val, .string ⟨#[]⟩, .bool f], .pointer (some ⟨g, 0, none⟩)] w (AnsPost (MatB 1 l k val f) w) := by
  have HB0 : Hid (Below w.heap.size w (w.alloc (.cells #[.string k, .string val, .string ⟨#[]⟩, .bool f] 188))) := (Below.refl _ _).alloc (Nat.le_refl _) _
  have h2 := h.kept HB0.out
  have HS : Hid (ASel (w.alloc (.cells #[.string k, .string val, .string ⟨#[]⟩, .bool f] 188)) w.heap.size k val ⟨#[]⟩ f) := heap_alloc_new w _
  obtain ⟨q0, q1, q2, q3⟩ := HS.out.cells
  have HM := Lib.hid (matchA_has (fun _ b => b = true) g B l h2.once h2.vals aa ac k _ h2.typ h2.atr h2.len h2.lt h2.own (asks_has _))
  clear h h2 HS
  go_enter Try.func176, Try.ntmps176
  go_wp2_with fail
  refine HM.out.mono ?_
  rintro e w1 ⟨b, rfl, hb, hb1⟩
  have HA := Lib.hid hb
  have HB1 := Lib.hid (HB0.out.trans (hb1.mono (by simp)))
  clear hb hb1
  go_wp2_with fail
  go_ret
  exact ⟨b, rfl, HA.out, HB1.out⟩

set_option maxRecDepth 100000 in
set_option maxHeartbeats 2000000 in
theorem at_2 (g B : Nat) (l : List At2) (aa : Option Addr) (ac : Nat) (k val : ByteArray) (hv : val.size ≤ 1000000000) (f : Bool) (w : World) (h : ElAt w g B l aa ac) :
    Calls Try.prog 176 #[.agg #[.string k, .string val, .string ⟨#[61]⟩, .bool f], .pointer (some ⟨g, 0, none⟩)] w (AnsPost (MatB 2 l k val f) w) := by
  have HB0 : Hid (Below w.heap.size w (w.alloc (.cells #[.string k, .string val, .string ⟨#[61]⟩, .bool f] 188))) := (Below.refl _ _).alloc (Nat.le_refl _) _
  have h2 := h.kept HB0.out
  have HS : Hid (ASel (w.alloc (.cells #[.string k, .string val, .string ⟨#[61]⟩, .bool f] 188)) w.heap.size k val ⟨#[61]⟩ f) := heap_alloc_new w _
  obtain ⟨q0, q1, q2, q3⟩ := HS.out.cells
  have HM := Lib.hid (matchA_eq (some ⟨w.heap.size, 0, none⟩) (REq f val) g B l h2.once h2.vals aa ac k _ h2.typ h2.atr h2.len h2.lt h2.own (asks_eq w.heap.size k val ⟨#[61]⟩ f (by omega) _ HS.out (by simp)))
  clear h h2 HS
  go_enter Try.func176, Try.ntmps176
  go_wp2_with fail
  refine HM.out.mono ?_
  rintro e w1 ⟨b, rfl, hb, hb1⟩
  have HA := Lib.hid hb
  have HB1 := Lib.hid (HB0.out.trans (hb1.mono (by simp)))
  clear hb hb1
  go_wp2_with fail
  go_ret
  exact ⟨b, rfl, HA.out, HB1.out⟩

set_option maxRecDepth 100000 in
set_option maxHeartbeats 2000000 in
theorem at_3 (g B : Nat) (l : List At2) (aa : Option Addr) (ac : Nat) (k val : ByteArray) (hv : val.size ≤ 1000000000) (f : Bool) (w : World) (h : ElAt w g B l aa ac) :
    Calls Try.prog 176 #[.agg #[.string k, .string val, .string ⟨#[33, 61]⟩, .bool f], .pointer (some ⟨g, 0, none⟩)] w (AnsPost (MatB 3 l k val f) w) := by
  have HB0 : Hid (Below w.heap.size w (w.alloc (.cells #[.string k, .string val, .string ⟨#[33, 61]⟩, .bool f] 188))) := (Below.refl _ _).alloc (Nat.le_refl _) _
  have h2 := h.kept HB0.out
  have HS : Hid (ASel (w.alloc (.cells #[.string k, .string val, .string ⟨#[33, 61]⟩, .bool f] 188)) w.heap.size k val ⟨#[33, 61]⟩ f) := heap_alloc_new w _
  obtain ⟨q0, q1, q2, q3⟩ := HS.out.cells
  have HM := Lib.hid (am_not g B l aa ac k val (by omega) f _ h2)
  clear h h2 HS
  go_enter Try.func176, Try.ntmps176
  go_wp2_with fail
  refine HM.out.mono ?_
  rintro e w1 ⟨b, rfl, hb, hb1⟩
  have HA := Lib.hid hb
  have HB1 := Lib.hid (HB0.out.trans (hb1.mono (by simp)))
  clear hb hb1
  go_wp2_with fail
  go_ret
  exact ⟨b, rfl, HA.out, HB1.out⟩

set_option maxRecDepth 100000 in
set_option maxHeartbeats 2000000 in
theorem at_4 (g B : Nat) (l : List At2) (aa : Option Addr) (ac : Nat) (k val : ByteArray) (hv : val.size ≤ 1000000000) (f : Bool) (w : World) (h : ElAt w g B l aa ac) :
    Calls Try.prog 176 #[.agg #[.string k, .string val, .string ⟨#[126, 61]⟩, .bool f], .pointer (some ⟨g, 0, none⟩)] w (AnsPost (MatB 4 l k val f) w) := by
  have HB0 : Hid (Below w.heap.size w (w.alloc (.cells #[.string k, .string val, .string ⟨#[126, 61]⟩, .bool f] 188))) := (Below.refl _ _).alloc (Nat.le_refl _) _
  have h2 := h.kept HB0.out
  have HS : Hid (ASel (w.alloc (.cells #[.string k, .string val, .string ⟨#[126, 61]⟩, .bool f] 188)) w.heap.size k val ⟨#[126, 61]⟩ f) := heap_alloc_new w _
  obtain ⟨q0, q1, q2, q3⟩ := HS.out.cells
  have HM := Lib.hid (matchA_inc (some ⟨w.heap.size, 0, none⟩) (RInc f val) g B l h2.once h2.vals aa ac k _ h2.typ h2.atr h2.len h2.lt h2.own (asks_inc w.heap.size k val ⟨#[126, 61]⟩ f (by omega) _ HS.out (by simp)))
  clear h h2 HS
  go_enter Try.func176, Try.ntmps176
  go_wp2_with fail
  refine HM.out.mono ?_
  rintro e w1 ⟨b, rfl, hb, hb1⟩
  have HA := Lib.hid hb
  have HB1 := Lib.hid (HB0.out.trans (hb1.mono (by simp)))
  clear hb hb1
  go_wp2_with fail
  go_ret
  exact ⟨b, rfl, HA.out, HB1.out⟩

set_option maxRecDepth 100000 in
set_option maxHeartbeats 2000000 in
theorem at_5 (g B : Nat) (l : List At2) (aa : Option Addr) (ac : Nat) (k val : ByteArray) (hv : val.size ≤ 1000000000) (f : Bool) (w : World) (h : ElAt w g B l aa ac) :
    Calls Try.prog 176 #[.agg #[.string k, .string val, .string ⟨#[124, 61]⟩, .bool f], .pointer (some ⟨g, 0, none⟩)] w (AnsPost (MatB 5 l k val f) w) := by
  have HB0 : Hid (Below w.heap.size w (w.alloc (.cells #[.string k, .string val, .string ⟨#[124, 61]⟩, .bool f] 188))) := (Below.refl _ _).alloc (Nat.le_refl _) _
  have h2 := h.kept HB0.out
  have HS : Hid (ASel (w.alloc (.cells #[.string k, .string val, .string ⟨#[124, 61]⟩, .bool f] 188)) w.heap.size k val ⟨#[124, 61]⟩ f) := heap_alloc_new w _
  obtain ⟨q0, q1, q2, q3⟩ := HS.out.cells
  have HM := Lib.hid (am_dash g B l aa ac k val (by omega) f _ h2)
  clear h h2 HS
  go_enter Try.func176, Try.ntmps176
  go_wp2_with fail
  refine HM.out.mono ?_
  rintro e w1 ⟨b, rfl, hb, hb1⟩
  have HA := Lib.hid hb
  have HB1 := Lib.hid (HB0.out.trans (hb1.mono (by simp)))
  clear hb hb1
  go_wp2_with fail
  go_ret
  exact ⟨b, rfl, HA.out, HB1.out⟩

set_option maxRecDepth 100000 in
set_option maxHeartbeats 2000000 in
theorem at_6 (g B : Nat) (l : List At2) (aa : Option Addr) (ac : Nat) (k val : ByteArray) (hv : val.size ≤ 1000000000) (f : Bool) (w : World) (h : ElAt w g B l aa ac) :
    Calls Try.prog 176 #[.agg #[.string k, .string val, .string ⟨#[94, 61]⟩, .bool f], .pointer (some ⟨g, 0, none⟩)] w (AnsPost (MatB 6 l k val f) w) := by
  have HB0 : Hid (Below w.heap.size w (w.alloc (.cells #[.string k, .string val, .string ⟨#[94, 61]⟩, .bool f] 188))) := (Below.refl _ _).alloc (Nat.le_refl _) _
  have h2 := h.kept HB0.out
  have HS : Hid (ASel (w.alloc (.cells #[.string k, .string val, .string ⟨#[94, 61]⟩, .bool f] 188)) w.heap.size k val ⟨#[94, 61]⟩ f) := heap_alloc_new w _
  obtain ⟨q0, q1, q2, q3⟩ := HS.out.cells
  have HM := Lib.hid (am_pre g B l aa ac k val hv f _ h2)
  clear h h2 HS
  go_enter Try.func176, Try.ntmps176
  go_wp2_with fail
  refine HM.out.mono ?_
  rintro e w1 ⟨b, rfl, hb, hb1⟩
  have HA := Lib.hid hb
  have HB1 := Lib.hid (HB0.out.trans (hb1.mono (by simp)))
  clear hb hb1
  go_wp2_with fail
  go_ret
  exact ⟨b, rfl, HA.out, HB1.out⟩

set_option maxRecDepth 100000 in
set_option maxHeartbeats 2000000 in
theorem at_7 (g B : Nat) (l : List At2) (aa : Option Addr) (ac : Nat) (k val : ByteArray) (hv : val.size ≤ 1000000000) (f : Bool) (w : World) (h : ElAt w g B l aa ac) :
    Calls Try.prog 176 #[.agg #[.string k, .string val, .string ⟨#[36, 61]⟩, .bool f], .pointer (some ⟨g, 0, none⟩)] w (AnsPost (MatB 7 l k val f) w) := by
  have HB0 : Hid (Below w.heap.size w (w.alloc (.cells #[.string k, .string val, .string ⟨#[36, 61]⟩, .bool f] 188))) := (Below.refl _ _).alloc (Nat.le_refl _) _
  have h2 := h.kept HB0.out
  have HS : Hid (ASel (w.alloc (.cells #[.string k, .string val, .string ⟨#[36, 61]⟩, .bool f] 188)) w.heap.size k val ⟨#[36, 61]⟩ f) := heap_alloc_new w _
  obtain ⟨q0, q1, q2, q3⟩ := HS.out.cells
  have HM := Lib.hid (am_suf g B l aa ac k val hv f _ h2)
  clear h h2 HS
  go_enter Try.func176, Try.ntmps176
  go_wp2_with fail
  refine HM.out.mono ?_
  rintro e w1 ⟨b, rfl, hb, hb1⟩
  have HA := Lib.hid hb
  have HB1 := Lib.hid (HB0.out.trans (hb1.mono (by simp)))
  clear hb hb1
  go_wp2_with fail
  go_ret
  exact ⟨b, rfl, HA.out, HB1.out⟩

set_option maxRecDepth 100000 in
set_option maxHeartbeats 2000000 in
theorem at_8 (g B : Nat) (l : List At2) (aa : Option Addr) (ac : Nat) (k val : ByteArray) (hv : val.size ≤ 1000000000) (f : Bool) (w : World) (h : ElAt w g B l aa ac) :
    Calls Try.prog 176 #[.agg #[.string k, .string val, .string ⟨#[42, 61]⟩, .bool f], .pointer (some ⟨g, 0, none⟩)] w (AnsPost (MatB 8 l k val f) w) := by
  have HB0 : Hid (Below w.heap.size w (w.alloc (.cells #[.string k, .string val, .string ⟨#[42, 61]⟩, .bool f] 188))) := (Below.refl _ _).alloc (Nat.le_refl _) _
  have h2 := h.kept HB0.out
  have HS : Hid (ASel (w.alloc (.cells #[.string k, .string val, .string ⟨#[42, 61]⟩, .bool f] 188)) w.heap.size k val ⟨#[42, 61]⟩ f) := heap_alloc_new w _
  obtain ⟨q0, q1, q2, q3⟩ := HS.out.cells
  have HM := Lib.hid (am_sub g B l aa ac k val hv f _ h2)
  clear h h2 HS
  go_enter Try.func176, Try.ntmps176
  go_wp2_with fail
  refine HM.out.mono ?_
  rintro e w1 ⟨b, rfl, hb, hb1⟩
  have HA := Lib.hid hb
  have HB1 := Lib.hid (HB0.out.trans (hb1.mono (by simp)))
  clear hb hb1
  go_wp2_with fail
  go_ret
  exact ⟨b, rfl, HA.out, HB1.out⟩
end Go.Proofs.Ytfebdbfkpmjpeaa
