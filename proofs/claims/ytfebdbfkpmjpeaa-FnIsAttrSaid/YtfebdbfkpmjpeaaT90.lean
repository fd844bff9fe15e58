/- An attribute asked by a function value: the program's matchAttribute. (Written by a program of mine.) -/
import Derived.Test.YtfebdbfkpmjpeaaT27
import Derived.Test.YtfebdbfkpmjpeaaT68
namespace Go.Proofs.Ytfebdbfkpmjpeaa
open Go.RowKit
set_option linter.unusedVariables false

def AskPost (R : ByteArray → Bool → Prop) (s : ByteArray) (w : World) (e : Ending) (w' : World) : Prop := ∃ b, e = .returned (.bool b) ∧ R s b ∧ Below w.heap.size w w'
def AttrAsked (l : List At2) (k : ByteArray) (R : ByteArray → Bool → Prop) (b : Bool) : Prop := match findA l k with | none => b = false | some x => R x.val b
def MAPost (l : List At2) (k : ByteArray) (R : ByteArray → Bool → Prop) (w : World) (e : Ending) (w' : World) : Prop := ∃ b, e = .returned (.bool b) ∧ AttrAsked l k R b ∧ Below w.heap.size w w'
/-- What stands ahead of a place is not asked, or answers no. -/
def NoYet (l : List At2) (k : ByteArray) (R : ByteArray → Bool → Prop) (i : Nat) : Prop := ∀ j (h : j < l.length), j < i → (l[j].key.toList == k.toList) = true → R l[j].val false
theorem noYet_end {l : List At2} {k : ByteArray} {R : ByteArray → Bool → Prop} {i : Nat} (h : NoYet l k R i) (hi : l.length ≤ i) : AttrAsked l k R false := by
  unfold AttrAsked
  cases hf : findA l k with
  | none => rfl
  | some x =>
    unfold findA at hf
    have hm := List.mem_of_find?_eq_some hf
    have hk := List.find?_some hf
    obtain ⟨j, hj, rfl⟩ := List.getElem_of_mem hm
    exact h j hj (by omega) hk
theorem asked_hit {l : List At2} (hu : KeysOnce l) {k : ByteArray} {R : ByteArray → Bool → Prop} {i : Nat} (hi : i < l.length) (he : (l[i].key.toList == k.toList) = true) {b : Bool} (hr : R l[i].val b) : AttrAsked l k R b := by
  unfold AttrAsked
  rw [(findA_mem hu).2 ⟨List.getElem_mem hi, tl_eq.1 he⟩]
  exact hr


def Asks_has (R : ByteArray → Bool → Prop) (w : World) : Prop := ∀ (W : World) (s : ByteArray), Below w.heap.size w W → s.size ≤ 2147483647 → Calls Try.prog 215 #[.string s] W (AskPost R s W)
set_option maxRecDepth 100000 in
set_option maxHeartbeats 1000000 in
theorem matchA_has (R : ByteArray → Bool → Prop) (g B : Nat) (l : List At2) (hu : KeysOnce l) (hvl : ∀ x ∈ l, x.val.size ≤ 2147483647) (aa : Option Addr) (ac : Nat) (k : ByteArray) (w : World) (h5 : w.cell? ⟨g, 5, none⟩ = some (.int .u32 3)) (h9 : w.cell? ⟨g, 9, none⟩ = some (.slice aa l.length ac)) (hl : l.length ≤ 2147483647) (hg : g < w.heap.size)
    (hown : w.ownsRow B 163 3 (.slice aa l.length ac) l.length (flatA l)) (hA : Asks_has  R w) :
    Calls Try.prog 214 #[.pointer (some ⟨g, 0, none⟩), .string k, .func (.func 215) #[] #[]] w (MAPost l k R w) := by
  have HO := Lib.hid hown
  have HA := Lib.hid hA
  have HU := Lib.hid hu
  have HV := Lib.hid hvl
  clear hown hA hu hvl
  go_enter Try.func214, Try.ntmps214
  go_wp2_with fail
  go_loopw [19] (fun x wr => ∃ k1 : Nat, k1 ≤ l.length ∧ x = .int .i64 k1 ∧ Hid (NoYet l k R k1) ∧ Hid (Below w.heap.size w wr)) (fun x _ => l.length - (intOf x).toNat)
  case atStart => exact ⟨0, by omega, rfl, (fun j _ hj => by omega), Below.refl _ _⟩
  case round =>
    obtain ⟨i, hi, rfl, hno, hb⟩ := hrel
    by_cases hlt : i < l.length
    · obtain ⟨ab, rfl⟩ : ∃ ab, aa = some ⟨ab, 0, none⟩ := by
        rcases HO.out.2 with ⟨_, h0⟩ | ⟨q, cap, cur, hv, _⟩
        · omega
        · cases hv; exact ⟨q, rfl⟩
      have hab := (HO.out.lt ab rfl).2
      have hcell : ∀ j v, (flatA l)[j]? = some v → wr.cell? ⟨ab, j, none⟩ = some v := by
        intro j v hj
        have := HO.out.cells (g := ab) rfl j v hj
        rw [Addr.add_lit, Nat.zero_add] at this
        exact (hb.out.cell (p := ⟨ab, j, none⟩) hab).trans this
      obtain ⟨f0, f1, f2⟩ := flatA_at hlt
      have g0 := hcell _ _ f0
      have g1 := hcell _ _ f1
      have g2 := hcell _ _ f2
      clear hcell f0 f1 f2
      have hval := HV.out l[i] (List.getElem_mem hlt)
      have HHit := Lib.hid (fun he b hr => asked_hit HU.out (R := R) (k := k) hlt he (b := b) hr)
      have HNx : Hid (((l[i].key.toList == k.toList) = true → R l[i].val false) → NoYet l k R (i + 1)) := by
        intro h j hj hj2 he
        by_cases e : j = i
        · subst e; exact h he
        · exact hno.out j hj (by omega) he
      obtain ⟨y, hy⟩ : ∃ y, y = l[i] := ⟨_, rfl⟩
      rw [← hy] at g1 g2 hval HHit HNx
      clear hy
      have hsz := hb.out.size
      have HB1 : Hid (Below w.heap.size w (wr.alloc (.cells #[.string ⟨#[]⟩, .string y.key, .string y.val] 163))) := hb.out.alloc hsz _
      have HC := Lib.hid (HA.out _ y.val HB1.out hval)
      cases he : (y.key.toList == k.toList)
      · have HN := Lib.hid (HNx.out (fun h => by rw [he] at h; cases h))
        clear HNx HHit HC hno
        go_wp2_with fail
        go_roundw
        case rel => exact ⟨i + 1, by omega, by go_num, HN.out, HB1.out⟩
        case measure => simp [intOf]; omega
      · have HHe := Lib.hid (HHit.out he)
        clear HHit hno
        go_wp2_with fail
        refine HC.out.mono ?_
        rintro e w1 ⟨b, rfl, hr, hb1⟩
        have HB2 : Hid (Below w.heap.size w w1) := HB1.out.trans (hb1.mono (by simp; omega))
        have HR := Lib.hid hr
        clear hb1 hr HB1 hb
        cases b
        · have HN := Lib.hid (HNx.out (fun _ => HR.out))
          clear HNx HHe
          go_wp2_with fail
          go_roundw
          case rel => exact ⟨i + 1, by omega, by go_num, HN.out, HB2.out⟩
          case measure => simp [intOf]; omega
        · have HF := Lib.hid (HHe.out true HR.out)
          clear HNx HHe
          go_wp2_with fail
          go_ret
          exact ⟨true, rfl, HF.out, HB2.out⟩
    · have HF := Lib.hid (noYet_end hno.out (by omega))
      clear hno
      go_wp2_with fail
      go_ret
      exact ⟨false, rfl, HF.out, hb.out⟩

def Asks_eq (x0 : Option Addr) (R : ByteArray → Bool → Prop) (w : World) : Prop := ∀ (W : World) (s : ByteArray), Below w.heap.size w W → s.size ≤ 2147483647 → Calls Try.prog 216 #[.string s, .pointer x0] W (AskPost R s W)
set_option maxRecDepth 100000 in
set_option maxHeartbeats 1000000 in
theorem matchA_eq (x0 : Option Addr) (R : ByteArray → Bool → Prop) (g B : Nat) (l : List At2) (hu : KeysOnce l) (hvl : ∀ x ∈ l, x.val.size ≤ 2147483647) (aa : Option Addr) (ac : Nat) (k : ByteArray) (w : World) (h5 : w.cell? ⟨g, 5, none⟩ = some (.int .u32 3)) (h9 : w.cell? ⟨g, 9, none⟩ = some (.slice aa l.length ac)) (hl : l.length ≤ 2147483647) (hg : g < w.heap.size)
    (hown : w.ownsRow B 163 3 (.slice aa l.length ac) l.length (flatA l)) (hA : Asks_eq x0 R w) :
    Calls Try.prog 214 #[.pointer (some ⟨g, 0, none⟩), .string k, .func (.func 216) #[] #[.pointer x0]] w (MAPost l k R w) := by
  have HO := Lib.hid hown
  have HA := Lib.hid hA
  have HU := Lib.hid hu
  have HV := Lib.hid hvl
  clear hown hA hu hvl
  go_enter Try.func214, Try.ntmps214
  go_wp2_with fail
  go_loopw [19] (fun x wr => ∃ k1 : Nat, k1 ≤ l.length ∧ x = .int .i64 k1 ∧ Hid (NoYet l k R k1) ∧ Hid (Below w.heap.size w wr)) (fun x _ => l.length - (intOf x).toNat)
  case atStart => exact ⟨0, by omega, rfl, (fun j _ hj => by omega), Below.refl _ _⟩
  case round =>
    obtain ⟨i, hi, rfl, hno, hb⟩ := hrel
    by_cases hlt : i < l.length
    · obtain ⟨ab, rfl⟩ : ∃ ab, aa = some ⟨ab, 0, none⟩ := by
        rcases HO.out.2 with ⟨_, h0⟩ | ⟨q, cap, cur, hv, _⟩
        · omega
        · cases hv; exact ⟨q, rfl⟩
      have hab := (HO.out.lt ab rfl).2
      have hcell : ∀ j v, (flatA l)[j]? = some v → wr.cell? ⟨ab, j, none⟩ = some v := by
        intro j v hj
        have := HO.out.cells (g := ab) rfl j v hj
        rw [Addr.add_lit, Nat.zero_add] at this
        exact (hb.out.cell (p := ⟨ab, j, none⟩) hab).trans this
      obtain ⟨f0, f1, f2⟩ := flatA_at hlt
      have g0 := hcell _ _ f0
      have g1 := hcell _ _ f1
      have g2 := hcell _ _ f2
      clear hcell f0 f1 f2
      have hval := HV.out l[i] (List.getElem_mem hlt)
      have HHit := Lib.hid (fun he b hr => asked_hit HU.out (R := R) (k := k) hlt he (b := b) hr)
      have HNx : Hid (((l[i].key.toList == k.toList) = true → R l[i].val false) → NoYet l k R (i + 1)) := by
        intro h j hj hj2 he
        by_cases e : j = i
        · subst e; exact h he
        · exact hno.out j hj (by omega) he
      obtain ⟨y, hy⟩ : ∃ y, y = l[i] := ⟨_, rfl⟩
      rw [← hy] at g1 g2 hval HHit HNx
      clear hy
      have hsz := hb.out.size
      have HB1 : Hid (Below w.heap.size w (wr.alloc (.cells #[.string ⟨#[]⟩, .string y.key, .string y.val] 163))) := hb.out.alloc hsz _
      have HC := Lib.hid (HA.out _ y.val HB1.out hval)
      cases he : (y.key.toList == k.toList)
      · have HN := Lib.hid (HNx.out (fun h => by rw [he] at h; cases h))
        clear HNx HHit HC hno
        go_wp2_with fail
        go_roundw
        case rel => exact ⟨i + 1, by omega, by go_num, HN.out, HB1.out⟩
        case measure => simp [intOf]; omega
      · have HHe := Lib.hid (HHit.out he)
        clear HHit hno
        go_wp2_with fail
        refine HC.out.mono ?_
        rintro e w1 ⟨b, rfl, hr, hb1⟩
        have HB2 : Hid (Below w.heap.size w w1) := HB1.out.trans (hb1.mono (by simp; omega))
        have HR := Lib.hid hr
        clear hb1 hr HB1 hb
        cases b
        · have HN := Lib.hid (HNx.out (fun _ => HR.out))
          clear HNx HHe
          go_wp2_with fail
          go_roundw
          case rel => exact ⟨i + 1, by omega, by go_num, HN.out, HB2.out⟩
          case measure => simp [intOf]; omega
        · have HF := Lib.hid (HHe.out true HR.out)
          clear HNx HHe
          go_wp2_with fail
          go_ret
          exact ⟨true, rfl, HF.out, HB2.out⟩
    · have HF := Lib.hid (noYet_end hno.out (by omega))
      clear hno
      go_wp2_with fail
      go_ret
      exact ⟨false, rfl, HF.out, hb.out⟩

def Asks_inc (x0 : Option Addr) (R : ByteArray → Bool → Prop) (w : World) : Prop := ∀ (W : World) (s : ByteArray), Below w.heap.size w W → s.size ≤ 2147483647 → Calls Try.prog 219 #[.string s, .pointer x0] W (AskPost R s W)
set_option maxRecDepth 100000 in
set_option maxHeartbeats 1000000 in
theorem matchA_inc (x0 : Option Addr) (R : ByteArray → Bool → Prop) (g B : Nat) (l : List At2) (hu : KeysOnce l) (hvl : ∀ x ∈ l, x.val.size ≤ 2147483647) (aa : Option Addr) (ac : Nat) (k : ByteArray) (w : World) (h5 : w.cell? ⟨g, 5, none⟩ = some (.int .u32 3)) (h9 : w.cell? ⟨g, 9, none⟩ = some (.slice aa l.length ac)) (hl : l.length ≤ 2147483647) (hg : g < w.heap.size)
    (hown : w.ownsRow B 163 3 (.slice aa l.length ac) l.length (flatA l)) (hA : Asks_inc x0 R w) :
    Calls Try.prog 214 #[.pointer (some ⟨g, 0, none⟩), .string k, .func (.func 219) #[] #[.pointer x0]] w (MAPost l k R w) := by
  have HO := Lib.hid hown
  have HA := Lib.hid hA
  have HU := Lib.hid hu
  have HV := Lib.hid hvl
  clear hown hA hu hvl
  go_enter Try.func214, Try.ntmps214
  go_wp2_with fail
  go_loopw [19] (fun x wr => ∃ k1 : Nat, k1 ≤ l.length ∧ x = .int .i64 k1 ∧ Hid (NoYet l k R k1) ∧ Hid (Below w.heap.size w wr)) (fun x _ => l.length - (intOf x).toNat)
  case atStart => exact ⟨0, by omega, rfl, (fun j _ hj => by omega), Below.refl _ _⟩
  case round =>
    obtain ⟨i, hi, rfl, hno, hb⟩ := hrel
    by_cases hlt : i < l.length
    · obtain ⟨ab, rfl⟩ : ∃ ab, aa = some ⟨ab, 0, none⟩ := by
        rcases HO.out.2 with ⟨_, h0⟩ | ⟨q, cap, cur, hv, _⟩
        · omega
        · cases hv; exact ⟨q, rfl⟩
      have hab := (HO.out.lt ab rfl).2
      have hcell : ∀ j v, (flatA l)[j]? = some v → wr.cell? ⟨ab, j, none⟩ = some v := by
        intro j v hj
        have := HO.out.cells (g := ab) rfl j v hj
        rw [Addr.add_lit, Nat.zero_add] at this
        exact (hb.out.cell (p := ⟨ab, j, none⟩) hab).trans this
      obtain ⟨f0, f1, f2⟩ := flatA_at hlt
      have g0 := hcell _ _ f0
      have g1 := hcell _ _ f1
      have g2 := hcell _ _ f2
      clear hcell f0 f1 f2
      have hval := HV.out l[i] (List.getElem_mem hlt)
      have HHit := Lib.hid (fun he b hr => asked_hit HU.out (R := R) (k := k) hlt he (b := b) hr)
      have HNx : Hid (((l[i].key.toList == k.toList) = true → R l[i].val false) → NoYet l k R (i + 1)) := by
        intro h j hj hj2 he
        by_cases e : j = i
        · subst e; exact h he
        · exact hno.out j hj (by omega) he
      obtain ⟨y, hy⟩ : ∃ y, y = l[i] := ⟨_, rfl⟩
      rw [← hy] at g1 g2 hval HHit HNx
      clear hy
      have hsz := hb.out.size
      have HB1 : Hid (Below w.heap.size w (wr.alloc (.cells #[.string ⟨#[]⟩, .string y.key, .string y.val] 163))) := hb.out.alloc hsz _
      have HC := Lib.hid (HA.out _ y.val HB1.out hval)
      cases he : (y.key.toList == k.toList)
      · have HN := Lib.hid (HNx.out (fun h => by rw [he] at h; cases h))
        clear HNx HHit HC hno
        go_wp2_with fail
        go_roundw
        case rel => exact ⟨i + 1, by omega, by go_num, HN.out, HB1.out⟩
        case measure => simp [intOf]; omega
      · have HHe := Lib.hid (HHit.out he)
        clear HHit hno
        go_wp2_with fail
        refine HC.out.mono ?_
        rintro e w1 ⟨b, rfl, hr, hb1⟩
        have HB2 : Hid (Below w.heap.size w w1) := HB1.out.trans (hb1.mono (by simp; omega))
        have HR := Lib.hid hr
        clear hb1 hr HB1 hb
        cases b
        · have HN := Lib.hid (HNx.out (fun _ => HR.out))
          clear HNx HHe
          go_wp2_with fail
          go_roundw
          case rel => exact ⟨i + 1, by omega, by go_num, HN.out, HB2.out⟩
          case measure => simp [intOf]; omega
        · have HF := Lib.hid (HHe.out true HR.out)
          clear HNx HHe
          go_wp2_with fail
          go_ret
          exact ⟨true, rfl, HF.out, HB2.out⟩
    · have HF := Lib.hid (noYet_end hno.out (by omega))
      clear hno
      go_wp2_with fail
      go_ret
      exact ⟨false, rfl, HF.out, hb.out⟩

def Asks_dash (x0 x1 : Option Addr) (R : ByteArray → Bool → Prop) (w : World) : Prop := ∀ (W : World) (s : ByteArray), Below w.heap.size w W → s.size ≤ 2147483647 → Calls Try.prog 243 #[.string s, .pointer x0, .pointer x1] W (AskPost R s W)
set_option maxRecDepth 100000 in
set_option maxHeartbeats 1000000 in
theorem matchA_dash (x0 x1 : Option Addr) (R : ByteArray → Bool → Prop) (g B : Nat) (l : List At2) (hu : KeysOnce l) (hvl : ∀ x ∈ l, x.val.size ≤ 2147483647) (aa : Option Addr) (ac : Nat) (k : ByteArray) (w : World) (h5 : w.cell? ⟨g, 5, none⟩ = some (.int .u32 3)) (h9 : w.cell? ⟨g, 9, none⟩ = some (.slice aa l.length ac)) (hl : l.length ≤ 2147483647) (hg : g < w.heap.size)
    (hown : w.ownsRow B 163 3 (.slice aa l.length ac) l.length (flatA l)) (hA : Asks_dash x0 x1 R w) :
    Calls Try.prog 214 #[.pointer (some ⟨g, 0, none⟩), .string k, .func (.func 243) #[] #[.pointer x0, .pointer x1]] w (MAPost l k R w) := by
  have HO := Lib.hid hown
  have HA := Lib.hid hA
  have HU := Lib.hid hu
  have HV := Lib.hid hvl
  clear hown hA hu hvl
  go_enter Try.func214, Try.ntmps214
  go_wp2_with fail
  go_loopw [19] (fun x wr => ∃ k1 : Nat, k1 ≤ l.length ∧ x = .int .i64 k1 ∧ Hid (NoYet l k R k1) ∧ Hid (Below w.heap.size w wr)) (fun x _ => l.length - (intOf x).toNat)
  case atStart => exact ⟨0, by omega, rfl, (fun j _ hj => by omega), Below.refl _ _⟩
  case round =>
    obtain ⟨i, hi, rfl, hno, hb⟩ := hrel
    by_cases hlt : i < l.length
    · obtain ⟨ab, rfl⟩ : ∃ ab, aa = some ⟨ab, 0, none⟩ := by
        rcases HO.out.2 with ⟨_, h0⟩ | ⟨q, cap, cur, hv, _⟩
        · omega
        · cases hv; exact ⟨q, rfl⟩
      have hab := (HO.out.lt ab rfl).2
      have hcell : ∀ j v, (flatA l)[j]? = some v → wr.cell? ⟨ab, j, none⟩ = some v := by
        intro j v hj
        have := HO.out.cells (g := ab) rfl j v hj
        rw [Addr.add_lit, Nat.zero_add] at this
        exact (hb.out.cell (p := ⟨ab, j, none⟩) hab).trans this
      obtain ⟨f0, f1, f2⟩ := flatA_at hlt
      have g0 := hcell _ _ f0
      have g1 := hcell _ _ f1
      have g2 := hcell _ _ f2
      clear hcell f0 f1 f2
      have hval := HV.out l[i] (List.getElem_mem hlt)
      have HHit := Lib.hid (fun he b hr => asked_hit HU.out (R := R) (k := k) hlt he (b := b) hr)
      have HNx : Hid (((l[i].key.toList == k.toList) = true → R l[i].val false) → NoYet l k R (i + 1)) := by
        intro h j hj hj2 he
        by_cases e : j = i
        · subst e; exact h he
        · exact hno.out j hj (by omega) he
      obtain ⟨y, hy⟩ : ∃ y, y = l[i] := ⟨_, rfl⟩
      rw [← hy] at g1 g2 hval HHit HNx
      clear hy
      have hsz := hb.out.size
      have HB1 : Hid (Below w.heap.size w (wr.alloc (.cells #[.string ⟨#[]⟩, .string y.key, .string y.val] 163))) := hb.out.alloc hsz _
      have HC := Lib.hid (HA.out _ y.val HB1.out hval)
      cases he : (y.key.toList == k.toList)
      · have HN := Lib.hid (HNx.out (fun h => by rw [he] at h; cases h))
        clear HNx HHit HC hno
        go_wp2_with fail
        go_roundw
        case rel => exact ⟨i + 1, by omega, by go_num, HN.out, HB1.out⟩
        case measure => simp [intOf]; omega
      · have HHe := Lib.hid (HHit.out he)
        clear HHit hno
        go_wp2_with fail
        refine HC.out.mono ?_
        rintro e w1 ⟨b, rfl, hr, hb1⟩
        have HB2 : Hid (Below w.heap.size w w1) := HB1.out.trans (hb1.mono (by simp; omega))
        have HR := Lib.hid hr
        clear hb1 hr HB1 hb
        cases b
        · have HN := Lib.hid (HNx.out (fun _ => HR.out))
          clear HNx HHe
          go_wp2_with fail
          go_roundw
          case rel => exact ⟨i + 1, by omega, by go_num, HN.out, HB2.out⟩
          case measure => simp [intOf]; omega
        · have HF := Lib.hid (HHe.out true HR.out)
          clear HNx HHe
          go_wp2_with fail
          go_ret
          exact ⟨true, rfl, HF.out, HB2.out⟩
    · have HF := Lib.hid (noYet_end hno.out (by omega))
      clear hno
      go_wp2_with fail
      go_ret
      exact ⟨false, rfl, HF.out, hb.out⟩

def Asks_pre (x0 x1 : Option Addr) (R : ByteArray → Bool → Prop) (w : World) : Prop := ∀ (W : World) (s : ByteArray), Below w.heap.size w W → s.size ≤ 2147483647 → Calls Try.prog 244 #[.string s, .pointer x0, .pointer x1] W (AskPost R s W)
set_option maxRecDepth 100000 in
set_option maxHeartbeats 1000000 in
theorem matchA_pre (x0 x1 : Option Addr) (R : ByteArray → Bool → Prop) (g B : Nat) (l : List At2) (hu : KeysOnce l) (hvl : ∀ x ∈ l, x.val.size ≤ 2147483647) (aa : Option Addr) (ac : Nat) (k : ByteArray) (w : World) (h5 : w.cell? ⟨g, 5, none⟩ = some (.int .u32 3)) (h9 : w.cell? ⟨g, 9, none⟩ = some (.slice aa l.length ac)) (hl : l.length ≤ 2147483647) (hg : g < w.heap.size)
    (hown : w.ownsRow B 163 3 (.slice aa l.length ac) l.length (flatA l)) (hA : Asks_pre x0 x1 R w) :
    Calls Try.prog 214 #[.pointer (some ⟨g, 0, none⟩), .string k, .func (.func 244) #[] #[.pointer x0, .pointer x1]] w (MAPost l k R w) := by
  have HO := Lib.hid hown
  have HA := Lib.hid hA
  have HU := Lib.hid hu
  have HV := Lib.hid hvl
  clear hown hA hu hvl
  go_enter Try.func214, Try.ntmps214
  go_wp2_with fail
  go_loopw [19] (fun x wr => ∃ k1 : Nat, k1 ≤ l.length ∧ x = .int .i64 k1 ∧ Hid (NoYet l k R k1) ∧ Hid (Below w.heap.size w wr)) (fun x _ => l.length - (intOf x).toNat)
  case atStart => exact ⟨0, by omega, rfl, (fun j _ hj => by omega), Below.refl _ _⟩
  case round =>
    obtain ⟨i, hi, rfl, hno, hb⟩ := hrel
    by_cases hlt : i < l.length
    · obtain ⟨ab, rfl⟩ : ∃ ab, aa = some ⟨ab, 0, none⟩ := by
        rcases HO.out.2 with ⟨_, h0⟩ | ⟨q, cap, cur, hv, _⟩
        · omega
        · cases hv; exact ⟨q, rfl⟩
      have hab := (HO.out.lt ab rfl).2
      have hcell : ∀ j v, (flatA l)[j]? = some v → wr.cell? ⟨ab, j, none⟩ = some v := by
        intro j v hj
        have := HO.out.cells (g := ab) rfl j v hj
        rw [Addr.add_lit, Nat.zero_add] at this
        exact (hb.out.cell (p := ⟨ab, j, none⟩) hab).trans this
      obtain ⟨f0, f1, f2⟩ := flatA_at hlt
      have g0 := hcell _ _ f0
      have g1 := hcell _ _ f1
      have g2 := hcell _ _ f2
      clear hcell f0 f1 f2
      have hval := HV.out l[i] (List.getElem_mem hlt)
      have HHit := Lib.hid (fun he b hr => asked_hit HU.out (R := R) (k := k) hlt he (b := b) hr)
      have HNx : Hid (((l[i].key.toList == k.toList) = true → R l[i].val false) → NoYet l k R (i + 1)) := by
        intro h j hj hj2 he
        by_cases e : j = i
        · subst e; exact h he
        · exact hno.out j hj (by omega) he
      obtain ⟨y, hy⟩ : ∃ y, y = l[i] := ⟨_, rfl⟩
      rw [← hy] at g1 g2 hval HHit HNx
      clear hy
      have hsz := hb.out.size
      have HB1 : Hid (Below w.heap.size w (wr.alloc (.cells #[.string ⟨#[]⟩, .string y.key, .string y.val] 163))) := hb.out.alloc hsz _
      have HC := Lib.hid (HA.out _ y.val HB1.out hval)
      cases he : (y.key.toList == k.toList)
      · have HN := Lib.hid (HNx.out (fun h => by rw [he] at h; cases h))
        clear HNx HHit HC hno
        go_wp2_with fail
        go_roundw
        case rel => exact ⟨i + 1, by omega, by go_num, HN.out, HB1.out⟩
        case measure => simp [intOf]; omega
      · have HHe := Lib.hid (HHit.out he)
        clear HHit hno
        go_wp2_with fail
        refine HC.out.mono ?_
        rintro e w1 ⟨b, rfl, hr, hb1⟩
        have HB2 : Hid (Below w.heap.size w w1) := HB1.out.trans (hb1.mono (by simp; omega))
        have HR := Lib.hid hr
        clear hb1 hr HB1 hb
        cases b
        · have HN := Lib.hid (HNx.out (fun _ => HR.out))
          clear HNx HHe
          go_wp2_with fail
          go_roundw
          case rel => exact ⟨i + 1, by omega, by go_num, HN.out, HB2.out⟩
          case measure => simp [intOf]; omega
        · have HF := Lib.hid (HHe.out true HR.out)
          clear HNx HHe
          go_wp2_with fail
          go_ret
          exact ⟨true, rfl, HF.out, HB2.out⟩
    · have HF := Lib.hid (noYet_end hno.out (by omega))
      clear hno
      go_wp2_with fail
      go_ret
      exact ⟨false, rfl, HF.out, hb.out⟩

def Asks_suf (x0 x1 : Option Addr) (R : ByteArray → Bool → Prop) (w : World) : Prop := ∀ (W : World) (s : ByteArray), Below w.heap.size w W → s.size ≤ 2147483647 → Calls Try.prog 247 #[.string s, .pointer x0, .pointer x1] W (AskPost R s W)
set_option maxRecDepth 100000 in
set_option maxHeartbeats 1000000 in
theorem matchA_suf (x0 x1 : Option Addr) (R : ByteArray → Bool → Prop) (g B : Nat) (l : List At2) (hu : KeysOnce l) (hvl : ∀ x ∈ l, x.val.size ≤ 2147483647) (aa : Option Addr) (ac : Nat) (k : ByteArray) (w : World) (h5 : w.cell? ⟨g, 5, none⟩ = some (.int .u32 3)) (h9 : w.cell? ⟨g, 9, none⟩ = some (.slice aa l.length ac)) (hl : l.length ≤ 2147483647) (hg : g < w.heap.size)
    (hown : w.ownsRow B 163 3 (.slice aa l.length ac) l.length (flatA l)) (hA : Asks_suf x0 x1 R w) :
    Calls Try.prog 214 #[.pointer (some ⟨g, 0, none⟩), .string k, .func (.func 247) #[] #[.pointer x0, .pointer x1]] w (MAPost l k R w) := by
  have HO := Lib.hid hown
  have HA := Lib.hid hA
  have HU := Lib.hid hu
  have HV := Lib.hid hvl
  clear hown hA hu hvl
  go_enter Try.func214, Try.ntmps214
  go_wp2_with fail
  go_loopw [19] (fun x wr => ∃ k1 : Nat, k1 ≤ l.length ∧ x = .int .i64 k1 ∧ Hid (NoYet l k R k1) ∧ Hid (Below w.heap.size w wr)) (fun x _ => l.length - (intOf x).toNat)
  case atStart => exact ⟨0, by omega, rfl, (fun j _ hj => by omega), Below.refl _ _⟩
  case round =>
    obtain ⟨i, hi, rfl, hno, hb⟩ := hrel
    by_cases hlt : i < l.length
    · obtain ⟨ab, rfl⟩ : ∃ ab, aa = some ⟨ab, 0, none⟩ := by
        rcases HO.out.2 with ⟨_, h0⟩ | ⟨q, cap, cur, hv, _⟩
        · omega
        · cases hv; exact ⟨q, rfl⟩
      have hab := (HO.out.lt ab rfl).2
      have hcell : ∀ j v, (flatA l)[j]? = some v → wr.cell? ⟨ab, j, none⟩ = some v := by
        intro j v hj
        have := HO.out.cells (g := ab) rfl j v hj
        rw [Addr.add_lit, Nat.zero_add] at this
        exact (hb.out.cell (p := ⟨ab, j, none⟩) hab).trans this
      obtain ⟨f0, f1, f2⟩ := flatA_at hlt
      have g0 := hcell _ _ f0
      have g1 := hcell _ _ f1
      have g2 := hcell _ _ f2
      clear hcell f0 f1 f2
      have hval := HV.out l[i] (List.getElem_mem hlt)
      have HHit := Lib.hid (fun he b hr => asked_hit HU.out (R := R) (k := k) hlt he (b := b) hr)
      have HNx : Hid (((l[i].key.toList == k.toList) = true → R l[i].val false) → NoYet l k R (i + 1)) := by
        intro h j hj hj2 he
        by_cases e : j = i
        · subst e; exact h he
        · exact hno.out j hj (by omega) he
      obtain ⟨y, hy⟩ : ∃ y, y = l[i] := ⟨_, rfl⟩
      rw [← hy] at g1 g2 hval HHit HNx
      clear hy
      have hsz := hb.out.size
      have HB1 : Hid (Below w.heap.size w (wr.alloc (.cells #[.string ⟨#[]⟩, .string y.key, .string y.val] 163))) := hb.out.alloc hsz _
      have HC := Lib.hid (HA.out _ y.val HB1.out hval)
      cases he : (y.key.toList == k.toList)
      · have HN := Lib.hid (HNx.out (fun h => by rw [he] at h; cases h))
        clear HNx HHit HC hno
        go_wp2_with fail
        go_roundw
        case rel => exact ⟨i + 1, by omega, by go_num, HN.out, HB1.out⟩
        case measure => simp [intOf]; omega
      · have HHe := Lib.hid (HHit.out he)
        clear HHit hno
        go_wp2_with fail
        refine HC.out.mono ?_
        rintro e w1 ⟨b, rfl, hr, hb1⟩
        have HB2 : Hid (Below w.heap.size w w1) := HB1.out.trans (hb1.mono (by simp; omega))
        have HR := Lib.hid hr
        clear hb1 hr HB1 hb
        cases b
        · have HN := Lib.hid (HNx.out (fun _ => HR.out))
          clear HNx HHe
          go_wp2_with fail
          go_roundw
          case rel => exact ⟨i + 1, by omega, by go_num, HN.out, HB2.out⟩
          case measure => simp [intOf]; omega
        · have HF := Lib.hid (HHe.out true HR.out)
          clear HNx HHe
          go_wp2_with fail
          go_ret
          exact ⟨true, rfl, HF.out, HB2.out⟩
    · have HF := Lib.hid (noYet_end hno.out (by omega))
      clear hno
      go_wp2_with fail
      go_ret
      exact ⟨false, rfl, HF.out, hb.out⟩

def Asks_sub (x0 x1 : Option Addr) (R : ByteArray → Bool → Prop) (w : World) : Prop := ∀ (W : World) (s : ByteArray), Below w.heap.size w W → s.size ≤ 2147483647 → Calls Try.prog 249 #[.string s, .pointer x0, .pointer x1] W (AskPost R s W)
set_option maxRecDepth 100000 in
set_option maxHeartbeats 1000000 in
theorem matchA_sub (x0 x1 : Option Addr) (R : ByteArray → Bool → Prop) (g B : Nat) (l : List At2) (hu : KeysOnce l) (hvl : ∀ x ∈ l, x.val.size ≤ 2147483647) (aa : Option Addr) (ac : Nat) (k : ByteArray) (w : World) (h5 : w.cell? ⟨g, 5, none⟩ = some (.int .u32 3)) (h9 : w.cell? ⟨g, 9, none⟩ = some (.slice aa l.length ac)) (hl : l.length ≤ 2147483647) (hg : g < w.heap.size)
    (hown : w.ownsRow B 163 3 (.slice aa l.length ac) l.length (flatA l)) (hA : Asks_sub x0 x1 R w) :
    Calls Try.prog 214 #[.pointer (some ⟨g, 0, none⟩), .string k, .func (.func 249) #[] #[.pointer x0, .pointer x1]] w (MAPost l k R w) := by
  have HO := Lib.hid hown
  have HA := Lib.hid hA
  have HU := Lib.hid hu
  have HV := Lib.hid hvl
  clear hown hA hu hvl
  go_enter Try.func214, Try.ntmps214
  go_wp2_with fail
  go_loopw [19] (fun x wr => ∃ k1 : Nat, k1 ≤ l.length ∧ x = .int .i64 k1 ∧ Hid (NoYet l k R k1) ∧ Hid (Below w.heap.size w wr)) (fun x _ => l.length - (intOf x).toNat)
  case atStart => exact ⟨0, by omega, rfl, (fun j _ hj => by omega), Below.refl _ _⟩
  case round =>
    obtain ⟨i, hi, rfl, hno, hb⟩ := hrel
    by_cases hlt : i < l.length
    · obtain ⟨ab, rfl⟩ : ∃ ab, aa = some ⟨ab, 0, none⟩ := by
        rcases HO.out.2 with ⟨_, h0⟩ | ⟨q, cap, cur, hv, _⟩
        · omega
        · cases hv; exact ⟨q, rfl⟩
      have hab := (HO.out.lt ab rfl).2
      have hcell : ∀ j v, (flatA l)[j]? = some v → wr.cell? ⟨ab, j, none⟩ = some v := by
        intro j v hj
        have := HO.out.cells (g := ab) rfl j v hj
        rw [Addr.add_lit, Nat.zero_add] at this
        exact (hb.out.cell (p := ⟨ab, j, none⟩) hab).trans this
      obtain ⟨f0, f1, f2⟩ := flatA_at hlt
      have g0 := hcell _ _ f0
      have g1 := hcell _ _ f1
      have g2 := hcell _ _ f2
      clear hcell f0 f1 f2
      have hval := HV.out l[i] (List.getElem_mem hlt)
      have HHit := Lib.hid (fun he b hr => asked_hit HU.out (R := R) (k := k) hlt he (b := b) hr)
      have HNx : Hid (((l[i].key.toList == k.toList) = true → R l[i].val false) → NoYet l k R (i + 1)) := by
        intro h j hj hj2 he
        by_cases e : j = i
        · subst e; exact h he
        · exact hno.out j hj (by omega) he
      obtain ⟨y, hy⟩ : ∃ y, y = l[i] := ⟨_, rfl⟩
      rw [← hy] at g1 g2 hval HHit HNx
      clear hy
      have hsz := hb.out.size
      have HB1 : Hid (Below w.heap.size w (wr.alloc (.cells #[.string ⟨#[]⟩, .string y.key, .string y.val] 163))) := hb.out.alloc hsz _
      have HC := Lib.hid (HA.out _ y.val HB1.out hval)
      cases he : (y.key.toList == k.toList)
      · have HN := Lib.hid (HNx.out (fun h => by rw [he] at h; cases h))
        clear HNx HHit HC hno
        go_wp2_with fail
        go_roundw
        case rel => exact ⟨i + 1, by omega, by go_num, HN.out, HB1.out⟩
        case measure => simp [intOf]; omega
      · have HHe := Lib.hid (HHit.out he)
        clear HHit hno
        go_wp2_with fail
        refine HC.out.mono ?_
        rintro e w1 ⟨b, rfl, hr, hb1⟩
        have HB2 : Hid (Below w.heap.size w w1) := HB1.out.trans (hb1.mono (by simp; omega))
        have HR := Lib.hid hr
        clear hb1 hr HB1 hb
        cases b
        · have HN := Lib.hid (HNx.out (fun _ => HR.out))
          clear HNx HHe
          go_wp2_with fail
          go_roundw
          case rel => exact ⟨i + 1, by omega, by go_num, HN.out, HB2.out⟩
          case measure => simp [intOf]; omega
        · have HF := Lib.hid (HHe.out true HR.out)
          clear HNx HHe
          go_wp2_with fail
          go_ret
          exact ⟨true, rfl, HF.out, HB2.out⟩
    · have HF := Lib.hid (noYet_end hno.out (by omega))
      clear hno
      go_wp2_with fail
      go_ret
      exact ⟨false, rfl, HF.out, hb.out⟩
end Go.Proofs.Ytfebdbfkpmjpeaa
