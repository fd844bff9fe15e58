/- What wrappings want of the listing (joined by join.py) -/
import Derived.Test.YtmhhfljbocbolaaT24
import Derived.Test.YtmhhfljbocbolaaT18
import Derived.Test.YtmhhfljbocbolaaP4
import Derived.Test.YtmhhfljbocbolaaP8
import Derived.Test.YtmhhfljbocbolaaP9
import Derived.Test.YtmhhfljbocbolaaP5
import Derived.Test.YtmhhfljbocbolaaT70
namespace Go.Proofs.Ytmhhfljbocbolaa
open Go.RowKit
set_option linter.unusedVariables false

open Go.WideShapes Go.Deep in
theorem open_ints {H : Type} {enc : TypeId × Value → H} {w : World} {base : Nat} {spare : Nat → Bool} {held : Bool} {a : Option Addr} {len cap : Nat} {d : DataW H} {p : List MemPlace} (h : DataW.Trod enc Try.prog w base spare held 23 (.slice a len cap) d p) :
    ∃ l : List Int, ISl w w.heap.size a l ∧ len = l.length := by
  obtain ⟨fuel, h⟩ := h
  have hC : Try.prog.cellsOf 3 = 1 := by kernel_rfl
  rcases open_slice Try.underlying23 h with ⟨hcs, _⟩ | ⟨a', len', cap', m, n, D, Pl, hcs, _, hl, hm, hmm, hx, hi⟩
  · simp [Value.cells] at hcs
    exact ⟨[], ⟨.inl rfl, by simp, by simp⟩, by simp [hcs.2.1]⟩
  · simp [Value.cells] at hcs
    obtain ⟨rfl, rfl, rfl⟩ := hcs
    have hlm : len ≤ m := by rw [hmm]; split <;> omega
    obtain ⟨l, hll, hp⟩ := list_of len (fun i (x : Int) => w.cell? (a'.add i) = some (.int .i64 x) ∧ (-9223372036854775808 ≤ x ∧ x ≤ 9223372036854775807)) (fun i hil => by
      obtain ⟨cs', hc, ht⟩ := hi i (by omega)
      rw [hC, Nat.mul_one] at hc
      obtain ⟨_, hcl, hat⟩ := World.cells?_some hc
      obtain ⟨v, rfl⟩ : ∃ v, cs' = [v] := by
        match cs', hcl with
        | [v], _ => exact ⟨v, rfl⟩
      obtain ⟨n0, e0, _, z0⟩ := DataW.trod_int Try.underlying3 ht
      simp at e0
      subst e0
      have := hat 0 (by omega)
      rw [Go.Deep.add_add, Nat.add_zero] at this
      exact ⟨n0, this, wf_bounds z0⟩)
    subst hll
    refine ⟨l, ⟨?_, by omega, fun x hx => ?_⟩, rfl⟩
    · rcases Nat.eq_zero_or_pos l.length with h0 | h0
      · exact .inl (by rw [List.eq_nil_of_length_eq_zero h0]; rfl)
      · obtain ⟨b, o, rfl, hb⟩ := addr_plain (k := 0) (hp 0 h0).1
        refine .inr ⟨b, o, rfl, hb, fun i hi2 => ?_⟩
        rw [ivs_length] at hi2
        have := (hp i hi2).1
        rw [Addr.add_lit] at this
        rw [ivs_at hi2]
        exact this
    · obtain ⟨i, hi2, rfl⟩ := List.getElem_of_mem hx
      exact (hp i hi2).2
end Go.Proofs.Ytmhhfljbocbolaa

namespace Go.Proofs.Ytmhhfljbocbolaa
set_option linter.unusedVariables false

theorem outL_first {t : List Nd} (hR : RightP t) : outL (fo0 t) (sz t) (ndT t) 0 = t.map strip := by
  unfold outL
  rw [fo0_all hR _ _ (Nat.le_refl _) hR.pos, hR.top]
  refine List.ext_getElem (by simp) fun i h1 h2 => ?_
  have hi : i < t.length := by simpa using h2
  rw [List.getElem_map, List.getElem_map, List.getElem_range']
  have e0 : 0 + 1 * i = i := by omega
  rw [e0, fo0_all hR _ _ (Nat.le_refl _) hi, List.length_range']
  have e1 : ndT t i = t[i] := getD_at hi
  rw [e1]
  have e2 : t[i].size = (sz t i : Int) := size_at hi (hR.lam i (Nat.zero_le _) hi).1
  show strip { t[i] with size := (sz t i : Int) } = strip t[i]
  rw [← e2]

theorem clear_none {F : Fo} {S : Nat → Prop} {h : Nat → Nat} (o : F.Ok S h) : ∀ {ms : List Nat}, ms.flatMap F.kids = [] → clearAll F ms = F := by
  intro ms
  induction ms with
  | nil => intro _; rfl
  | cons m ms ih =>
    intro hf
    rw [List.flatMap_cons, List.append_eq_nil_iff] at hf
    show clearAll (F.clear m) ms = F
    rw [Fo.clear_done o hf.1]
    exact ih hf.2
end Go.Proofs.Ytmhhfljbocbolaa

namespace Go.Proofs.Ytmhhfljbocbolaa
open Go.RowKit
set_option linter.unusedVariables false

def SzAt (A : List Nd) (F : Fo) (h : Nat → Nat) (k y : Nat) : Prop := ∀ j z, (F.all h y)[j]? = some z → ∃ e, A[k + j]? = some e ∧ e.size = ((F.all h z).length : Int)

theorem szAt_root {A : List Nd} {F : Fo} {h : Nat → Nat} {nd : Nat → Nd} (hs : A.map strip = outL F h nd 0) : SzAt A F h 0 0 := by
  intro j z hz
  have h1 := congrArg (fun l => l[j]?) hs
  unfold outL at h1
  simp only [List.getElem?_map, hz, Option.map_some] at h1
  obtain ⟨e, he, e2⟩ := Option.map_eq_some_iff.1 h1
  exact ⟨e, by rw [Nat.zero_add]; exact he, show (strip e).size = _ by rw [e2]; rfl⟩

theorem szAt_kid {A : List Nd} {F : Fo} {S : Nat → Prop} {h : Nat → Nat} (o : F.Ok S h) {k y j : Nat} (hA : SzAt A F h k y) (hj : j < (F.kids y).length) : SzAt A F h (k + 1 + (soFar F h y j).length) (F.kids y)[j] := by
  intro q z hz
  have e : F.all h y = (y :: soFar F h y j) ++ (F.all h (F.kids y)[j] ++ ((F.kids y).drop (j + 1)).flatMap (F.all h)) := by
    rw [F.all_eq o y]
    unfold soFar
    conv => lhs; rw [← List.take_append_drop j (F.kids y), List.drop_eq_getElem_cons hj, List.flatMap_append, List.flatMap_cons]
    rfl
  have hq := (List.getElem?_eq_some_iff.1 hz).1
  have h1 : (F.all h y)[1 + (soFar F h y j).length + q]? = some z := by
    rw [e, List.getElem?_append_right (by simp; omega), List.length_cons]
    have e2 : 1 + (soFar F h y j).length + q - ((soFar F h y j).length + 1) = q := by omega
    rw [e2, List.getElem?_append_left hq]; exact hz
  obtain ⟨x, hx, e3⟩ := hA _ z h1
  refine ⟨x, ?_, e3⟩
  rw [← hx]; congr 1; omega

set_option maxRecDepth 100000 in
set_option maxHeartbeats 2000000 in
theorem sized_yes {F : Fo} {S : Nat → Prop} {h : Nat → Nat} (o : F.Ok S h) (A : List Nd) (hA : A.length ≤ 100000) (a : Option Addr) (c : Nat) (d : Nat) : ∀ (y k en deep : Nat) (I E D : Int) (w : World), I = k → E = en → D = deep → h y < d → h y < deep → deep ≤ 100000 → SzAt A F h k y → k + (F.all h y).length ≤ en → en ≤ A.length → NSl w w.heap.size a A →
    Calls Try.prog 57 #[.slice a A.length c, .int .i64 I, .int .i64 E, .int .i64 D] w (fun e w' => e = .returned (.bool true) ∧ w = w') := by
  induction d with
  | zero => intro y k en deep I E D w _ _ _ hd; omega
  | succ d ih =>
    rintro y i en deep I E D w rfl rfl rfl hd hdp hdl hsz hen hea hM
    have hp := kids_len o y
    have h0 : (F.all h y)[0]? = some y := by rw [F.all_eq o y]; rfl
    obtain ⟨x, hx, hxs⟩ := hsz 0 y h0
    rw [Nat.add_zero] at hx
    have hi : i < A.length := (List.getElem?_eq_some_iff.1 hx).1
    have HI := Lib.hid ih
    have HH := Lib.hid hM
    have HO := Lib.hid o
    have HSz := Lib.hid hsz
    obtain ⟨b, off, rfl, hbB, hc⟩ := hM.at_ (by omega)
    obtain ⟨-, -, -, -, h5, -⟩ := hc i hi
    have HC := Lib.hid hc
    rw [List.getElem?_eq_getElem hi] at hx
    injection hx with hx
    rw [hx, hxs] at h5
    clear hc hM ih hx hxs h0 hsz o
    obtain ⟨n, hn⟩ : ∃ n, n = (F.all h y).length := ⟨_, rfl⟩
    rw [← hn] at h5 hen hp
    have HN := Lib.hid hn
    clear hn
    have hdd : 1 ≤ deep := by omega
    have hn1 : 1 ≤ n := by omega
    have k0 : ((deep : Int) == 0) = false := beq_eq_false_iff_ne.2 (by omega)
    have k1 : ¬ ((n : Int) < 1) := by omega
    have k2 : ¬ ((en : Int) - (i : Int) < (n : Int)) := by omega
    go_enter Try.func57, Try.ntmps57
    go_wp2_with fail
    go_loopw [10] (fun v wr => ∃ j : Nat, j ≤ (F.kids y).length ∧ v = .int .i64 ((i + 1 + (soFar F h y j).length : Nat) : Int) ∧ w = wr) (fun v _ => i + n - (intOf v).toNat)
    case atStart => exact ⟨0, Nat.zero_le _, by simp [soFar], rfl⟩
    case round =>
      obtain ⟨j, hj, rfl, rfl⟩ := hrel
      have hsf := soFar_len HO.out y j
      rw [← HN.out] at hsf
      by_cases hlt : j < (F.kids y).length
      · have hsf2 := soFar_len HO.out y (j + 1)
        rw [soFar_succ F h y j hlt, List.length_append, ← HN.out] at hsf2
        have hky := HO.out.ht _ _ ((HO.out.mem y _).1 (List.getElem_mem hlt))
        have hkz := szAt_kid HO.out HSz.out hlt
        have hk1 := kids_len HO.out (F.kids y)[j]
        have h0 : (F.all h (F.kids y)[j])[0]? = some (F.kids y)[j] := by rw [F.all_eq HO.out (F.kids y)[j]]; rfl
        obtain ⟨x2, hx2, hx2s⟩ := hkz 0 _ h0
        have HNx : Hid ((soFar F h y (j + 1)).length = (soFar F h y j).length + (F.all h (F.kids y)[j]).length) := by rw [Hid, soFar_succ F h y j hlt, List.length_append]
        obtain ⟨m, hm⟩ : ∃ m, m = (soFar F h y j).length := ⟨_, rfl⟩
        obtain ⟨z, hz⟩ : ∃ z, z = (F.kids y)[j] := ⟨_, rfl⟩
        rw [← hm] at hsf2 hkz hx2 HNx
        rw [← hz] at hsf2 hkz HNx
        rw [← hz] at hky hk1 hx2s
        rw [← hm] at hsf ⊢
        obtain ⟨r, hr⟩ : ∃ r, r = (F.all h z).length := ⟨_, rfl⟩
        rw [← hr] at hsf2 hk1 hx2s HNx
        rw [Nat.add_zero] at hx2
        have hkt : i + 1 + m < A.length := (List.getElem?_eq_some_iff.1 hx2).1
        obtain ⟨-, -, -, -, g5, -⟩ := HC.out (i + 1 + m) hkt
        rw [List.getElem?_eq_getElem hkt] at hx2
        injection hx2 with hx2
        rw [hx2, hx2s] at g5
        have HCall := Lib.hid (HI.out z (i + 1 + m) (i + n) (deep - 1) ((i + 1 + m : Nat) : Int) ((i : Int) + (n : Int)) ((deep : Int) - 1) _ rfl (by omega) (by omega) (by omega) (by omega) (by omega) hkz (by rw [← hr]; omega) (by omega) HH.out)
        have HM := Lib.hid hm
        have hd1 : 1 ≤ deep := by omega
        clear hkz hx2 hx2s h0 hky hz hm hr
        go_wp2_with fail
        refine HCall.out.mono ?_
        rintro e w1 ⟨rfl, rfl⟩
        go_wp2_with fail
        go_roundw
        case rel => exact ⟨j + 1, by omega, by rw [HNx.out]; go_num, by trivial⟩
        case measure => simp [intOf]; omega
      · have e : j = (F.kids y).length := by omega
        subst e
        have hend : n = 1 + (soFar F h y (F.kids y).length).length := by rw [HN.out, ← soFar_end HO.out y, List.length_cons]; omega
        go_wp2_with fail
        go_ret
        exact ⟨rfl, rfl⟩
end Go.Proofs.Ytmhhfljbocbolaa

namespace Go.Proofs.Ytmhhfljbocbolaa
open Go.RowKit
set_option linter.unusedVariables false

set_option maxRecDepth 100000 in
set_option maxHeartbeats 2000000 in
theorem told7_yes (ad : Option Addr) (n c : Nat) (a : Option Addr) (m c1 : Nat) (a2 : Option Addr) (c2 : Nat) (w : World)
    (hS : Calls Try.prog 37 #[.slice a m c1] w (fun e w' => e = .returned (.bool true) ∧ Below w.heap.size w w')) :
    Calls Try.prog 20 #[.slice ad n c, .slice a m c1, .slice a2 n c2, .bool true] w (fun e w' => e = .returned (.bool true) ∧ Below w.heap.size w w') := by
  have H := Lib.hid hS
  clear hS
  have e : ((n : Int) == (n : Int)) = true := beq_iff_eq.2 rfl
  go_enter Try.func20, Try.ntmps20
  go_wp2_with fail
  refine H.out.mono ?_
  rintro e w1 ⟨rfl, hb⟩
  have HB := Lib.hid hb
  clear hb
  go_wp2_with fail
  go_ret
  exact ⟨by trivial, HB.out⟩
end Go.Proofs.Ytmhhfljbocbolaa

namespace Go.Proofs.Ytmhhfljbocbolaa
set_option linter.unusedVariables false

theorem flat_at {f : Nat → List Nat} : ∀ (l : List Nat) (i z : Nat), (l.flatMap f)[i]? = some z → ∃ l1 c l2 i2, l = l1 ++ c :: l2 ∧ i = (l1.flatMap f).length + i2 ∧ (f c)[i2]? = some z := by
  intro l
  induction l with
  | nil => intro i z h; simp at h
  | cons c l ih =>
    intro i z h
    rw [List.flatMap_cons] at h
    by_cases hlt : i < (f c).length
    · rw [List.getElem?_append_left hlt] at h
      exact ⟨[], c, l, i, rfl, by simp, h⟩
    · rw [List.getElem?_append_right (by omega)] at h
      obtain ⟨l1, c2, l2, i2, e1, e2, e3⟩ := ih _ _ h
      refine ⟨c :: l1, c2, l2, i2, by rw [e1]; rfl, ?_, e3⟩
      rw [List.flatMap_cons, List.length_append]; omega

theorem all_sub_at {F : Fo} {S : Nat → Prop} {h : Nat → Nat} (o : F.Ok S h) : ∀ (d y i z : Nat), h y < d → (F.all h y)[i]? = some z → ∀ q u, (F.all h z)[q]? = some u → (F.all h y)[i + q]? = some u := by
  intro d
  induction d with
  | zero => intro y i z hd; omega
  | succ d ih =>
    intro y i z hd hz q u hu
    cases i with
    | zero =>
      have e : z = y := by rw [F.all_eq o y] at hz; simpa using hz.symm
      rw [e] at hu; rw [Nat.zero_add]; exact hu
    | succ i =>
      rw [F.all_eq o y, List.getElem?_cons_succ] at hz
      obtain ⟨l1, c, l2, i2, e1, e2, e3⟩ := flat_at _ _ _ hz
      have hc : c ∈ F.kids y := by rw [e1]; simp
      have hh := o.ht _ _ ((o.mem y c).1 hc)
      have h1 := ih c i2 z (by omega) e3 q u hu
      have hlt := (List.getElem?_eq_some_iff.1 h1).1
      have e4 : i + 1 + q = i + q + 1 := by omega
      rw [F.all_eq o y, e4, List.getElem?_cons_succ, e1, List.flatMap_append, List.flatMap_cons, List.getElem?_append_right (by omega)]
      have e5 : i + q - (l1.flatMap (F.all h)).length = i2 + q := by omega
      rw [e5, List.getElem?_append_left hlt]; exact h1

theorem all_fits {F : Fo} {S : Nat → Prop} {h : Nat → Nat} (o : F.Ok S h) {y i z : Nat} (hz : (F.all h y)[i]? = some z) : 1 ≤ (F.all h z).length ∧ i + (F.all h z).length ≤ (F.all h y).length := by
  have h1 := kids_len o z
  have hl : (F.all h z).length - 1 < (F.all h z).length := by omega
  have h2 := all_sub_at o _ y i z (Nat.lt_succ_self _) hz _ _ (List.getElem?_eq_getElem hl)
  have := (List.getElem?_eq_some_iff.1 h2).1
  omega
end Go.Proofs.Ytmhhfljbocbolaa

namespace Go.Proofs.Ytmhhfljbocbolaa
open Go.RowKit
set_option linter.unusedVariables false

structure Shp (A : List Nd) : Prop where
  pos : 0 < A.length
  root : A[0]!.kind = 1 ∧ A[0]!.size = A.length
  size : ∀ i (h : i < A.length), 1 ≤ A[i].size ∧ A[i].size ≤ (A.length : Int) - i
  kind : ∀ i (h : i < A.length), 1 ≤ A[i].kind ∧ A[i].kind ≤ 5 ∧ (0 < i → A[i].kind ≠ 1)
  leaf : ∀ i (h : i < A.length), 1 < A[i].size → A[i].kind = 1 ∨ A[i].kind = 3

set_option maxRecDepth 100000 in
set_option maxHeartbeats 2000000 in
theorem shaped_yes {F : Fo} {S : Nat → Prop} {h : Nat → Nat} (o : F.Ok S h) {nd : Nat → Nd} (A : List Nd) (hA : A.length ≤ 100000) (hs : A.map strip = outL F h nd 0) (hh : h 0 < 2000) (hp : Shp A) (a : Option Addr) (c : Nat) (w : World) (hM : NSl w w.heap.size a A) :
    Calls Try.prog 37 #[.slice a A.length c] w (fun e w' => e = .returned (.bool true) ∧ Below w.heap.size w w') := by
  obtain ⟨b, off, rfl, hbB, hc⟩ := hM.at_ hp.pos
  obtain ⟨g1, -, -, -, g5, -⟩ := hc 0 hp.pos
  have r := hp.root
  have e0 : A[0]! = A[0]'hp.pos := by simp [hp.pos]
  rw [e0] at r
  rw [r.1] at g1
  rw [r.2] at g5
  rw [Nat.zero_mul, Nat.add_zero] at g1 g5
  have hl : (F.all h 0).length = A.length := by have := congrArg List.length hs; unfold outL at this; simpa using this.symm
  have HSz := Lib.hid (fun W hW => sized_yes o A hA (some ⟨b, off, none⟩) c 2000 0 0 A.length 2000 0 A.length 2000 W rfl rfl rfl hh hh (by omega) (szAt_root hs) (by omega) (Nat.le_refl _) hW)
  have HM := Lib.hid hM
  have HP := Lib.hid hp
  have HC := Lib.hid hc
  have hpos := hp.pos
  have k0 : ((A.length : Int) == 0) = false := beq_eq_false_iff_ne.2 (by omega)
  clear hc hM hp e0 r hl hs
  go_enter Try.func37, Try.ntmps37
  go_wp2_with fail
  go_loopw [3] (fun v wr => ∃ i : Nat, i ≤ A.length ∧ v = .int .i64 i ∧ Below w.heap.size w wr) (fun v _ => A.length - (intOf v).toNat)
  case atStart => exact ⟨0, Nat.zero_le _, rfl, Below.refl _ _⟩
  case round =>
    obtain ⟨i, hi, rfl, hb⟩ := hrel
    have HB := Lib.hid hb
    by_cases hlt : i < A.length
    · obtain ⟨q1, q2, q3, q4, q5, -⟩ := HC.out i hlt
      have p : ∀ {j v}, w.cell? ⟨b, j, none⟩ = some v → wr.cell? ⟨b, j, none⟩ = some v := fun h => (hb.cell (p := ⟨b, _, none⟩) hbB).trans h
      replace q1 := p q1
      replace q2 := p q2
      replace q3 := p q3
      replace q4 := p q4
      replace q5 := p q5
      have z1 := HP.out.size i hlt
      have z2 := HP.out.kind i hlt
      have z3 := HP.out.leaf i hlt
      obtain ⟨x, hx⟩ : ∃ x, x = A[i] := ⟨_, rfl⟩
      rw [← hx] at q1 q2 q3 q4 q5 z1 z2 z3
      clear hx p hb
      have a1 : ¬ (x.size < 1) := by omega
      have a2 : ¬ ((A.length : Int) - (i : Int) < x.size) := by omega
      have a3 : ¬ (x.kind < 1) := by omega
      have a4 : ¬ (5 < x.kind) := by omega
      have HRel : Hid (∀ W, Below wr.heap.size wr W → Below w.heap.size w W) := fun W hW => HB.out.trans (hW.mono HB.out.size)
      have key : ((0 : Int) < (i : Int) ∧ (x.kind == 1) = false) ∨ ¬ ((0 : Int) < (i : Int)) := by
        by_cases h0 : 0 < i
        · exact .inl ⟨by omega, beq_eq_false_iff_ne.2 (z2.2.2 h0)⟩
        · exact .inr (by omega)
      have key2 : ¬ (1 < x.size) ∨ (1 < x.size ∧ (x.kind != 1) = false) ∨ (1 < x.size ∧ (x.kind != 1) = true ∧ (x.kind != 3) = false) := by
        by_cases h1 : 1 < x.size
        · rcases z3 h1 with h2 | h2
          · exact .inr (.inl ⟨h1, by simp [h2]⟩)
          · exact .inr (.inr ⟨h1, by simp [h2], by simp [h2]⟩)
        · exact .inl h1
      clear z1 z2 z3
      rcases key with ⟨b1, b2⟩ | b1 <;> rcases key2 with d1 | ⟨d1, d2⟩ | ⟨d1, d2, d3⟩
      all_goals
        go_wp2_with fail
        go_roundw
        case rel => exact ⟨i + 1, by omega, by go_num, HRel.out _ ((Below.refl _ _).alloc (Nat.le_refl _) _)⟩
        case measure => simp [intOf]; omega
    · go_wp2_with fail
      refine (HSz.out _ (HM.out.up HB.out)).mono ?_
      rintro e w2 ⟨rfl, rfl⟩
      go_wp2_with fail
      go_ret
      exact ⟨rfl, HB.out⟩
end Go.Proofs.Ytmhhfljbocbolaa

namespace Go.Proofs.Ytmhhfljbocbolaa
open Go.RowKit
set_option linter.unusedVariables false

/-- A listing is shaped where the kinds fit. -/
theorem shp_of {F : Fo} {S : Nat → Prop} {h : Nat → Nat} (o : F.Ok S h) {nd : Nat → Nd} {A : List Nd} (hs : A.map strip = outL F h nd 0) (h0 : (nd 0).kind = 1)
    (hk : ∀ y ∈ F.all h 0, 1 ≤ (nd y).kind ∧ (nd y).kind ≤ 5 ∧ (y ≠ 0 → (nd y).kind ≠ 1)) (hl : ∀ y ∈ F.all h 0, F.kids y ≠ [] → (nd y).kind = 1 ∨ (nd y).kind = 3) : Shp A := by
  have hlen : A.length = (F.all h 0).length := by have := congrArg List.length hs; unfold outL at this; simpa using this
  have hat : ∀ i (hi : i < A.length), ∃ z, (F.all h 0)[i]? = some z ∧ A[i].kind = (nd z).kind ∧ A[i].size = ((F.all h z).length : Int) := by
    intro i hi
    have hz : (F.all h 0)[i]? = some ((F.all h 0)[i]'(by omega)) := List.getElem?_eq_getElem _
    refine ⟨_, hz, ?_⟩
    have h1 := congrArg (fun l => l[i]?) hs
    unfold outL at h1
    simp only [List.getElem?_map, hz, Option.map_some, List.getElem?_eq_getElem hi, Option.some.injEq] at h1
    exact ⟨show (strip A[i]).kind = _ by rw [h1]; rfl, show (strip A[i]).size = _ by rw [h1]; rfl⟩
  have hp : 0 < A.length := by rw [hlen, F.all_eq o 0]; simp
  have hn := Fo.all_nodup o _ 0 (Nat.le_refl _)
  have hz0 : (F.all h 0)[0]? = some 0 := by rw [F.all_eq o 0]; rfl
  refine ⟨hp, ?_, fun i hi => ?_, fun i hi => ?_, fun i hi hs1 => ?_⟩
  · obtain ⟨z, hz, e1, e2⟩ := hat 0 hp
    rw [hz0] at hz
    injection hz with hz
    subst hz
    have e0 : A[0]! = A[0]'hp := by simp [hp]
    rw [e0, e1, e2, hlen]
    exact ⟨h0, rfl⟩
  · obtain ⟨z, hz, e1, e2⟩ := hat i hi
    have := all_fits o hz
    rw [e2, hlen]; omega
  · obtain ⟨z, hz, e1, e2⟩ := hat i hi
    obtain ⟨k1, k2, k3⟩ := hk z (List.mem_of_getElem? hz)
    rw [e1]
    refine ⟨k1, k2, fun hpos => k3 fun e => ?_⟩
    subst e
    have := (List.getElem?_inj (i := i) (j := 0) (by rw [← hlen]; exact hi) hn).1 (hz.trans hz0.symm)
    omega
  · obtain ⟨z, hz, e1, e2⟩ := hat i hi
    rw [e2] at hs1
    rw [e1]
    refine hl z (List.mem_of_getElem? hz) fun e => ?_
    rw [F.all_eq o z, e] at hs1
    simp at hs1

theorem ndT_kind {t : List Nd} (hR : RightP t) {i : Nat} (hi : i < t.length) : 1 ≤ (ndT t i).kind ∧ (ndT t i).kind ≤ 5 ∧ (i ≠ 0 → (ndT t i).kind ≠ 1) := by
  have e : ndT t i = t[i] := getD_at hi
  have n := hR.node i hi
  rw [e]
  rcases n.kinds with h | h | h | h <;> omega

theorem ndT_leaf {t : List Nd} (hR : RightP t) {i : Nat} (hi : i < t.length) (hk : (fo0 t).kids i ≠ []) : (ndT t i).kind = 1 ∨ (ndT t i).kind = 3 := by
  have e : ndT t i = t[i] := getD_at hi
  have n := hR.node i hi
  rw [e]
  have h1 : t[i].size = 1 → False := fun hs => by
    have a1 := fo0_all hR _ i (Nat.le_refl _) hi
    have e2 : t[i].size = (sz t i : Int) := size_at hi (hR.lam i (Nat.zero_le _) hi).1
    have e3 : sz t i = 1 := by omega
    rw [e3, Fo.all_eq (fo0_ok hR)] at a1
    have h2 := congrArg List.length a1
    simp only [List.length_cons, List.length_range', Nat.add_eq_right] at h2
    have h3 := List.eq_nil_of_length_eq_zero h2
    cases hq : (fo0 t).kids i with
    | nil => exact hk hq
    | cons a l =>
      rw [hq, List.flatMap_cons, Fo.all_eq (fo0_ok hR)] at h3
      simp at h3
  rcases n.kinds with h | h | h | h
  · exact .inl h.1
  · exact (h1 h.2.1).elim
  · exact .inr h.1
  · exact (h1 h.2).elim

theorem shp_clear {t : List Nd} (hR : RightP t) (ms : List Nat) {A : List Nd} (hs : A.map strip = outL (clearAll (fo0 t) ms) (sz t) (ndT t) 0) : Shp A := by
  have o := fo0_ok hR
  have oc := clearAll_ok o ms
  have hm : ∀ y ∈ (clearAll (fo0 t) ms).all (sz t) 0, y < t.length := fun y hy => oc.all_mem (S := fun i => i < t.length) hR.pos hy
  refine shp_of oc hs hR.root (fun y hy => ndT_kind hR (hm y hy)) (fun y hy hk => ndT_leaf hR (hm y hy) fun e => hk ?_)
  rw [(clearAll_facts ms o y).2, e]; split <;> rfl

theorem len_outL {F : Fo} {h : Nat → Nat} {nd : Nat → Nd} {A : List Nd} (hs : A.map strip = outL F h nd 0) : A.length = (F.all h 0).length := by
  have := congrArg List.length hs; unfold outL at this; simpa using this

theorem flat_eq {t : List Nd} {ms : List Nat} (hms : ∀ m ∈ ms, m < t.length) : ms.flatMap (kidsL t) = ms.flatMap (fo0 t).kids := by
  induction ms with
  | nil => rfl
  | cons m ms ih => rw [List.flatMap_cons, List.flatMap_cons, ih (fun m hm => hms m (List.mem_cons_of_mem _ hm)), fo0_kids (hms m List.mem_cons_self)]

/-- The children of some nodes of a tree: places of it, each once. -/
theorem flat_ord {t : List Nd} (hR : RightP t) {ms : List Nat} (hms : ∀ m ∈ ms, m < t.length) (hn : ms.Nodup) : OrdP t.length (toI (ms.flatMap (kidsL t))) (ms.flatMap (kidsL t)) := by
  rw [flat_eq hms]
  refine ⟨rfl, fun k hk => ?_, flat_nodup (fo0_ok hR) hn⟩
  obtain ⟨m, hm, h2⟩ := List.mem_flatMap.1 hk
  exact ((fo0_ok hR).dom _ _ (((fo0_ok hR).mem m k).1 h2)).2

def EmLoop (t : List Nd) (ms : List Nat) (B : Nat) (W : World) (v x : Value) (wr : World) : Prop :=
  ∃ (k : Nat) (a1 : Option Addr) (c1 : Nat), k ≤ ms.length ∧ x = .int .i64 k ∧ v = .slice a1 (toI ((ms.take k).flatMap (kidsL t))).length c1 ∧ wr.ownsRow B 3 1 v (toI ((ms.take k).flatMap (kidsL t))).length (ivs (toI ((ms.take k).flatMap (kidsL t)))) ∧ Below W.heap.size W wr
end Go.Proofs.Ytmhhfljbocbolaa

namespace Go.Proofs.Ytmhhfljbocbolaa
set_option linter.unusedVariables false

/-- G is F with the nodes of ws moved elsewhere. -/
structure Mv (n : Nat) (F G : Fo) (h hG : Nat → Nat) (ws : List Nat) : Prop where
  ok : F.Ok (fun i => i < n) h
  okG : G.Ok (fun i => i < n) hG
  lt : ∀ w ∈ ws, w < n
  sub : ∀ w ∈ ws, ∀ y, F.Up w y → G.kids y = F.kids y
  kids : ∀ y, (G.kids y).filter (fun c => !decide (c ∈ ws)) = (F.kids y).filter fun c => !decide (c ∈ ws)
  top : ∀ y, y < n → G.Up 0 y
  pos : 0 < n

def Free (F : Fo) (ws : List Nat) (y : Nat) : Prop := ∀ w ∈ ws, ¬ F.Up w y

open Classical in
noncomputable def freeB (F : Fo) (ws : List Nat) (y : Nat) : Bool := decide (Free F ws y)
theorem freeB_iff {F : Fo} {ws : List Nat} {y : Nat} : freeB F ws y = true ↔ Free F ws y := by simp [freeB]
theorem freeB_not {F : Fo} {ws : List Nat} {y : Nat} : freeB F ws y = false ↔ ¬ Free F ws y := by simp [freeB]

theorem lst_mem {F : Fo} (hm : ∀ p c, c ∈ F.kids p → F.par c = some p) : ∀ (d y z : Nat), z ∈ F.lst d y → F.Up y z := by
  intro d
  induction d with
  | zero => intro y z hz; have : z = y := by simpa [Fo.lst] using hz
            rw [this]; exact .self
  | succ d ih =>
    intro y z hz
    rcases List.mem_cons.1 (show z ∈ y :: (F.kids y).flatMap (F.lst d) from hz) with rfl | hz
    · exact .self
    · obtain ⟨c, hc, hz⟩ := List.mem_flatMap.1 hz
      exact up_above (hm y c hc) (ih c z hz)

theorem flatMap_filter_out {g : Nat → List Nat} {q : Nat → Bool} : ∀ (l : List Nat), (∀ c ∈ l, q c = false → g c = []) → l.flatMap g = (l.filter q).flatMap g := by
  intro l
  induction l with
  | nil => intro _; rfl
  | cons a l ih =>
    intro h
    have h1 := ih fun c hc => h c (List.mem_cons_of_mem _ hc)
    rw [List.filter_cons, List.flatMap_cons]
    cases e : q a
    · rw [h a List.mem_cons_self e]; simpa using h1
    · simp [h1]

section
variable {n : Nat} {F G : Fo} {h hG : Nat → Nat} {ws : List Nat}

/-- Beneath a moved node all is as it was. -/
theorem Mv.all_eq (M : Mv n F G h hG ws) {w : Nat} (hw : w ∈ ws) {y : Nat} (hy : F.Up w y) : G.all hG y = F.all h y := by
  have e1 : G.all hG y = G.lst (hG y + h y) y := G.lst_fuel M.okG _ _ _ (Nat.le_refl _) (by omega)
  have e2 : F.all h y = F.lst (hG y + h y) y := F.lst_fuel M.ok _ _ _ (Nat.le_refl _) (by omega)
  rw [e1, e2]
  exact lst_up (fun p c => (M.ok.mem p c).1) _ _ fun z hz => M.sub w hw z (hy.tr hz)

theorem Mv.lst_free (M : Mv n F G h hG ws) : ∀ (d y : Nat), Free F ws y → (G.lst d y).filter (freeB F ws) = (F.lst d y).filter (freeB F ws) := by
  intro d
  induction d with
  | zero => intro y _; rfl
  | succ d ih =>
    intro y hy
    show (y :: (G.kids y).flatMap (G.lst d)).filter _ = (y :: (F.kids y).flatMap (F.lst d)).filter _
    rw [List.filter_cons, List.filter_cons, freeB_iff.2 hy]
    simp only [if_true]
    congr 1
    rw [List.filter_flatMap, List.filter_flatMap]
    have hout : ∀ (H : Fo), (∀ w ∈ ws, H.lst d w = F.lst d w) → ∀ c, (!decide (c ∈ ws)) = false → (H.lst d c).filter (freeB F ws) = [] := by
      intro H hH c hc
      have hcw : c ∈ ws := by simpa using hc
      rw [hH c hcw, List.filter_eq_nil_iff]
      intro z hz
      have u := lst_mem (fun p c => (M.ok.mem p c).1) d c z hz
      have : freeB F ws z = false := freeB_not.2 fun hf => hf c hcw u
      simp [this]
    have hGw : ∀ w ∈ ws, G.lst d w = F.lst d w := fun w hw => lst_up (fun p c => (M.ok.mem p c).1) d w fun z hz => M.sub w hw z hz
    rw [flatMap_filter_out (q := fun c => !decide (c ∈ ws)) (G.kids y) (fun c _ hc => hout G hGw c hc), flatMap_filter_out (q := fun c => !decide (c ∈ ws)) (F.kids y) (fun c _ hc => hout F (fun _ _ => rfl) c hc), M.kids y]
    have key : ∀ l : List Nat, (∀ c ∈ l, c ∈ F.kids y ∧ c ∉ ws) → l.flatMap (fun c => (G.lst d c).filter (freeB F ws)) = l.flatMap fun c => (F.lst d c).filter (freeB F ws) := by
      intro l
      induction l with
      | nil => intro _; rfl
      | cons a l ihl =>
        intro hl
        obtain ⟨h1, h2⟩ := hl a List.mem_cons_self
        rw [List.flatMap_cons, List.flatMap_cons, ihl fun c hc => hl c (List.mem_cons_of_mem _ hc), ih a fun w hw u => ?_]
        cases u with
        | self => exact h2 hw
        | step h3 h4 => rw [(M.ok.mem y a).1 h1] at h3; cases h3; exact hy w hw h4
    exact key _ fun c hc => ⟨(List.mem_filter.1 hc).1, by simpa using (List.mem_filter.1 hc).2⟩

theorem Mv.filter (M : Mv n F G h hG ws) (h0 : Free F ws 0) : (G.all hG 0).filter (freeB F ws) = (F.all h 0).filter (freeB F ws) := by
  have e1 : G.all hG 0 = G.lst (hG 0 + h 0) 0 := G.lst_fuel M.okG _ _ _ (Nat.le_refl _) (by omega)
  have e2 : F.all h 0 = F.lst (hG 0 + h 0) 0 := F.lst_fuel M.ok _ _ _ (Nat.le_refl _) (by omega)
  rw [e1, e2]
  exact M.lst_free _ _ h0

theorem Mv.mem (M : Mv n F G h hG ws) {y : Nat} : y ∈ G.all hG 0 ↔ y < n :=
  ⟨fun hy => M.okG.all_mem (S := fun i => i < n) M.pos hy, fun hy => (G.all_up M.okG _ 0 (Nat.le_refl _) y).2 (M.top y hy)⟩

theorem Mv.len (M : Mv n F G h hG ws) : (G.all hG 0).length = n := by
  have hn := G.all_nodup M.okG _ 0 (Nat.le_refl _)
  have hp : (G.all hG 0).Perm (List.range n) := by
    rw [List.perm_ext_iff_of_nodup hn List.nodup_range]
    intro a; rw [M.mem, List.mem_range]
  rw [hp.length_eq, List.length_range]

/-- Where a node is listed. -/
theorem Mv.at_ (M : Mv n F G h hG ws) {y : Nat} (hy : y < n) : placeL G hG n = placeL G hG n ∧ ∃ a, a < n ∧ (G.all hG 0)[a]? = some y ∧ (placeL G hG n)[y]? = some (a : Int) := by
  refine ⟨rfl, (G.all hG 0).idxOf y, ?_, ?_, ?_⟩
  · have := List.idxOf_lt_length_iff.2 (M.mem.2 hy); rw [M.len] at this; exact this
  · rw [List.getElem?_eq_getElem (List.idxOf_lt_length_iff.2 (M.mem.2 hy)), List.getElem_idxOf]
  · unfold placeL
    rw [List.getElem?_map, List.getElem?_range hy]
    simp only [Option.map_some, atF, if_pos (M.mem.2 hy), Nat.zero_add]

theorem Mv.order (M : Mv n F G h hG ws) (hF : F.all h 0 = List.range' 0 n) (h0 : Free F ws 0) {i j a b : Nat} (hij : i < j) (hi : Free F ws i) (hj : Free F ws j) (ha : (G.all hG 0)[a]? = some i) (hb : (G.all hG 0)[b]? = some j) : a < b := by
  have hp : (G.all hG 0).Pairwise fun x y => freeB F ws x = true → freeB F ws y = true → x < y := by
    rw [← List.pairwise_filter, M.filter h0, hF]
    exact List.Pairwise.filter _ (List.pairwise_lt_range' ..)
  rcases Nat.lt_trichotomy a b with h1 | h1 | h1
  · exact h1
  · subst h1; rw [ha] at hb; cases hb; omega
  · obtain ⟨hla, ea⟩ := List.getElem?_eq_some_iff.1 ha
    obtain ⟨hlb, eb⟩ := List.getElem?_eq_some_iff.1 hb
    have := List.pairwise_iff_getElem.1 hp b a hlb hla h1
    rw [ea, eb] at this
    have := this (freeB_iff.2 hj) (freeB_iff.2 hi)
    omega

theorem Mv.inside (M : Mv n F G h hG ws) {w q u a : Nat} (hw : w ∈ ws) (ha : (G.all hG 0)[a]? = some w) (hq : (F.all h w)[q]? = some u) : (G.all hG 0)[a + q]? = some u :=
  all_sub_at M.okG _ 0 a w (Nat.lt_succ_self _) ha q u (by rw [M.all_eq hw .self]; exact hq)
end

/-- Another depth: how many stand beneath. -/
theorem len_ok {F : Fo} {S : Nat → Prop} {h : Nat → Nat} (o : F.Ok S h) : F.Ok S (fun y => (F.all h y).length) := by
  refine ⟨o.nodup, o.mem, o.dom, fun p c hc => ?_⟩
  show (F.all h c).length < (F.all h p).length
  rw [F.all_eq o p, List.length_cons]
  obtain ⟨l1, l2, e⟩ := List.append_of_mem ((o.mem p c).2 hc)
  rw [e, List.flatMap_append, List.flatMap_cons, List.length_append, List.length_append]
  omega
end Go.Proofs.Ytmhhfljbocbolaa

namespace Go.Proofs.Ytmhhfljbocbolaa
set_option linter.unusedVariables false

theorem insE_one (op : Int) (t : List Nd) (x : Nat) (ws : List Nat) : insE op t [x] ws = insOne op true ⟨fo0 t, t.length, ndT t, false⟩ x ws := rfl

theorem up_zero {t : List Nd} (hR : RightP t) {y : Nat} (hy : y < t.length) : (fo0 t).Up 0 y := by
  refine ((fo0 t).all_up (fo0_ok hR) _ 0 (Nat.le_refl _) y).1 ?_
  rw [fo0_all hR _ 0 (Nat.le_refl _) hR.pos, hR.top, List.mem_range']
  exact ⟨y, hy, by omega⟩


end Go.Proofs.Ytmhhfljbocbolaa

namespace Go.Proofs.Ytmhhfljbocbolaa
open Go.RowKit
set_option linter.unusedVariables false

set_option maxRecDepth 100000 in
set_option maxHeartbeats 1000000 in
theorem isPlace_any (ws : List Nat) (hl : ws.length ≤ 100000) (a : Option Addr) (c : Nat) (k : Nat) (w : World) (h : RSl w w.heap.size a (ivs (toI ws))) :
    Calls Try.prog 40 #[.slice a ws.length c, .int .i64 (k : Nat)] w fun e w' => e = .returned (.bool (decide (k ∈ ws))) ∧ w' = w := by
  have HH := Lib.hid h
  clear h
  go_enter Try.func40, Try.ntmps40
  go_wp2_with fail
  go_loopw [5] (fun x wr => ∃ i : Nat, i ≤ ws.length ∧ x = .int .i64 i ∧ Hid (∀ j (hj : j < ws.length), j < i → ws[j] ≠ k) ∧ w = wr) (fun x _ => ws.length - (intOf x).toNat)
  case atStart => exact ⟨0, by omega, rfl, (fun j _ h => by omega), rfl⟩
  case round =>
    obtain ⟨i, hi, rfl, hno, rfl⟩ := hrel
    by_cases hlt : i < ws.length
    · obtain ⟨b, o, rfl, hbB, hc⟩ := HH.out.at_ (by rw [ivs_length, toI_length]; omega)
      have g1 := hc i (by rw [ivs_length, toI_length]; exact hlt)
      have e1 : (ivs (toI ws))[i]'(by rw [ivs_length, toI_length]; exact hlt) = .int .i64 (ws[i] : Int) := by
        rw [ivs_at (by rw [toI_length]; exact hlt), toI_at hlt]
      replace g1 := g1.trans (congrArg some e1)
      have HM : Hid (ws[i] ∈ ws) := List.getElem_mem hlt
      obtain ⟨m, hm⟩ : ∃ m, m = ws[i] := ⟨_, rfl⟩
      rw [← hm] at g1 HM
      have HMk := Lib.hid hm
      clear hc e1 hm
      by_cases e : m = k
      · have ez : ((m : Int) == (k : Int)) = true := by simp [e]
        have HD : Hid (decide (k ∈ ws) = true) := decide_eq_true (e ▸ HM.out)
        clear e
        go_wp2_with fail
        go_ret
        exact ⟨by rw [HD.out]; rfl, rfl⟩
      · have ez : ((m : Int) == (k : Int)) = false := by simp; omega
        have HY : Hid (∀ j (hj : j < ws.length), j < i + 1 → ws[j] ≠ k) := fun j hj hji => by
          by_cases e2 : j = i
          · subst e2; rw [← HMk.out]; exact e
          · exact hno.out j hj (by omega)
        clear e
        go_wp2_with fail
        go_roundw
        case rel => exact ⟨i + 1, by omega, by go_num, HY, by trivial⟩
        case measure => simp [intOf]; omega
    · have HD : Hid (decide (k ∈ ws) = false) := decide_eq_false fun hm => by
        obtain ⟨j, hj, e⟩ := List.getElem_of_mem hm
        exact hno.out j hj (by omega) e
      go_wp2_with fail
      go_ret
      exact ⟨by rw [HD.out]; rfl, rfl⟩

/-- A part of a list, in memory. -/
theorem nsl_part {w : World} {B b o : Nat} {A : List Nd} (h : NSl w B (some ⟨b, o, none⟩) A) (k m : Nat) (hk : k < A.length) (hm : k + m ≤ A.length) : NSl w B (some ⟨b, o + k * 5, none⟩) ((A.drop k).take m) := by
  obtain ⟨h1, h2, h3⟩ := h
  refine ⟨by simp only [List.length_take, List.length_drop]; omega, fun x hx => h2 x (List.mem_of_mem_drop (List.mem_of_mem_take hx)), ?_⟩
  rcases h3 with e | ⟨b', o', e, hb, hc⟩
  · rw [e] at hk; simp at hk
  · cases e
    refine .inr ⟨b, o + k * 5, rfl, hb, fun i hi => ?_⟩
    simp only [List.length_take, List.length_drop] at hi
    have := hc (k + i) (by omega)
    have e1 : ((A.drop k).take m).getD i default = A.getD (k + i) default := by
      rw [List.getD_eq_getElem?_getD, List.getD_eq_getElem?_getD, List.getElem?_take, if_pos (by omega), List.getElem?_drop]
    have e2 : o + k * 5 + i * 5 = o + (k + i) * 5 := by omega
    rw [e1, e2]; exact this

set_option maxRecDepth 100000 in
set_option maxHeartbeats 1000000 in
theorem sub_any (A : List Nd) (hA : A.length ≤ 100000) (b o c : Nat) (hcap : A.length ≤ c) (k m : Nat) (hk : k < A.length) (hm : k + m ≤ A.length) (w : World) (h : NSl w w.heap.size (some ⟨b, o, none⟩) A) (hs : A[k].size = (m : Int)) :
    Calls Try.prog 41 #[.slice (some ⟨b, o, none⟩) A.length c, .int .i64 (k : Nat)] w fun e w' => e = .returned (.slice (some ⟨b, o + k * 5, none⟩) m (c - k)) ∧ w' = w := by
  obtain ⟨b', o', e, hb, hc⟩ := h.at_ (by omega)
  cases e
  obtain ⟨-, -, -, -, g5, -⟩ := hc k hk
  rw [hs] at g5
  have h1 : k ≤ c := by omega
  have h2 : k + m ≤ c := by omega
  have h3 : ¬ (k = c) := by omega
  clear hc h hs
  go_enter Try.func41, Try.ntmps41
  go_wp2_with fail
  go_ret
  refine ⟨?_, rfl⟩
  simp
end Go.Proofs.Ytmhhfljbocbolaa

namespace Go.Proofs.Ytmhhfljbocbolaa
open Go.RowKit
set_option linter.unusedVariables false

section
variable {F : Fo} {S : Nat → Prop} {h : Nat → Nat} {nd : Nat → Nd} {A : List Nd} {x a : Nat}

/-- What is listed beneath a node: sizes. -/
theorem lst_sz (o : F.Ok S h) (hs : A.map strip = outL F h nd 0) {i z : Nat} (hz : (F.all h 0)[i]? = some z) : i < A.length ∧ (A.getD i default).size = ((F.all h z).length : Int) ∧ sz A i = (F.all h z).length := by
  have hl : A.length = (F.all h 0).length := by have := congrArg List.length hs; unfold outL at this; simpa using this
  have hi : i < A.length := by rw [hl]; exact (List.getElem?_eq_some_iff.1 hz).1
  have h1 := congrArg (fun l => l[i]?) hs
  unfold outL at h1
  simp only [List.getElem?_map, hz, Option.map_some, List.getElem?_eq_getElem hi, Option.some.injEq] at h1
  have e1 : (A.getD i default).size = ((F.all h z).length : Int) := by
    rw [List.getD_eq_getElem?_getD, List.getElem?_eq_getElem hi, Option.getD_some]
    exact show (strip A[i]).size = _ by rw [h1]; rfl
  exact ⟨hi, e1, by unfold sz; rw [e1]; rfl⟩

theorem lst_lam (o : F.Ok S h) (hs : A.map strip = outL F h nd 0) (hx : (F.all h 0)[a]? = some x) : Lam A a (a + (F.all h x).length) := by
  intro i h1 h2
  obtain ⟨q, rfl⟩ : ∃ q, i = a + q := ⟨i - a, by omega⟩
  have hq : q < (F.all h x).length := by omega
  have hz : (F.all h x)[q]? = some (F.all h x)[q] := List.getElem?_eq_getElem hq
  have hz0 := all_sub_at o _ 0 a x (Nat.lt_succ_self _) hx q _ hz
  obtain ⟨k1, k2, k3⟩ := lst_sz o hs hz0
  have hf := all_fits o hz
  refine ⟨by rw [k2, k3], by rw [k3]; exact hf.1, by rw [k3]; omega, fun j h3 h4 => ?_⟩
  rw [k3] at h4 ⊢
  obtain ⟨r, rfl⟩ : ∃ r, j = a + q + r := ⟨j - (a + q), by omega⟩
  have hr : r < (F.all h (F.all h x)[q]).length := by omega
  have hy : (F.all h (F.all h x)[q])[r]? = some (F.all h (F.all h x)[q])[r] := List.getElem?_eq_getElem hr
  have hy0 := all_sub_at o _ 0 (a + q) _ (Nat.lt_succ_self _) hz0 r _ hy
  obtain ⟨-, -, m3⟩ := lst_sz o hs hy0
  have hg := all_fits o hy
  rw [m3]; omega

/-- Where a kid is listed. -/
theorem kid_at (o : F.Ok S h) (hx : (F.all h 0)[a]? = some x) {j : Nat} (hj : j < (F.kids x).length) : (F.all h 0)[a + 1 + (soFar F h x j).length]? = some (F.kids x)[j] := by
  have e : F.all h x = (x :: soFar F h x j) ++ (F.all h (F.kids x)[j] ++ ((F.kids x).drop (j + 1)).flatMap (F.all h)) := by
    rw [F.all_eq o x]
    unfold soFar
    conv => lhs; rw [← List.take_append_drop j (F.kids x), List.drop_eq_getElem_cons hj, List.flatMap_append, List.flatMap_cons]
    rfl
  have h1 : (F.all h x)[1 + (soFar F h x j).length]? = some (F.kids x)[j] := by
    rw [e, List.getElem?_append_right (by simp; omega), List.length_cons]
    have e2 : 1 + (soFar F h x j).length - ((soFar F h x j).length + 1) = 0 := by omega
    rw [e2, F.all_eq o (F.kids x)[j]]; rfl
  have := all_sub_at o _ 0 a x (Nat.lt_succ_self _) hx _ _ h1
  rw [Nat.add_assoc]; exact this

theorem kids_lst (o : F.Ok S h) (hs : A.map strip = outL F h nd 0) (hx : (F.all h 0)[a]? = some x) : kidsL A a = (List.range (F.kids x).length).map fun j => a + 1 + (soFar F h x j).length := by
  have hl := lst_lam o hs hx
  obtain ⟨-, -, k3⟩ := lst_sz o hs hx
  have hp := kids_len o x
  have hend := congrArg List.length (soFar_end o x)
  rw [List.length_cons] at hend
  rw [← k3] at hl
  rw [kidsL_eq hl (by omega), k3]
  rw [k3] at hl
  have key : ∀ k j, j + k = (F.kids x).length → kidsFrom A (a + (F.all h x).length - (a + 1 + (soFar F h x j).length)) (a + 1 + (soFar F h x j).length) (a + (F.all h x).length) = ((List.range (F.kids x).length).drop j).map fun j => a + 1 + (soFar F h x j).length := by
    intro k
    induction k with
    | zero =>
      intro j hj
      have e : j = (F.kids x).length := by omega
      subst e
      have e2 : a + (F.all h x).length - (a + 1 + (soFar F h x (F.kids x).length).length) = 0 := by omega
      rw [e2, List.drop_of_length_le (by simp)]; rfl
    | succ k ih =>
      intro j hj
      have hlt : j < (F.kids x).length := by omega
      have h1 := soFar_len o x (j + 1)
      rw [soFar_succ F h x j hlt, List.length_append] at h1
      have h2 := kids_len o (F.kids x)[j]
      have hk : a + 1 + (soFar F h x j).length < a + (F.all h x).length := by omega
      obtain ⟨-, -, m3⟩ := lst_sz o hs (kid_at o hx hlt)
      have h3 := ih (j + 1) (by omega)
      rw [kidsFrom_step (hl.from_ (by omega)) hk, m3]
      have e1 : a + 1 + (soFar F h x j).length + (F.all h (F.kids x)[j]).length = a + 1 + (soFar F h x (j + 1)).length := by rw [soFar_succ F h x j hlt, List.length_append]; omega
      rw [e1, h3, List.drop_eq_getElem_cons (show j < (List.range (F.kids x).length).length by simpa using hlt)]
      simp
  have := key (F.kids x).length 0 (by omega)
  simpa [soFar] using this
end

set_option maxRecDepth 100000 in
set_option maxHeartbeats 2000000 in
theorem inRow7_yes (kl ws : List Nat) (P : List Int) (hk : ws.length ≤ kl.length) (hl : kl.length ≤ 100000) (hP : ∀ i (hi : i < ws.length), ∃ h : ws[i] < P.length, P[ws[i]] = (kl[i]'(by omega) : Int)) (ak : Option Addr) (ck : Nat) (aw : Option Addr) (cw : Nat) (a2 : Option Addr) (n c2 : Nat) (hn : n = P.length) (w : World) (h1 : RSl w w.heap.size ak (ints kl)) (h2 : RSl w w.heap.size aw (ivs (toI ws))) (h3 : RSl w w.heap.size a2 (ivs P)) :
    Calls Try.prog 26 #[.slice ak kl.length ck, .int .i64 0, .slice aw ws.length cw, .slice a2 n c2] w (fun e w' => e = .returned (.bool true) ∧ Below w.heap.size w w') := by
  have HP := Lib.hid hP
  have H1 := Lib.hid h1
  have H2 := Lib.hid h2
  have H3 := Lib.hid h3
  have HN := Lib.hid hn
  clear hP h1 h2 h3 hn
  go_enter Try.func26, Try.ntmps26
  go_wp2_with fail
  go_loopw [9] (fun v wr => ∃ i : Nat, i ≤ ws.length ∧ v = .int .i64 i ∧ Below w.heap.size w wr) (fun v _ => ws.length - (intOf v).toNat)
  case atStart => exact ⟨0, by omega, rfl, Below.refl _ _⟩
  case round =>
    obtain ⟨i, hi, rfl, hb⟩ := hrel
    obtain ⟨W, rfl⟩ : ∃ W : World, W = wr := ⟨_, rfl⟩
    have HB := Lib.hid hb
    clear hb
    by_cases hlt : i < ws.length
    · obtain ⟨hwp, he⟩ := HP.out i hlt
      have hik : i < kl.length := by omega
      obtain ⟨b1, o1, rfl, -, hc1⟩ := (H1.out.up HB.out).at_ (by rw [ints_length]; omega)
      have g1 := hc1 i (by rw [ints_length]; exact hik)
      have e1 : (ints kl)[i]'(by rw [ints_length]; exact hik) = .int .i64 (kl[i] : Int) := by simp [ints]
      replace g1 := g1.trans (congrArg some e1)
      obtain ⟨b2, o2, rfl, -, hc2⟩ := (H2.out.up HB.out).at_ (by rw [ivs_length, toI_length]; omega)
      have g2 := hc2 i (by rw [ivs_length, toI_length]; exact hlt)
      have e2 : (ivs (toI ws))[i]'(by rw [ivs_length, toI_length]; exact hlt) = .int .i64 (ws[i] : Int) := by rw [ivs_at (by rw [toI_length]; exact hlt), toI_at hlt]
      replace g2 := g2.trans (congrArg some e2)
      obtain ⟨b3, o3, rfl, -, hc3⟩ := (H3.out.up HB.out).at_ (by rw [ivs_length]; omega)
      have g3 := hc3 ws[i] (by rw [ivs_length]; exact hwp)
      rw [ivs_at hwp, he] at g3
      have hwn : ws[i] < n := by rw [HN.out]; exact hwp
      obtain ⟨y, hy⟩ : ∃ y, y = ws[i] := ⟨_, rfl⟩
      obtain ⟨k, hk2⟩ : ∃ k, k = kl[i] := ⟨_, rfl⟩
      rw [← hy] at g2 g3 hwn
      rw [← hk2] at g1 g3
      have f1 : ¬ ((i : Int) < 0) := by omega
      have f0 : decide ((i : Int) < 0) = false := decide_eq_false f1
      have f2 : decide ((kl.length : Int) ≤ (i : Int)) = false := decide_eq_false (by omega)
      have f3 : ((k : Int) != (k : Int)) = false := by simp
      clear hc1 hc2 hc3 e1 e2 hy hk2 hwp he
      go_wp2_with fail
      go_quiet (fail)
      go_wp2_with fail
      go_roundw
      case rel => exact ⟨i + 1, by omega, by go_num, below_drewN HB.out _⟩
      case measure => simp [intOf]; omega
    · go_wp2_with fail
      go_ret
      exact ⟨rfl, HB.out⟩
end Go.Proofs.Ytmhhfljbocbolaa

namespace Go.Proofs.Ytmhhfljbocbolaa
open Go.RowKit
set_option linter.unusedVariables false

theorem isl_one (w : World) (I : Int) (hI : -9223372036854775808 ≤ I ∧ I ≤ 9223372036854775807) : ISl (w.alloc (.cells #[.int .i64 I] 3)) (w.alloc (.cells #[.int .i64 I] 3)).heap.size (some ⟨w.heap.size, 0, none⟩) [I] := by
  refine ⟨.inr ⟨w.heap.size, 0, rfl, by simp, fun q hq => ?_⟩, by simp [maxLen], fun x hx => by rw [List.mem_singleton] at hx; rw [hx]; exact hI⟩
  have e0 : q = 0 := by simp [ivs] at hq; omega
  subst e0
  rw [World.cell?_alloc_mark]; rfl

def optY : Option Nat → Int
  | none => -1
  | some k => (k : Int)
theorem parI_optY (t : List Nd) (i : Nat) : parI t i i = optY (parJ t i i) := by
  rw [parI_parJ]; cases parJ t i i <;> rfl
end Go.Proofs.Ytmhhfljbocbolaa
