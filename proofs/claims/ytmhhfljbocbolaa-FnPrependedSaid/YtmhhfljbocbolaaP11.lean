/- Nodes moved, prepended: the walks (joined by join.py) -/
import Derived.Test.YtmhhfljbocbolaaT24
import Derived.Test.YtmhhfljbocbolaaT18
import Derived.Test.YtmhhfljbocbolaaP5
import Derived.BigRegion
import Derived.BigQuiet
import Derived.Deep.QuietTactic
import Derived.Test.YtmhhfljbocbolaaT166
import Derived.Test.YtmhhfljbocbolaaP4
import Derived.Test.YtmhhfljbocbolaaP8
import Derived.Test.YtmhhfljbocbolaaP9
import Derived.StillTailTactics
namespace Go.Proofs.Ytmhhfljbocbolaa
open Go.RowKit
set_option linter.unusedVariables false

open Go.WideShapes Go.Deep in
theorem open_ints {H : Type} {enc : TypeId × Value → H} {w : World} {base : Nat} {spare : Nat → Bool} {held : Bool} {a : Option Addr} {len cap : Nat} {d : DataW H} {p : List MemPlace} (h : DataW.Trod enc Try.prog w base spare held 23 (.slice a len cap) d p) :
    ∃ l : List Int, ISl w w.heap.size a l ∧ len = l.length := by
  obtain ⟨fuel, h⟩ := h
  have hC : Try.prog.cellsOf 3 = 1 := by kernel_rfl
  rcases open_slice Try.underlying23 h with ⟨hcs, _⟩ | ⟨a', len', cap', m, n, D, Pl, hcs, _, hl, hm, hmm, hx, hi⟩
  · simp [Value.cells] at hcs
    exact ⟨[], ⟨.inl rfl, by simp, by simp⟩, by simp [hcs.2.1]⟩
  · simp [Value.cells] at hcs
    obtain ⟨rfl, rfl, rfl⟩ := hcs
    have hlm : len ≤ m := by rw [hmm]; split <;> omega
    obtain ⟨l, hll, hp⟩ := list_of len (fun i (x : Int) => w.cell? (a'.add i) = some (.int .i64 x) ∧ (-9223372036854775808 ≤ x ∧ x ≤ 9223372036854775807)) (fun i hil => by
      obtain ⟨cs', hc, ht⟩ := hi i (by omega)
      rw [hC, Nat.mul_one] at hc
      obtain ⟨_, hcl, hat⟩ := World.cells?_some hc
      obtain ⟨v, rfl⟩ : ∃ v, cs' = [v] := by
        match cs', hcl with
        | [v], _ => exact ⟨v, rfl⟩
      obtain ⟨n0, e0, _, z0⟩ := DataW.trod_int Try.underlying3 ht
      simp at e0
      subst e0
      have := hat 0 (by omega)
      rw [Go.Deep.add_add, Nat.add_zero] at this
      exact ⟨n0, this, wf_bounds z0⟩)
    subst hll
    refine ⟨l, ⟨?_, by omega, fun x hx => ?_⟩, rfl⟩
    · rcases Nat.eq_zero_or_pos l.length with h0 | h0
      · exact .inl (by rw [List.eq_nil_of_length_eq_zero h0]; rfl)
      · obtain ⟨b, o, rfl, hb⟩ := addr_plain (k := 0) (hp 0 h0).1
        refine .inr ⟨b, o, rfl, hb, fun i hi2 => ?_⟩
        rw [ivs_length] at hi2
        have := (hp i hi2).1
        rw [Addr.add_lit] at this
        rw [ivs_at hi2]
        exact this
    · obtain ⟨i, hi2, rfl⟩ := List.getElem_of_mem hx
      exact (hp i hi2).2
end Go.Proofs.Ytmhhfljbocbolaa

namespace Go.Proofs.Ytmhhfljbocbolaa
open Go.RowKit
set_option linter.unusedVariables false

theorem attr_neq (a b : ByteArray) (w : World) : (binOp .neq 96 (.agg #[.string a, .string b]) (.agg #[.string a, .string b])).run Try.prog w = .ok (.bool false) w := by
  rw [run_neq_struct, run_equalIn_struct _ _ _ _ _ (by kernel_rfl) (by kernel_rfl)]
  obtain ⟨f1, f2, hf, h1, h2, h3, h4, h5, h6⟩ : ∃ f1 f2 : Field, (Try.prog.fieldsOf 96).toList = [f1, f2] ∧ (f1.name == "_") = false ∧ (f2.name == "_") = false ∧ f1.type = 9 ∧ f2.type = 9 ∧ f1.offset = 0 ∧ f2.offset = 1 :=
    ⟨(Try.prog.fieldsOf 96).toList[0]!, (Try.prog.fieldsOf 96).toList[1]!, by kernel_rfl, by kernel_rfl, by kernel_rfl, by kernel_rfl, by kernel_rfl, by kernel_rfl, by kernel_rfl⟩
  have n1 : f1.name ≠ "_" := by simpa using h1
  have n2 : f2.name ≠ "_" := by simpa using h2
  rw [hf]
  simp only [Op.eqFields, ne_eq, n1, n2, not_false_eq_true, if_true, h3, h4, h5, h6]
  go_simp

set_option maxRecDepth 100000 in
set_option maxHeartbeats 4000000 in
theorem sameNode_yes (x y : Nd) (hxy : strip y = strip x) (hl : x.attrs.length ≤ 1000) (w : World) (hx : ASl w w.heap.size x.aa x.attrs) (hy : ASl w w.heap.size y.aa y.attrs) :
    Calls Try.prog 35 #[.agg #[.int .i64 x.kind, .string x.tag, .string x.text, .slice x.aa x.attrs.length x.ac, .int .i64 x.size], .agg #[.int .i64 y.kind, .string y.tag, .string y.text, .slice y.aa y.attrs.length y.ac, .int .i64 y.size]] w (fun e w' => e = .returned (.bool true) ∧ Below w.heap.size w w') := by
  have e1 : y.kind = x.kind := show (strip y).kind = (strip x).kind by rw [hxy]
  have e2 : y.tag = x.tag := show (strip y).tag = (strip x).tag by rw [hxy]
  have e3 : y.text = x.text := show (strip y).text = (strip x).text by rw [hxy]
  have e4 : y.attrs = x.attrs := show (strip y).attrs = (strip x).attrs by rw [hxy]
  have e5 : y.size = x.size := show (strip y).size = (strip x).size by rw [hxy]
  rw [e4] at hy
  rw [e1, e2, e3, e4, e5]
  clear hxy e1 e2 e3 e4 e5
  obtain ⟨ya, hya⟩ : ∃ ya, ya = y.aa := ⟨_, rfl⟩
  obtain ⟨yc, hyc⟩ : ∃ yc, yc = y.ac := ⟨_, rfl⟩
  rw [← hya] at hy ⊢
  rw [← hyc]
  clear hya hyc
  have HX := Lib.hid hx
  have HY := Lib.hid hy
  obtain ⟨W0, hW0⟩ : ∃ W0, W0 = (w.alloc (.cells #[.int .i64 x.kind, .string x.tag, .string x.text, .slice x.aa x.attrs.length x.ac, .int .i64 x.size] 47)).alloc (.cells #[.int .i64 x.kind, .string x.tag, .string x.text, .slice ya x.attrs.length yc, .int .i64 x.size] 47) := ⟨_, rfl⟩
  have hb0 : Below w.heap.size w W0 := by rw [hW0]; exact ((Below.refl _ _).alloc (Nat.le_refl _) _).alloc (by rw [World.size_alloc]; omega) _
  have HB0 := Lib.hid hb0
  have hs0 : w.heap.size + 2 ≤ W0.heap.size := by rw [hW0, World.size_alloc, World.size_alloc]; omega
  have HQ : Hid (∀ W, Below W0.heap.size W0 W → W.cell? ⟨w.heap.size, 3, none⟩ = some (.slice x.aa x.attrs.length x.ac) ∧ W.cell? ⟨w.heap.size + 1, 3, none⟩ = some (.slice ya x.attrs.length yc)) := by
    intro W hb
    have q0 : W.heap[w.heap.size]? = some (.cells #[.int .i64 x.kind, .string x.tag, .string x.text, .slice x.aa x.attrs.length x.ac, .int .i64 x.size] 47 (0, 0)) := by
      rw [hb.block _ (by omega), hW0, Below.heap_alloc _ _ _ (by rw [World.size_alloc]; omega)]; exact heap_alloc_new w _
    have q1 : W.heap[w.heap.size + 1]? = some (.cells #[.int .i64 x.kind, .string x.tag, .string x.text, .slice ya x.attrs.length yc, .int .i64 x.size] 47 (0, 0)) := by
      rw [hb.block _ (by omega), hW0]
      have := heap_alloc_new (w.alloc (.cells #[.int .i64 x.kind, .string x.tag, .string x.text, .slice x.aa x.attrs.length x.ac, .int .i64 x.size] 47)) (.cells #[.int .i64 x.kind, .string x.tag, .string x.text, .slice ya x.attrs.length yc, .int .i64 x.size] 47)
      rwa [World.size_alloc] at this
    exact ⟨by rw [cell_of_row W _ _ _ _ _ q0]; rfl, by rw [cell_of_row W _ _ _ _ _ q1]; rfl⟩
  clear hx hy hb0
  go_enter Try.func35, Try.ntmps35
  go_wp2_with fail
  rw [← hW0]
  clear hW0
  go_loopw [5] (fun v wr => ∃ i q : Nat, i ≤ x.attrs.length ∧ v = .int .i64 i ∧ wr = W0.drewN q) (fun v _ => x.attrs.length - (intOf v).toNat)
  case atStart => exact ⟨0, 0, Nat.zero_le _, rfl, rfl⟩
  case round =>
    obtain ⟨i, q, hi, rfl, rfl⟩ := hrel
    have hb := below_drewN (Below.refl W0.heap.size W0) q
    obtain ⟨q3, r3⟩ := HQ.out _ hb
    have HBw := Lib.hid (HB0.out.trans (hb.mono (show w.heap.size ≤ W0.heap.size by omega)))
    clear hb
    obtain ⟨W, hW⟩ : ∃ W, W = W0.drewN q := ⟨_, rfl⟩
    rw [← hW] at q3 r3 HBw ⊢
    have HW := Lib.hid hW
    clear hW
    by_cases hlt : i < x.attrs.length
    · have HXi := (HX.out.below HBw.out).more HBw.out.size
      have HYi := (HY.out.below HBw.out).more HBw.out.size
      obtain ⟨b, o, hao, hbB, hc⟩ := HXi.2.2.resolve_left (fun h0 => by rw [h0] at hlt; simp at hlt)
      obtain ⟨b2, o2, hao2, hbB2, hc2⟩ := HYi.2.2.resolve_left (fun h0 => by rw [h0] at hlt; simp at hlt)
      obtain ⟨g1, g2⟩ := hc i hlt
      obtain ⟨k1, k2⟩ := hc2 i hlt
      rw [List.getD_eq_getElem?_getD, List.getElem?_eq_getElem hlt, Option.getD_some] at g1 g2 k1 k2
      obtain ⟨z, hz⟩ : ∃ z, z = x.attrs[i] := ⟨_, rfl⟩
      rw [← hz] at g1 g2 k1 k2
      rw [hao] at q3
      rw [hao2] at r3
      have heq : ∀ w : World, (binOp .neq 96 (.agg #[.string z.key, .string z.val]) (.agg #[.string z.key, .string z.val])).run Try.prog w = .ok (.bool false) w := fun w => attr_neq z.key z.val w
      have e1 : IntKind.i64.wrap (i : Int) = (i : Int) := IntWalk.i64_in _ ⟨by omega, by omega⟩
      clear hc hc2 HXi HYi hz hao hao2
      go_wp2_with fail
      go_quiet (fail)
      go_wp2_with fail
      go_roundw
      case rel => exact ⟨i + 1, q + nq, by omega, by go_num, by rw [HW.out, World.drewN_drewN]⟩
      case measure => simp [intOf]; omega
    · go_wp2_with fail
      go_ret
      exact ⟨rfl, HBw.out⟩
end Go.Proofs.Ytmhhfljbocbolaa

namespace Go.Proofs.Ytmhhfljbocbolaa
open Go.RowKit
set_option linter.unusedVariables false

set_option maxRecDepth 100000 in
set_option maxHeartbeats 8000000 in
theorem sameTree_yes (A Bs : List Nd) (h : A.map strip = Bs.map strip) (hg : ∀ x ∈ A, x.attrs.length ≤ 1000) (hl : A.length ≤ 100000) (a : Option Addr) (c : Nat) (a2 : Option Addr) (c2 : Nat) (w : World) (h1 : NSl w w.heap.size a A) (h2 : NSl w w.heap.size a2 Bs) :
    Calls Try.prog 18 #[.slice a A.length c, .slice a2 Bs.length c2] w (fun e w' => e = .returned (.bool true) ∧ Below w.heap.size w w') := by
  have hlen : Bs.length = A.length := by have := congrArg List.length h; simpa using this.symm
  rw [hlen]
  have H1 := Lib.hid h1
  have H2 := Lib.hid h2
  have HS := Lib.hid h
  have HG := Lib.hid hg
  have HLn := Lib.hid hlen
  clear h1 h2 h hg hlen
  go_enter Try.func18, Try.ntmps18
  go_wp2_with fail
  go_loopw [5] (fun v wr => ∃ i : Nat, i ≤ A.length ∧ v = .int .i64 i ∧ Below w.heap.size w wr) (fun v _ => A.length - (intOf v).toNat)
  case atStart => exact ⟨0, Nat.zero_le _, rfl, Below.refl _ _⟩
  case round =>
    obtain ⟨i, hi, rfl, hb⟩ := hrel
    obtain ⟨wi, rfl⟩ : ∃ wi : World, wi = wr := ⟨_, rfl⟩
    have HB := Lib.hid hb
    by_cases hlt : i < A.length
    · have hlt2 : i < Bs.length := by rw [HLn.out]; exact hlt
      obtain ⟨b1, o1, rfl, hbB1, hc1⟩ := H1.out.at_ (by omega)
      obtain ⟨b2, o2, rfl, hbB2, hc2⟩ := H2.out.at_ (by omega)
      have p1 : ∀ {j v}, w.cell? ⟨b1, j, none⟩ = some v → wi.cell? ⟨b1, j, none⟩ = some v := fun h => (hb.cell (p := ⟨b1, _, none⟩) hbB1).trans h
      have p2 : ∀ {j v}, w.cell? ⟨b2, j, none⟩ = some v → wi.cell? ⟨b2, j, none⟩ = some v := fun h => (hb.cell (p := ⟨b2, _, none⟩) hbB2).trans h
      obtain ⟨g1, g2, g3, g4, g5, hok1⟩ := hc1 i hlt
      obtain ⟨k1, k2, k3, k4, k5, hok2⟩ := hc2 i hlt2
      have hst : strip A[i] = strip Bs[i] := by
        have := congrArg (fun l => l[i]?) HS.out
        simpa [List.getElem?_eq_getElem hlt, List.getElem?_eq_getElem hlt2] using this
      have hw := HG.out A[i] (List.getElem_mem hlt)
      obtain ⟨x, hx⟩ : ∃ x, x = A[i] := ⟨_, rfl⟩
      obtain ⟨y, hy⟩ : ∃ y, y = Bs[i] := ⟨_, rfl⟩
      rw [← hx] at g1 g2 g3 g4 g5 hok1 hst hw
      rw [← hy] at k1 k2 k3 k4 k5 hok2 hst
      have e1 : y.kind = x.kind := show (strip y).kind = (strip x).kind by rw [hst]
      have e2 : y.tag = x.tag := show (strip y).tag = (strip x).tag by rw [hst]
      have e3 : y.text = x.text := show (strip y).text = (strip x).text by rw [hst]
      have e4 : y.attrs = x.attrs := show (strip y).attrs = (strip x).attrs by rw [hst]
      have e5 : y.size = x.size := show (strip y).size = (strip x).size by rw [hst]
      have HX := Lib.hid (hok1.attrs.below hb)
      have HY := Lib.hid (hok2.attrs.below hb)
      have HA : Hid (∀ W, Below wi.heap.size wi W → Calls Try.prog 35 #[.agg #[.int .i64 x.kind, .string x.tag, .string x.text, .slice x.aa x.attrs.length x.ac, .int .i64 x.size], .agg #[.int .i64 x.kind, .string x.tag, .string x.text, .slice y.aa x.attrs.length y.ac, .int .i64 x.size]] W (fun e w' => e = .returned (.bool true) ∧ Below W.heap.size W w')) := fun W hW => by
        have hwW := hb.trans (hW.mono hb.size)
        have := sameNode_yes x y hst.symm hw W ((hok1.attrs.below hwW).more hwW.size) ((hok2.attrs.below hwW).more hwW.size)
        rw [e1, e2, e3, e4, e5] at this
        exact this
      replace g1 := p1 g1
      replace g2 := p1 g2
      replace g3 := p1 g3
      replace g4 := p1 g4
      replace g5 := p1 g5
      replace k1 := p2 k1
      replace k2 := p2 k2
      replace k3 := p2 k3
      replace k4 := p2 k4
      replace k5 := p2 k5
      rw [e1] at k1
      rw [e2] at k2
      rw [e3] at k3
      rw [e4] at k4
      rw [e5] at k5
      have HC : Hid (∀ W, Below wi.heap.size wi W → W.cell? ⟨b1, o1 + i * 5, none⟩ = some (.int .i64 x.kind) ∧ W.cell? ⟨b1, o1 + i * 5 + 1, none⟩ = some (.string x.tag) ∧ W.cell? ⟨b1, o1 + i * 5 + 2, none⟩ = some (.string x.text) ∧ W.cell? ⟨b1, o1 + i * 5 + 3, none⟩ = some (.slice x.aa x.attrs.length x.ac) ∧ W.cell? ⟨b1, o1 + i * 5 + 4, none⟩ = some (.int .i64 x.size) ∧ W.cell? ⟨b2, o2 + i * 5, none⟩ = some (.int .i64 x.kind) ∧ W.cell? ⟨b2, o2 + i * 5 + 1, none⟩ = some (.string x.tag) ∧ W.cell? ⟨b2, o2 + i * 5 + 2, none⟩ = some (.string x.text) ∧ W.cell? ⟨b2, o2 + i * 5 + 3, none⟩ = some (.slice y.aa x.attrs.length y.ac) ∧ W.cell? ⟨b2, o2 + i * 5 + 4, none⟩ = some (.int .i64 x.size)) := fun W hW => by
        have q1 : ∀ {j v}, wi.cell? ⟨b1, j, none⟩ = some v → W.cell? ⟨b1, j, none⟩ = some v := fun h => (hW.cell (p := ⟨b1, _, none⟩) (by have := hb.size; show b1 < _; omega)).trans h
        have q2 : ∀ {j v}, wi.cell? ⟨b2, j, none⟩ = some v → W.cell? ⟨b2, j, none⟩ = some v := fun h => (hW.cell (p := ⟨b2, _, none⟩) (by have := hb.size; show b2 < _; omega)).trans h
        exact ⟨q1 g1, q1 g2, q1 g3, q1 g4, q1 g5, q2 k1, q2 k2, q2 k3, q2 k4, q2 k5⟩
      clear hc1 hc2 p1 p2 hst hw hx hy e1 e2 e3 e4 e5 hok1 hok2 hb
      go_wp2_with fail
      refine wp_region_G ((fun (_ : Array Bool) w' => w'.cell? ⟨b1, o1 + i * 5, none⟩ = some (.int .i64 x.kind) ∧ w'.cell? ⟨b1, o1 + i * 5 + 1, none⟩ = some (.string x.tag) ∧ w'.cell? ⟨b1, o1 + i * 5 + 2, none⟩ = some (.string x.text) ∧ w'.cell? ⟨b1, o1 + i * 5 + 3, none⟩ = some (.slice x.aa x.attrs.length x.ac) ∧ w'.cell? ⟨b1, o1 + i * 5 + 4, none⟩ = some (.int .i64 x.size) ∧ w'.cell? ⟨b2, o2 + i * 5, none⟩ = some (.int .i64 x.kind) ∧ w'.cell? ⟨b2, o2 + i * 5 + 1, none⟩ = some (.string x.tag) ∧ w'.cell? ⟨b2, o2 + i * 5 + 2, none⟩ = some (.string x.text) ∧ w'.cell? ⟨b2, o2 + i * 5 + 3, none⟩ = some (.slice y.aa x.attrs.length y.ac) ∧ w'.cell? ⟨b2, o2 + i * 5 + 4, none⟩ = some (.int .i64 x.size))) (by kernel_rfl) ?_
      have hG0 : (fun (_ : Array Bool) w' => w'.cell? ⟨b1, o1 + i * 5, none⟩ = some (.int .i64 x.kind) ∧ w'.cell? ⟨b1, o1 + i * 5 + 1, none⟩ = some (.string x.tag) ∧ w'.cell? ⟨b1, o1 + i * 5 + 2, none⟩ = some (.string x.text) ∧ w'.cell? ⟨b1, o1 + i * 5 + 3, none⟩ = some (.slice x.aa x.attrs.length x.ac) ∧ w'.cell? ⟨b1, o1 + i * 5 + 4, none⟩ = some (.int .i64 x.size) ∧ w'.cell? ⟨b2, o2 + i * 5, none⟩ = some (.int .i64 x.kind) ∧ w'.cell? ⟨b2, o2 + i * 5 + 1, none⟩ = some (.string x.tag) ∧ w'.cell? ⟨b2, o2 + i * 5 + 2, none⟩ = some (.string x.text) ∧ w'.cell? ⟨b2, o2 + i * 5 + 3, none⟩ = some (.slice y.aa x.attrs.length y.ac) ∧ w'.cell? ⟨b2, o2 + i * 5 + 4, none⟩ = some (.int .i64 x.size)) (Array.replicate 10 false) wi.drew := ⟨g1, g2, g3, g4, g5, k1, k2, k3, k4, k5⟩
      refine wpAnyG_take0 (i := 0) (v := ?v0) (by simp only [List.getElem?_toArray, List.getElem?_cons_zero]; rfl) (by decide +kernel) (by decide +kernel) (by decide +kernel) (by intro _ _ _ h; exact h) (fun l w => Iff.rfl) (Or.inl ⟨by rfl, ?hy0⟩) hG0 (fun hG1 => ?rest0)
      case hy0 => intro W' _; go_simp <;> with_reducible rfl
      clear hG0
      simp only [Act.put, List.setIfInBounds_toArray]
      refine wpAnyG_take0 (i := 1) (v := ?v1) (by simp only [List.getElem?_toArray, List.getElem?_cons_succ, List.getElem?_cons_zero]; rfl) (by decide +kernel) (by decide +kernel) (by decide +kernel) (by intro _ _ _ h; exact h) (fun l w => Iff.rfl) (Or.inl ⟨by rfl, ?hy1⟩) hG1 (fun hG2 => ?rest1)
      case hy1 => intro W' _; go_simp <;> with_reducible rfl
      clear hG1
      simp only [Act.put]
      refine wpAnyG_take0 (i := 2) (v := ?v2) (by simp only [List.getElem?_toArray, List.getElem?_cons_succ, List.getElem?_cons_zero]; rfl) (by decide +kernel) (by decide +kernel) (by decide +kernel) (by intro _ _ _ h; exact h) (fun l w => Iff.rfl) (Or.inl ⟨by rfl, ?hy2⟩) hG2 (fun hG3 => ?rest2)
      case hy2 => intro W' _; go_simp <;> with_reducible rfl
      clear hG2
      simp only [Act.put]
      refine wpAnyG_take (i := 3) (f := 8) (v := ?v3) (by simp only [List.getElem?_toArray, List.getElem?_cons_succ, List.getElem?_cons_zero]; rfl) (by decide +kernel) (by decide +kernel) (by decide +kernel) (by decide +kernel) rfl rfl (by intro _ _ _ h; exact h) (fun _ _ h g => g) (fun l w => Iff.rfl) (Or.inl ⟨by rfl, ?hy3⟩) hG3 (fun hG4 => ?rest3)
      case hy3 => intro W' hS; (try dsimp only at hS); go_simp <;> with_reducible rfl
      clear hG3
      simp only [Act.put]
      refine wpAnyG_take0 (i := 4) (v := ?v4) (by simp only [List.getElem?_toArray, List.getElem?_cons_succ, List.getElem?_cons_zero]; rfl) (by decide +kernel) (by decide +kernel) (by decide +kernel) (by intro _ _ _ h; exact h) (fun l w => Iff.rfl) (Or.inl ⟨by rfl, ?hy4⟩) hG4 (fun hG5 => ?rest4)
      case hy4 => intro W' _; go_simp <;> with_reducible rfl
      clear hG4
      simp only [Act.put]
      refine wpAnyG_take0 (i := 5) (v := ?v5) (by simp only [List.getElem?_toArray, List.getElem?_cons_succ, List.getElem?_cons_zero]; rfl) (by decide +kernel) (by decide +kernel) (by decide +kernel) (by intro _ _ _ h; exact h) (fun l w => Iff.rfl) (Or.inl ⟨by rfl, ?hy5⟩) hG5 (fun hG6 => ?rest5)
      case hy5 => intro W' _; go_simp <;> with_reducible rfl
      clear hG5
      simp only [Act.put]
      refine wpAnyG_take0 (i := 6) (v := ?v6) (by simp only [List.getElem?_toArray, List.getElem?_cons_succ, List.getElem?_cons_zero]; rfl) (by decide +kernel) (by decide +kernel) (by decide +kernel) (by intro _ _ _ h; exact h) (fun l w => Iff.rfl) (Or.inl ⟨by rfl, ?hy6⟩) hG6 (fun hG7 => ?rest6)
      case hy6 => intro W' _; go_simp <;> with_reducible rfl
      clear hG6
      simp only [Act.put]
      refine wpAnyG_take (i := 7) (f := 8) (v := ?v7) (by simp only [List.getElem?_toArray, List.getElem?_cons_succ, List.getElem?_cons_zero]; rfl) (by decide +kernel) (by decide +kernel) (by decide +kernel) (by decide +kernel) rfl rfl (by intro _ _ _ h; exact h) (fun _ _ h g => g) (fun l w => Iff.rfl) (Or.inl ⟨by rfl, ?hy7⟩) hG7 (fun hG8 => ?rest7)
      case hy7 => intro W' hS; (try dsimp only at hS); go_simp <;> with_reducible rfl
      clear hG7
      simp only [Act.put]
      refine wpAnyG_one (i := 8) (by decide +kernel) rfl (fun K' hK => ?_)
      go_simp
      go_at_call 35
      refine (HA.out _ (Below.refl _ _).drew).mono ?_
      rintro e w3 ⟨rfl, hb3⟩
      have hb3' : Below wi.heap.size wi w3 := (Below.refl _ _).drew.trans hb3
      have HB3 := Lib.hid hb3'
      refine hK.out _ _ (HC.out w3 hb3') (fun hG100 => ?_); clear hK K' hb3 hb3' hG8
      refine wpAnyG_take0 (i := 9) (v := ?v9) (by simp only [List.getElem?_toArray, List.getElem?_cons_succ, List.getElem?_cons_zero]; rfl) (by decide +kernel) (by decide +kernel) (by decide +kernel) (by intro _ _ _ h; exact h) (fun l w => Iff.rfl) (Or.inl ⟨by rfl, ?hy9⟩) hG100 (fun hG101 => ?rest9)
      case hy9 => intro W' _; go_simp <;> with_reducible rfl
      clear hG100
      simp only [Act.put]
      refine wpAnyG_done (by decide +kernel) ?_ _
      go_wp2_with fail
      go_roundw
      case rel => exact ⟨i + 1, by omega, by go_num, HB.out.trans (HB3.out.mono HB.out.size)⟩
      case measure => simp [intOf]; omega
    · go_wp2_with fail
      go_ret
      exact ⟨rfl, HB.out⟩
end Go.Proofs.Ytmhhfljbocbolaa


namespace Go.Proofs.Ytmhhfljbocbolaa
set_option linter.unusedVariables false

theorem outL_first {t : List Nd} (hR : RightP t) : outL (fo0 t) (sz t) (ndT t) 0 = t.map strip := by
  unfold outL
  rw [fo0_all hR _ _ (Nat.le_refl _) hR.pos, hR.top]
  refine List.ext_getElem (by simp) fun i h1 h2 => ?_
  have hi : i < t.length := by simpa using h2
  rw [List.getElem_map, List.getElem_map, List.getElem_range']
  have e0 : 0 + 1 * i = i := by omega
  rw [e0, fo0_all hR _ _ (Nat.le_refl _) hi, List.length_range']
  have e1 : ndT t i = t[i] := getD_at hi
  rw [e1]
  have e2 : t[i].size = (sz t i : Int) := size_at hi (hR.lam i (Nat.zero_le _) hi).1
  show strip { t[i] with size := (sz t i : Int) } = strip t[i]
  rw [← e2]

theorem clear_none {F : Fo} {S : Nat → Prop} {h : Nat → Nat} (o : F.Ok S h) : ∀ {ms : List Nat}, ms.flatMap F.kids = [] → clearAll F ms = F := by
  intro ms
  induction ms with
  | nil => intro _; rfl
  | cons m ms ih =>
    intro hf
    rw [List.flatMap_cons, List.append_eq_nil_iff] at hf
    show clearAll (F.clear m) ms = F
    rw [Fo.clear_done o hf.1]
    exact ih hf.2
end Go.Proofs.Ytmhhfljbocbolaa

namespace Go.Proofs.Ytmhhfljbocbolaa
open Go.RowKit
set_option linter.unusedVariables false

def SzAt (A : List Nd) (F : Fo) (h : Nat → Nat) (k y : Nat) : Prop := ∀ j z, (F.all h y)[j]? = some z → ∃ e, A[k + j]? = some e ∧ e.size = ((F.all h z).length : Int)

theorem szAt_root {A : List Nd} {F : Fo} {h : Nat → Nat} {nd : Nat → Nd} (hs : A.map strip = outL F h nd 0) : SzAt A F h 0 0 := by
  intro j z hz
  have h1 := congrArg (fun l => l[j]?) hs
  unfold outL at h1
  simp only [List.getElem?_map, hz, Option.map_some] at h1
  obtain ⟨e, he, e2⟩ := Option.map_eq_some_iff.1 h1
  exact ⟨e, by rw [Nat.zero_add]; exact he, show (strip e).size = _ by rw [e2]; rfl⟩

theorem szAt_kid {A : List Nd} {F : Fo} {S : Nat → Prop} {h : Nat → Nat} (o : F.Ok S h) {k y j : Nat} (hA : SzAt A F h k y) (hj : j < (F.kids y).length) : SzAt A F h (k + 1 + (soFar F h y j).length) (F.kids y)[j] := by
  intro q z hz
  have e : F.all h y = (y :: soFar F h y j) ++ (F.all h (F.kids y)[j] ++ ((F.kids y).drop (j + 1)).flatMap (F.all h)) := by
    rw [F.all_eq o y]
    unfold soFar
    conv => lhs; rw [← List.take_append_drop j (F.kids y), List.drop_eq_getElem_cons hj, List.flatMap_append, List.flatMap_cons]
    rfl
  have hq := (List.getElem?_eq_some_iff.1 hz).1
  have h1 : (F.all h y)[1 + (soFar F h y j).length + q]? = some z := by
    rw [e, List.getElem?_append_right (by simp; omega), List.length_cons]
    have e2 : 1 + (soFar F h y j).length + q - ((soFar F h y j).length + 1) = q := by omega
    rw [e2, List.getElem?_append_left hq]; exact hz
  obtain ⟨x, hx, e3⟩ := hA _ z h1
  refine ⟨x, ?_, e3⟩
  rw [← hx]; congr 1; omega

set_option maxRecDepth 100000 in
set_option maxHeartbeats 2000000 in
theorem sized_yes {F : Fo} {S : Nat → Prop} {h : Nat → Nat} (o : F.Ok S h) (A : List Nd) (hA : A.length ≤ 100000) (a : Option Addr) (c : Nat) (d : Nat) : ∀ (y k en deep : Nat) (I E D : Int) (w : World), I = k → E = en → D = deep → h y < d → h y < deep → deep ≤ 100000 → SzAt A F h k y → k + (F.all h y).length ≤ en → en ≤ A.length → NSl w w.heap.size a A →
    Calls Try.prog 57 #[.slice a A.length c, .int .i64 I, .int .i64 E, .int .i64 D] w (fun e w' => e = .returned (.bool true) ∧ w = w') := by
  induction d with
  | zero => intro y k en deep I E D w _ _ _ hd; omega
  | succ d ih =>
    rintro y i en deep I E D w rfl rfl rfl hd hdp hdl hsz hen hea hM
    have hp := kids_len o y
    have h0 : (F.all h y)[0]? = some y := by rw [F.all_eq o y]; rfl
    obtain ⟨x, hx, hxs⟩ := hsz 0 y h0
    rw [Nat.add_zero] at hx
    have hi : i < A.length := (List.getElem?_eq_some_iff.1 hx).1
    have HI := Lib.hid ih
    have HH := Lib.hid hM
    have HO := Lib.hid o
    have HSz := Lib.hid hsz
    obtain ⟨b, off, rfl, hbB, hc⟩ := hM.at_ (by omega)
    obtain ⟨-, -, -, -, h5, -⟩ := hc i hi
    have HC := Lib.hid hc
    rw [List.getElem?_eq_getElem hi] at hx
    injection hx with hx
    rw [hx, hxs] at h5
    clear hc hM ih hx hxs h0 hsz o
    obtain ⟨n, hn⟩ : ∃ n, n = (F.all h y).length := ⟨_, rfl⟩
    rw [← hn] at h5 hen hp
    have HN := Lib.hid hn
    clear hn
    have hdd : 1 ≤ deep := by omega
    have hn1 : 1 ≤ n := by omega
    have k0 : ((deep : Int) == 0) = false := beq_eq_false_iff_ne.2 (by omega)
    have k1 : ¬ ((n : Int) < 1) := by omega
    have k2 : ¬ ((en : Int) - (i : Int) < (n : Int)) := by omega
    go_enter Try.func57, Try.ntmps57
    go_wp2_with fail
    go_loopw [10] (fun v wr => ∃ j : Nat, j ≤ (F.kids y).length ∧ v = .int .i64 ((i + 1 + (soFar F h y j).length : Nat) : Int) ∧ w = wr) (fun v _ => i + n - (intOf v).toNat)
    case atStart => exact ⟨0, Nat.zero_le _, by simp [soFar], rfl⟩
    case round =>
      obtain ⟨j, hj, rfl, rfl⟩ := hrel
      have hsf := soFar_len HO.out y j
      rw [← HN.out] at hsf
      by_cases hlt : j < (F.kids y).length
      · have hsf2 := soFar_len HO.out y (j + 1)
        rw [soFar_succ F h y j hlt, List.length_append, ← HN.out] at hsf2
        have hky := HO.out.ht _ _ ((HO.out.mem y _).1 (List.getElem_mem hlt))
        have hkz := szAt_kid HO.out HSz.out hlt
        have hk1 := kids_len HO.out (F.kids y)[j]
        have h0 : (F.all h (F.kids y)[j])[0]? = some (F.kids y)[j] := by rw [F.all_eq HO.out (F.kids y)[j]]; rfl
        obtain ⟨x2, hx2, hx2s⟩ := hkz 0 _ h0
        have HNx : Hid ((soFar F h y (j + 1)).length = (soFar F h y j).length + (F.all h (F.kids y)[j]).length) := by rw [Hid, soFar_succ F h y j hlt, List.length_append]
        obtain ⟨m, hm⟩ : ∃ m, m = (soFar F h y j).length := ⟨_, rfl⟩
        obtain ⟨z, hz⟩ : ∃ z, z = (F.kids y)[j] := ⟨_, rfl⟩
        rw [← hm] at hsf2 hkz hx2 HNx
        rw [← hz] at hsf2 hkz HNx
        rw [← hz] at hky hk1 hx2s
        rw [← hm] at hsf ⊢
        obtain ⟨r, hr⟩ : ∃ r, r = (F.all h z).length := ⟨_, rfl⟩
        rw [← hr] at hsf2 hk1 hx2s HNx
        rw [Nat.add_zero] at hx2
        have hkt : i + 1 + m < A.length := (List.getElem?_eq_some_iff.1 hx2).1
        obtain ⟨-, -, -, -, g5, -⟩ := HC.out (i + 1 + m) hkt
        rw [List.getElem?_eq_getElem hkt] at hx2
        injection hx2 with hx2
        rw [hx2, hx2s] at g5
        have HCall := Lib.hid (HI.out z (i + 1 + m) (i + n) (deep - 1) ((i + 1 + m : Nat) : Int) ((i : Int) + (n : Int)) ((deep : Int) - 1) _ rfl (by omega) (by omega) (by omega) (by omega) (by omega) hkz (by rw [← hr]; omega) (by omega) HH.out)
        have HM := Lib.hid hm
        have hd1 : 1 ≤ deep := by omega
        clear hkz hx2 hx2s h0 hky hz hm hr
        go_wp2_with fail
        refine HCall.out.mono ?_
        rintro e w1 ⟨rfl, rfl⟩
        go_wp2_with fail
        go_roundw
        case rel => exact ⟨j + 1, by omega, by rw [HNx.out]; go_num, by trivial⟩
        case measure => simp [intOf]; omega
      · have e : j = (F.kids y).length := by omega
        subst e
        have hend : n = 1 + (soFar F h y (F.kids y).length).length := by rw [HN.out, ← soFar_end HO.out y, List.length_cons]; omega
        go_wp2_with fail
        go_ret
        exact ⟨rfl, rfl⟩
end Go.Proofs.Ytmhhfljbocbolaa

namespace Go.Proofs.Ytmhhfljbocbolaa
open Go.RowKit
set_option linter.unusedVariables false

set_option maxRecDepth 100000 in
set_option maxHeartbeats 2000000 in
theorem told7_yes (ad : Option Addr) (n c : Nat) (a : Option Addr) (m c1 : Nat) (a2 : Option Addr) (c2 : Nat) (w : World)
    (hS : Calls Try.prog 37 #[.slice a m c1] w (fun e w' => e = .returned (.bool true) ∧ Below w.heap.size w w')) :
    Calls Try.prog 20 #[.slice ad n c, .slice a m c1, .slice a2 n c2, .bool true] w (fun e w' => e = .returned (.bool true) ∧ Below w.heap.size w w') := by
  have H := Lib.hid hS
  clear hS
  have e : ((n : Int) == (n : Int)) = true := beq_iff_eq.2 rfl
  go_enter Try.func20, Try.ntmps20
  go_wp2_with fail
  refine H.out.mono ?_
  rintro e w1 ⟨rfl, hb⟩
  have HB := Lib.hid hb
  clear hb
  go_wp2_with fail
  go_ret
  exact ⟨by trivial, HB.out⟩
end Go.Proofs.Ytmhhfljbocbolaa

namespace Go.Proofs.Ytmhhfljbocbolaa
set_option linter.unusedVariables false

theorem flat_at {f : Nat → List Nat} : ∀ (l : List Nat) (i z : Nat), (l.flatMap f)[i]? = some z → ∃ l1 c l2 i2, l = l1 ++ c :: l2 ∧ i = (l1.flatMap f).length + i2 ∧ (f c)[i2]? = some z := by
  intro l
  induction l with
  | nil => intro i z h; simp at h
  | cons c l ih =>
    intro i z h
    rw [List.flatMap_cons] at h
    by_cases hlt : i < (f c).length
    · rw [List.getElem?_append_left hlt] at h
      exact ⟨[], c, l, i, rfl, by simp, h⟩
    · rw [List.getElem?_append_right (by omega)] at h
      obtain ⟨l1, c2, l2, i2, e1, e2, e3⟩ := ih _ _ h
      refine ⟨c :: l1, c2, l2, i2, by rw [e1]; rfl, ?_, e3⟩
      rw [List.flatMap_cons, List.length_append]; omega

theorem all_sub_at {F : Fo} {S : Nat → Prop} {h : Nat → Nat} (o : F.Ok S h) : ∀ (d y i z : Nat), h y < d → (F.all h y)[i]? = some z → ∀ q u, (F.all h z)[q]? = some u → (F.all h y)[i + q]? = some u := by
  intro d
  induction d with
  | zero => intro y i z hd; omega
  | succ d ih =>
    intro y i z hd hz q u hu
    cases i with
    | zero =>
      have e : z = y := by rw [F.all_eq o y] at hz; simpa using hz.symm
      rw [e] at hu; rw [Nat.zero_add]; exact hu
    | succ i =>
      rw [F.all_eq o y, List.getElem?_cons_succ] at hz
      obtain ⟨l1, c, l2, i2, e1, e2, e3⟩ := flat_at _ _ _ hz
      have hc : c ∈ F.kids y := by rw [e1]; simp
      have hh := o.ht _ _ ((o.mem y c).1 hc)
      have h1 := ih c i2 z (by omega) e3 q u hu
      have hlt := (List.getElem?_eq_some_iff.1 h1).1
      have e4 : i + 1 + q = i + q + 1 := by omega
      rw [F.all_eq o y, e4, List.getElem?_cons_succ, e1, List.flatMap_append, List.flatMap_cons, List.getElem?_append_right (by omega)]
      have e5 : i + q - (l1.flatMap (F.all h)).length = i2 + q := by omega
      rw [e5, List.getElem?_append_left hlt]; exact h1

theorem all_fits {F : Fo} {S : Nat → Prop} {h : Nat → Nat} (o : F.Ok S h) {y i z : Nat} (hz : (F.all h y)[i]? = some z) : 1 ≤ (F.all h z).length ∧ i + (F.all h z).length ≤ (F.all h y).length := by
  have h1 := kids_len o z
  have hl : (F.all h z).length - 1 < (F.all h z).length := by omega
  have h2 := all_sub_at o _ y i z (Nat.lt_succ_self _) hz _ _ (List.getElem?_eq_getElem hl)
  have := (List.getElem?_eq_some_iff.1 h2).1
  omega
end Go.Proofs.Ytmhhfljbocbolaa

namespace Go.Proofs.Ytmhhfljbocbolaa
open Go.RowKit
set_option linter.unusedVariables false

structure Shp (A : List Nd) : Prop where
  pos : 0 < A.length
  root : A[0]!.kind = 1 ∧ A[0]!.size = A.length
  size : ∀ i (h : i < A.length), 1 ≤ A[i].size ∧ A[i].size ≤ (A.length : Int) - i
  kind : ∀ i (h : i < A.length), 1 ≤ A[i].kind ∧ A[i].kind ≤ 5 ∧ (0 < i → A[i].kind ≠ 1)
  leaf : ∀ i (h : i < A.length), 1 < A[i].size → A[i].kind = 1 ∨ A[i].kind = 3

set_option maxRecDepth 100000 in
set_option maxHeartbeats 2000000 in
theorem shaped_yes {F : Fo} {S : Nat → Prop} {h : Nat → Nat} (o : F.Ok S h) {nd : Nat → Nd} (A : List Nd) (hA : A.length ≤ 100000) (hs : A.map strip = outL F h nd 0) (hh : h 0 < 2000) (hp : Shp A) (a : Option Addr) (c : Nat) (w : World) (hM : NSl w w.heap.size a A) :
    Calls Try.prog 37 #[.slice a A.length c] w (fun e w' => e = .returned (.bool true) ∧ Below w.heap.size w w') := by
  obtain ⟨b, off, rfl, hbB, hc⟩ := hM.at_ hp.pos
  obtain ⟨g1, -, -, -, g5, -⟩ := hc 0 hp.pos
  have r := hp.root
  have e0 : A[0]! = A[0]'hp.pos := by simp [hp.pos]
  rw [e0] at r
  rw [r.1] at g1
  rw [r.2] at g5
  rw [Nat.zero_mul, Nat.add_zero] at g1 g5
  have hl : (F.all h 0).length = A.length := by have := congrArg List.length hs; unfold outL at this; simpa using this.symm
  have HSz := Lib.hid (fun W hW => sized_yes o A hA (some ⟨b, off, none⟩) c 2000 0 0 A.length 2000 0 A.length 2000 W rfl rfl rfl hh hh (by omega) (szAt_root hs) (by omega) (Nat.le_refl _) hW)
  have HM := Lib.hid hM
  have HP := Lib.hid hp
  have HC := Lib.hid hc
  have hpos := hp.pos
  have k0 : ((A.length : Int) == 0) = false := beq_eq_false_iff_ne.2 (by omega)
  clear hc hM hp e0 r hl hs
  go_enter Try.func37, Try.ntmps37
  go_wp2_with fail
  go_loopw [3] (fun v wr => ∃ i : Nat, i ≤ A.length ∧ v = .int .i64 i ∧ Below w.heap.size w wr) (fun v _ => A.length - (intOf v).toNat)
  case atStart => exact ⟨0, Nat.zero_le _, rfl, Below.refl _ _⟩
  case round =>
    obtain ⟨i, hi, rfl, hb⟩ := hrel
    have HB := Lib.hid hb
    by_cases hlt : i < A.length
    · obtain ⟨q1, q2, q3, q4, q5, -⟩ := HC.out i hlt
      have p : ∀ {j v}, w.cell? ⟨b, j, none⟩ = some v → wr.cell? ⟨b, j, none⟩ = some v := fun h => (hb.cell (p := ⟨b, _, none⟩) hbB).trans h
      replace q1 := p q1
      replace q2 := p q2
      replace q3 := p q3
      replace q4 := p q4
      replace q5 := p q5
      have z1 := HP.out.size i hlt
      have z2 := HP.out.kind i hlt
      have z3 := HP.out.leaf i hlt
      obtain ⟨x, hx⟩ : ∃ x, x = A[i] := ⟨_, rfl⟩
      rw [← hx] at q1 q2 q3 q4 q5 z1 z2 z3
      clear hx p hb
      have a1 : ¬ (x.size < 1) := by omega
      have a2 : ¬ ((A.length : Int) - (i : Int) < x.size) := by omega
      have a3 : ¬ (x.kind < 1) := by omega
      have a4 : ¬ (5 < x.kind) := by omega
      have HRel : Hid (∀ W, Below wr.heap.size wr W → Below w.heap.size w W) := fun W hW => HB.out.trans (hW.mono HB.out.size)
      have key : ((0 : Int) < (i : Int) ∧ (x.kind == 1) = false) ∨ ¬ ((0 : Int) < (i : Int)) := by
        by_cases h0 : 0 < i
        · exact .inl ⟨by omega, beq_eq_false_iff_ne.2 (z2.2.2 h0)⟩
        · exact .inr (by omega)
      have key2 : ¬ (1 < x.size) ∨ (1 < x.size ∧ (x.kind != 1) = false) ∨ (1 < x.size ∧ (x.kind != 1) = true ∧ (x.kind != 3) = false) := by
        by_cases h1 : 1 < x.size
        · rcases z3 h1 with h2 | h2
          · exact .inr (.inl ⟨h1, by simp [h2]⟩)
          · exact .inr (.inr ⟨h1, by simp [h2], by simp [h2]⟩)
        · exact .inl h1
      clear z1 z2 z3
      rcases key with ⟨b1, b2⟩ | b1 <;> rcases key2 with d1 | ⟨d1, d2⟩ | ⟨d1, d2, d3⟩
      all_goals
        go_wp2_with fail
        go_roundw
        case rel => exact ⟨i + 1, by omega, by go_num, HRel.out _ ((Below.refl _ _).alloc (Nat.le_refl _) _)⟩
        case measure => simp [intOf]; omega
    · go_wp2_with fail
      refine (HSz.out _ (HM.out.up HB.out)).mono ?_
      rintro e w2 ⟨rfl, rfl⟩
      go_wp2_with fail
      go_ret
      exact ⟨rfl, HB.out⟩
end Go.Proofs.Ytmhhfljbocbolaa

namespace Go.Proofs.Ytmhhfljbocbolaa
open Go.RowKit
set_option linter.unusedVariables false

/-- A listing is shaped where the kinds fit. -/
theorem shp_of {F : Fo} {S : Nat → Prop} {h : Nat → Nat} (o : F.Ok S h) {nd : Nat → Nd} {A : List Nd} (hs : A.map strip = outL F h nd 0) (h0 : (nd 0).kind = 1)
    (hk : ∀ y ∈ F.all h 0, 1 ≤ (nd y).kind ∧ (nd y).kind ≤ 5 ∧ (y ≠ 0 → (nd y).kind ≠ 1)) (hl : ∀ y ∈ F.all h 0, F.kids y ≠ [] → (nd y).kind = 1 ∨ (nd y).kind = 3) : Shp A := by
  have hlen : A.length = (F.all h 0).length := by have := congrArg List.length hs; unfold outL at this; simpa using this
  have hat : ∀ i (hi : i < A.length), ∃ z, (F.all h 0)[i]? = some z ∧ A[i].kind = (nd z).kind ∧ A[i].size = ((F.all h z).length : Int) := by
    intro i hi
    have hz : (F.all h 0)[i]? = some ((F.all h 0)[i]'(by omega)) := List.getElem?_eq_getElem _
    refine ⟨_, hz, ?_⟩
    have h1 := congrArg (fun l => l[i]?) hs
    unfold outL at h1
    simp only [List.getElem?_map, hz, Option.map_some, List.getElem?_eq_getElem hi, Option.some.injEq] at h1
    exact ⟨show (strip A[i]).kind = _ by rw [h1]; rfl, show (strip A[i]).size = _ by rw [h1]; rfl⟩
  have hp : 0 < A.length := by rw [hlen, F.all_eq o 0]; simp
  have hn := Fo.all_nodup o _ 0 (Nat.le_refl _)
  have hz0 : (F.all h 0)[0]? = some 0 := by rw [F.all_eq o 0]; rfl
  refine ⟨hp, ?_, fun i hi => ?_, fun i hi => ?_, fun i hi hs1 => ?_⟩
  · obtain ⟨z, hz, e1, e2⟩ := hat 0 hp
    rw [hz0] at hz
    injection hz with hz
    subst hz
    have e0 : A[0]! = A[0]'hp := by simp [hp]
    rw [e0, e1, e2, hlen]
    exact ⟨h0, rfl⟩
  · obtain ⟨z, hz, e1, e2⟩ := hat i hi
    have := all_fits o hz
    rw [e2, hlen]; omega
  · obtain ⟨z, hz, e1, e2⟩ := hat i hi
    obtain ⟨k1, k2, k3⟩ := hk z (List.mem_of_getElem? hz)
    rw [e1]
    refine ⟨k1, k2, fun hpos => k3 fun e => ?_⟩
    subst e
    have := (List.getElem?_inj (i := i) (j := 0) (by rw [← hlen]; exact hi) hn).1 (hz.trans hz0.symm)
    omega
  · obtain ⟨z, hz, e1, e2⟩ := hat i hi
    rw [e2] at hs1
    rw [e1]
    refine hl z (List.mem_of_getElem? hz) fun e => ?_
    rw [F.all_eq o z, e] at hs1
    simp at hs1

theorem ndT_kind {t : List Nd} (hR : RightP t) {i : Nat} (hi : i < t.length) : 1 ≤ (ndT t i).kind ∧ (ndT t i).kind ≤ 5 ∧ (i ≠ 0 → (ndT t i).kind ≠ 1) := by
  have e : ndT t i = t[i] := getD_at hi
  have n := hR.node i hi
  rw [e]
  rcases n.kinds with h | h | h | h <;> omega

theorem ndT_leaf {t : List Nd} (hR : RightP t) {i : Nat} (hi : i < t.length) (hk : (fo0 t).kids i ≠ []) : (ndT t i).kind = 1 ∨ (ndT t i).kind = 3 := by
  have e : ndT t i = t[i] := getD_at hi
  have n := hR.node i hi
  rw [e]
  have h1 : t[i].size = 1 → False := fun hs => by
    have a1 := fo0_all hR _ i (Nat.le_refl _) hi
    have e2 : t[i].size = (sz t i : Int) := size_at hi (hR.lam i (Nat.zero_le _) hi).1
    have e3 : sz t i = 1 := by omega
    rw [e3, Fo.all_eq (fo0_ok hR)] at a1
    have h2 := congrArg List.length a1
    simp only [List.length_cons, List.length_range', Nat.add_eq_right] at h2
    have h3 := List.eq_nil_of_length_eq_zero h2
    cases hq : (fo0 t).kids i with
    | nil => exact hk hq
    | cons a l =>
      rw [hq, List.flatMap_cons, Fo.all_eq (fo0_ok hR)] at h3
      simp at h3
  rcases n.kinds with h | h | h | h
  · exact .inl h.1
  · exact (h1 h.2.1).elim
  · exact .inr h.1
  · exact (h1 h.2).elim

theorem shp_clear {t : List Nd} (hR : RightP t) (ms : List Nat) {A : List Nd} (hs : A.map strip = outL (clearAll (fo0 t) ms) (sz t) (ndT t) 0) : Shp A := by
  have o := fo0_ok hR
  have oc := clearAll_ok o ms
  have hm : ∀ y ∈ (clearAll (fo0 t) ms).all (sz t) 0, y < t.length := fun y hy => oc.all_mem (S := fun i => i < t.length) hR.pos hy
  refine shp_of oc hs hR.root (fun y hy => ndT_kind hR (hm y hy)) (fun y hy hk => ndT_leaf hR (hm y hy) fun e => hk ?_)
  rw [(clearAll_facts ms o y).2, e]; split <;> rfl

theorem len_outL {F : Fo} {h : Nat → Nat} {nd : Nat → Nd} {A : List Nd} (hs : A.map strip = outL F h nd 0) : A.length = (F.all h 0).length := by
  have := congrArg List.length hs; unfold outL at this; simpa using this

theorem flat_eq {t : List Nd} {ms : List Nat} (hms : ∀ m ∈ ms, m < t.length) : ms.flatMap (kidsL t) = ms.flatMap (fo0 t).kids := by
  induction ms with
  | nil => rfl
  | cons m ms ih => rw [List.flatMap_cons, List.flatMap_cons, ih (fun m hm => hms m (List.mem_cons_of_mem _ hm)), fo0_kids (hms m List.mem_cons_self)]

/-- The children of some nodes of a tree: places of it, each once. -/
theorem flat_ord {t : List Nd} (hR : RightP t) {ms : List Nat} (hms : ∀ m ∈ ms, m < t.length) (hn : ms.Nodup) : OrdP t.length (toI (ms.flatMap (kidsL t))) (ms.flatMap (kidsL t)) := by
  rw [flat_eq hms]
  refine ⟨rfl, fun k hk => ?_, flat_nodup (fo0_ok hR) hn⟩
  obtain ⟨m, hm, h2⟩ := List.mem_flatMap.1 hk
  exact ((fo0_ok hR).dom _ _ (((fo0_ok hR).mem m k).1 h2)).2

def EmLoop (t : List Nd) (ms : List Nat) (B : Nat) (W : World) (v x : Value) (wr : World) : Prop :=
  ∃ (k : Nat) (a1 : Option Addr) (c1 : Nat), k ≤ ms.length ∧ x = .int .i64 k ∧ v = .slice a1 (toI ((ms.take k).flatMap (kidsL t))).length c1 ∧ wr.ownsRow B 3 1 v (toI ((ms.take k).flatMap (kidsL t))).length (ivs (toI ((ms.take k).flatMap (kidsL t)))) ∧ Below W.heap.size W wr
end Go.Proofs.Ytmhhfljbocbolaa

namespace Go.Proofs.Ytmhhfljbocbolaa
set_option linter.unusedVariables false

/-- G is F with the nodes of ws moved elsewhere. -/
structure Mv (n : Nat) (F G : Fo) (h hG : Nat → Nat) (ws : List Nat) : Prop where
  ok : F.Ok (fun i => i < n) h
  okG : G.Ok (fun i => i < n) hG
  lt : ∀ w ∈ ws, w < n
  sub : ∀ w ∈ ws, ∀ y, F.Up w y → G.kids y = F.kids y
  kids : ∀ y, (G.kids y).filter (fun c => !decide (c ∈ ws)) = (F.kids y).filter fun c => !decide (c ∈ ws)
  top : ∀ y, y < n → G.Up 0 y
  pos : 0 < n

def Free (F : Fo) (ws : List Nat) (y : Nat) : Prop := ∀ w ∈ ws, ¬ F.Up w y

open Classical in
noncomputable def freeB (F : Fo) (ws : List Nat) (y : Nat) : Bool := decide (Free F ws y)
theorem freeB_iff {F : Fo} {ws : List Nat} {y : Nat} : freeB F ws y = true ↔ Free F ws y := by simp [freeB]
theorem freeB_not {F : Fo} {ws : List Nat} {y : Nat} : freeB F ws y = false ↔ ¬ Free F ws y := by simp [freeB]

theorem lst_mem {F : Fo} (hm : ∀ p c, c ∈ F.kids p → F.par c = some p) : ∀ (d y z : Nat), z ∈ F.lst d y → F.Up y z := by
  intro d
  induction d with
  | zero => intro y z hz; have : z = y := by simpa [Fo.lst] using hz
            rw [this]; exact .self
  | succ d ih =>
    intro y z hz
    rcases List.mem_cons.1 (show z ∈ y :: (F.kids y).flatMap (F.lst d) from hz) with rfl | hz
    · exact .self
    · obtain ⟨c, hc, hz⟩ := List.mem_flatMap.1 hz
      exact up_above (hm y c hc) (ih c z hz)

theorem flatMap_filter_out {g : Nat → List Nat} {q : Nat → Bool} : ∀ (l : List Nat), (∀ c ∈ l, q c = false → g c = []) → l.flatMap g = (l.filter q).flatMap g := by
  intro l
  induction l with
  | nil => intro _; rfl
  | cons a l ih =>
    intro h
    have h1 := ih fun c hc => h c (List.mem_cons_of_mem _ hc)
    rw [List.filter_cons, List.flatMap_cons]
    cases e : q a
    · rw [h a List.mem_cons_self e]; simpa using h1
    · simp [h1]

section
variable {n : Nat} {F G : Fo} {h hG : Nat → Nat} {ws : List Nat}

/-- Beneath a moved node all is as it was. -/
theorem Mv.all_eq (M : Mv n F G h hG ws) {w : Nat} (hw : w ∈ ws) {y : Nat} (hy : F.Up w y) : G.all hG y = F.all h y := by
  have e1 : G.all hG y = G.lst (hG y + h y) y := G.lst_fuel M.okG _ _ _ (Nat.le_refl _) (by omega)
  have e2 : F.all h y = F.lst (hG y + h y) y := F.lst_fuel M.ok _ _ _ (Nat.le_refl _) (by omega)
  rw [e1, e2]
  exact lst_up (fun p c => (M.ok.mem p c).1) _ _ fun z hz => M.sub w hw z (hy.tr hz)

theorem Mv.lst_free (M : Mv n F G h hG ws) : ∀ (d y : Nat), Free F ws y → (G.lst d y).filter (freeB F ws) = (F.lst d y).filter (freeB F ws) := by
  intro d
  induction d with
  | zero => intro y _; rfl
  | succ d ih =>
    intro y hy
    show (y :: (G.kids y).flatMap (G.lst d)).filter _ = (y :: (F.kids y).flatMap (F.lst d)).filter _
    rw [List.filter_cons, List.filter_cons, freeB_iff.2 hy]
    simp only [if_true]
    congr 1
    rw [List.filter_flatMap, List.filter_flatMap]
    have hout : ∀ (H : Fo), (∀ w ∈ ws, H.lst d w = F.lst d w) → ∀ c, (!decide (c ∈ ws)) = false → (H.lst d c).filter (freeB F ws) = [] := by
      intro H hH c hc
      have hcw : c ∈ ws := by simpa using hc
      rw [hH c hcw, List.filter_eq_nil_iff]
      intro z hz
      have u := lst_mem (fun p c => (M.ok.mem p c).1) d c z hz
      have : freeB F ws z = false := freeB_not.2 fun hf => hf c hcw u
      simp [this]
    have hGw : ∀ w ∈ ws, G.lst d w = F.lst d w := fun w hw => lst_up (fun p c => (M.ok.mem p c).1) d w fun z hz => M.sub w hw z hz
    rw [flatMap_filter_out (q := fun c => !decide (c ∈ ws)) (G.kids y) (fun c _ hc => hout G hGw c hc), flatMap_filter_out (q := fun c => !decide (c ∈ ws)) (F.kids y) (fun c _ hc => hout F (fun _ _ => rfl) c hc), M.kids y]
    have key : ∀ l : List Nat, (∀ c ∈ l, c ∈ F.kids y ∧ c ∉ ws) → l.flatMap (fun c => (G.lst d c).filter (freeB F ws)) = l.flatMap fun c => (F.lst d c).filter (freeB F ws) := by
      intro l
      induction l with
      | nil => intro _; rfl
      | cons a l ihl =>
        intro hl
        obtain ⟨h1, h2⟩ := hl a List.mem_cons_self
        rw [List.flatMap_cons, List.flatMap_cons, ihl fun c hc => hl c (List.mem_cons_of_mem _ hc), ih a fun w hw u => ?_]
        cases u with
        | self => exact h2 hw
        | step h3 h4 => rw [(M.ok.mem y a).1 h1] at h3; cases h3; exact hy w hw h4
    exact key _ fun c hc => ⟨(List.mem_filter.1 hc).1, by simpa using (List.mem_filter.1 hc).2⟩

theorem Mv.filter (M : Mv n F G h hG ws) (h0 : Free F ws 0) : (G.all hG 0).filter (freeB F ws) = (F.all h 0).filter (freeB F ws) := by
  have e1 : G.all hG 0 = G.lst (hG 0 + h 0) 0 := G.lst_fuel M.okG _ _ _ (Nat.le_refl _) (by omega)
  have e2 : F.all h 0 = F.lst (hG 0 + h 0) 0 := F.lst_fuel M.ok _ _ _ (Nat.le_refl _) (by omega)
  rw [e1, e2]
  exact M.lst_free _ _ h0

theorem Mv.mem (M : Mv n F G h hG ws) {y : Nat} : y ∈ G.all hG 0 ↔ y < n :=
  ⟨fun hy => M.okG.all_mem (S := fun i => i < n) M.pos hy, fun hy => (G.all_up M.okG _ 0 (Nat.le_refl _) y).2 (M.top y hy)⟩

theorem Mv.len (M : Mv n F G h hG ws) : (G.all hG 0).length = n := by
  have hn := G.all_nodup M.okG _ 0 (Nat.le_refl _)
  have hp : (G.all hG 0).Perm (List.range n) := by
    rw [List.perm_ext_iff_of_nodup hn List.nodup_range]
    intro a; rw [M.mem, List.mem_range]
  rw [hp.length_eq, List.length_range]

/-- Where a node is listed. -/
theorem Mv.at_ (M : Mv n F G h hG ws) {y : Nat} (hy : y < n) : placeL G hG n = placeL G hG n ∧ ∃ a, a < n ∧ (G.all hG 0)[a]? = some y ∧ (placeL G hG n)[y]? = some (a : Int) := by
  refine ⟨rfl, (G.all hG 0).idxOf y, ?_, ?_, ?_⟩
  · have := List.idxOf_lt_length_iff.2 (M.mem.2 hy); rw [M.len] at this; exact this
  · rw [List.getElem?_eq_getElem (List.idxOf_lt_length_iff.2 (M.mem.2 hy)), List.getElem_idxOf]
  · unfold placeL
    rw [List.getElem?_map, List.getElem?_range hy]
    simp only [Option.map_some, atF, if_pos (M.mem.2 hy), Nat.zero_add]

theorem Mv.order (M : Mv n F G h hG ws) (hF : F.all h 0 = List.range' 0 n) (h0 : Free F ws 0) {i j a b : Nat} (hij : i < j) (hi : Free F ws i) (hj : Free F ws j) (ha : (G.all hG 0)[a]? = some i) (hb : (G.all hG 0)[b]? = some j) : a < b := by
  have hp : (G.all hG 0).Pairwise fun x y => freeB F ws x = true → freeB F ws y = true → x < y := by
    rw [← List.pairwise_filter, M.filter h0, hF]
    exact List.Pairwise.filter _ (List.pairwise_lt_range' ..)
  rcases Nat.lt_trichotomy a b with h1 | h1 | h1
  · exact h1
  · subst h1; rw [ha] at hb; cases hb; omega
  · obtain ⟨hla, ea⟩ := List.getElem?_eq_some_iff.1 ha
    obtain ⟨hlb, eb⟩ := List.getElem?_eq_some_iff.1 hb
    have := List.pairwise_iff_getElem.1 hp b a hlb hla h1
    rw [ea, eb] at this
    have := this (freeB_iff.2 hj) (freeB_iff.2 hi)
    omega

theorem Mv.inside (M : Mv n F G h hG ws) {w q u a : Nat} (hw : w ∈ ws) (ha : (G.all hG 0)[a]? = some w) (hq : (F.all h w)[q]? = some u) : (G.all hG 0)[a + q]? = some u :=
  all_sub_at M.okG _ 0 a w (Nat.lt_succ_self _) ha q u (by rw [M.all_eq hw .self]; exact hq)
end

/-- Another depth: how many stand beneath. -/
theorem len_ok {F : Fo} {S : Nat → Prop} {h : Nat → Nat} (o : F.Ok S h) : F.Ok S (fun y => (F.all h y).length) := by
  refine ⟨o.nodup, o.mem, o.dom, fun p c hc => ?_⟩
  show (F.all h c).length < (F.all h p).length
  rw [F.all_eq o p, List.length_cons]
  obtain ⟨l1, l2, e⟩ := List.append_of_mem ((o.mem p c).2 hc)
  rw [e, List.flatMap_append, List.flatMap_cons, List.length_append, List.length_append]
  omega
end Go.Proofs.Ytmhhfljbocbolaa

namespace Go.Proofs.Ytmhhfljbocbolaa
set_option linter.unusedVariables false

theorem insE_one (op : Int) (t : List Nd) (x : Nat) (ws : List Nat) : insE op t [x] ws = insOne op true ⟨fo0 t, t.length, ndT t, false⟩ x ws := rfl

theorem up_zero {t : List Nd} (hR : RightP t) {y : Nat} (hy : y < t.length) : (fo0 t).Up 0 y := by
  refine ((fo0 t).all_up (fo0_ok hR) _ 0 (Nat.le_refl _) y).1 ?_
  rw [fo0_all hR _ 0 (Nat.le_refl _) hR.pos, hR.top, List.mem_range']
  exact ⟨y, hy, by omega⟩

theorem ins_mv {t : List Nd} (hR : RightP t) {op : Int} (hop : op = 1 ∨ op = 2 ∨ op = 4) {l l2 : List Int} {x : Nat} {ws : List Nat} (hP : InsP t.length (fo0 t) (ndT t) op l l2 [x] ws) :
    (∃ hG, Mv t.length (fo0 t) (insE op t [x] ws).F (sz t) hG ws) ∧ (insE op t [x] ws).N = t.length ∧ (insE op t [x] ws).nd = ndT t ∧ (insE op t [x] ws).op = false ∧ Free (fo0 t) ws x ∧ Free (fo0 t) ws 0 ∧
      ∀ y, (insE op t [x] ws).F.kids y ≠ [] → (fo0 t).kids y ≠ [] ∨ (y = x ∧ op ≠ 4) := by
  have o := fo0_ok hR
  obtain ⟨h', ok', -, -, -⟩ := ins_final hR hop hP
  obtain ⟨hx, hne, hw, hwe, hA, hk, hp⟩ := hP
  have hxn : x < t.length := (hx.rng x (by simp)).2
  have hwn : ∀ w ∈ ws, w < t.length := fun w h => (hw.rng w h).2
  have hfx : Free (fo0 t) ws x := fun w hm u => by
    obtain ⟨i, hi, rfl⟩ := List.getElem_of_mem hm
    exact hA.2 i 0 hi (by simp) u
  have hf0 : Free (fo0 t) ws 0 := fun w hm u => by
    have h1 := (hw.rng w hm).1
    rcases u.ht o with e | e
    · omega
    · have h2 := (up_zero hR (hwn w hm)).ht o
      rcases h2 with e2 | e2 <;> omega
  have T := innT (s := ⟨fo0 t, t.length, ndT t, false⟩) o ws
  obtain ⟨a, hA2⟩ : ∃ a, a = innS true ⟨fo0 t, t.length, ndT t, false⟩ ws := ⟨_, rfl⟩
  have hE : insE op t [x] ws = a.row (kpar op a.F x) (kpos op a.F x (kpar op a.F x)) ws := by rw [insE_one, hA2]; rfl
  rw [← hA2] at T
  have hxw : x ∉ ws := fun hm => hfx x hm .self
  have hpar : a.F.par x = (fo0 t).par x := by rw [T.par, if_neg hxw]
  obtain ⟨p, hpd⟩ : ∃ p, p = kpar op a.F x := ⟨_, rfl⟩
  obtain ⟨k, hkd⟩ : ∃ k, k = kpos op a.F x p := ⟨_, rfl⟩
  rw [← hpd, ← hkd] at hE
  have hpx : p = x ∧ op ≠ 4 ∨ (fo0 t).par x = some p := by
    unfold kpar at hpd
    by_cases e : op = 4
    · rw [if_pos e, hpar] at hpd
      cases hq : (fo0 t).par x with
      | none => exact absurd hq (hp e x (by simp))
      | some q => rw [hq] at hpd; exact .inr (by rw [hpd]; rfl)
    · rw [if_neg e] at hpd; exact .inl ⟨hpd, e⟩
  have hup : (fo0 t).Up p x := by
    rcases hpx with ⟨rfl, _⟩ | h
    · exact .self
    · exact .step h .self
  have hpf : Free (fo0 t) ws p := fun w hm u => hfx w hm (u.tr hup)
  have hN : (insE op t [x] ws).N = t.length := by rw [hE]; exact T.N
  have hnd : (insE op t [x] ws).nd = ndT t := by rw [hE]; exact T.nd
  have hopf : (insE op t [x] ws).op = false := by rw [hE]; exact T.op
  have gk : ∀ y, y ≠ p → (insE op t [x] ws).F.kids y = ((fo0 t).kids y).filter fun c => !decide (c ∈ ws) := fun y hy => by
    rw [hE]
    show (if y = p then _ else a.F.kids y) = _
    rw [if_neg hy, T.kids]
  have gkp : (insE op t [x] ws).F.kids p = (((fo0 t).kids p).filter fun c => !decide (c ∈ ws)).take k ++ ws ++ (((fo0 t).kids p).filter fun c => !decide (c ∈ ws)).drop k := by
    rw [hE]
    show (if p = p then (a.F.kids p).take k ++ ws ++ (a.F.kids p).drop k else a.F.kids p) = _
    rw [if_pos rfl, T.kids]
  have gpar : ∀ y, (insE op t [x] ws).F.par y = if y ∈ ws then some p else (fo0 t).par y := fun y => by
    rw [hE]
    show (if y ∈ ws then some p else a.F.par y) = _
    by_cases e : y ∈ ws
    · rw [if_pos e, if_pos e]
    · rw [if_neg e, if_neg e, T.par, if_neg e]
  rw [hN] at ok'
  have hfil : ∀ L : List Nat, (L.filter fun c => !decide (c ∈ ws)).filter (fun c => !decide (c ∈ ws)) = L.filter fun c => !decide (c ∈ ws) := fun L => by rw [List.filter_filter]; simp
  have hsub : ∀ w ∈ ws, ∀ y, (fo0 t).Up w y → (insE op t [x] ws).F.kids y = (fo0 t).kids y := fun w hm y u => by
    have hyp : y ≠ p := fun e => hpf w hm (e ▸ u)
    rw [gk y hyp, List.filter_eq_self]
    intro c hc
    have hcp := (o.mem y c).1 hc
    have : c ∉ ws := fun hcw => by
      have hcne : c ≠ w := fun e => by
        subst e
        have h1 := o.ht _ _ hcp
        rcases u.ht o with e | e
        · subst e; omega
        · omega
      obtain ⟨i, hi, rfl⟩ := List.getElem_of_mem hm
      obtain ⟨j, hj, rfl⟩ := List.getElem_of_mem hcw
      exact hA.1 i j hi hj (fun e => hcne (by subst e; rfl)) (.step hcp u)
    simp [this]
  refine ⟨⟨h', o, ok', hwn, hsub, fun y => ?_, fun y hy => ?_, hR.pos⟩, hN, hnd, hopf, hfx, hf0, fun y hy => ?_⟩
  · by_cases e : y = p
    · subst e
      rw [gkp, List.filter_append, List.filter_append]
      have hws : ws.filter (fun c => !decide (c ∈ ws)) = [] := by rw [List.filter_eq_nil_iff]; intro c hc; simp [hc]
      rw [hws, List.append_nil, ← List.filter_append, List.take_append_drop, hfil]
    · rw [gk y e, hfil]
  · -- what is free hangs on the root as it did
    have hfree : ∀ z, z < t.length → Free (fo0 t) ws z → (insE op t [x] ws).F.Up 0 z := fun z hz hf => by
      refine (up_same (F := fo0 t) (fun q hq => ?_) 0).1 (up_zero hR hz)
      rw [gpar, if_neg fun hm => hf q hm hq]
    by_cases hf : Free (fo0 t) ws y
    · exact hfree y hy hf
    · obtain ⟨w, hm, u⟩ : ∃ w, w ∈ ws ∧ (fo0 t).Up w y := by
        refine Classical.byContradiction fun hc => hf fun w hm u => hc ⟨w, hm, u⟩
      have u2 := up_sub o.mem ok'.mem (hsub w hm) u
      have hpn : p < t.length := hup.lt_of o hxn
      have u3 : (insE op t [x] ws).F.Up 0 w := .step (by rw [gpar, if_pos hm]) (hfree p hpn hpf)
      exact u3.tr u2
  · by_cases e : y = p
    · rcases hpx with ⟨e1, e2⟩ | h
      · exact .inr ⟨e.trans e1, e2⟩
      · refine .inl fun hz => ?_
        have := (o.mem p x).2 h
        rw [← e, hz] at this; cases this
    · rw [gk y e] at hy
      exact .inl fun hz => hy (by rw [hz]; rfl)
end Go.Proofs.Ytmhhfljbocbolaa

namespace Go.Proofs.Ytmhhfljbocbolaa
open Go.RowKit
set_option linter.unusedVariables false

theorem own_cap {w : World} {base e size n c : Nat} {a : Option Addr} {xs : List Value} (h : w.ownsRow base e size (.slice a n c) n xs) : n ≤ c := by
  rcases h.2 with ⟨e1, e2⟩ | ⟨g, cap, cur, e1, _, _, hn, _⟩
  · omega
  · injection e1 with _ _ e3; omega

def Ends2Post (F : Fo) (h : Nat → Nat) (nd : Nat → Nd) (n : Nat) (w : World) (e : Ending) (w' : World) : Prop :=
  ∃ a m c a2 m2 c2, e = .returned (.tuple #[.slice a m c, .slice a2 m2 c2]) ∧ OutP F h nd n a m a2 m2 w' ∧ m ≤ c ∧ Below w.heap.size w w'
def Of2Post (F : Fo) (h : Nat → Nat) (nd : Nat → Nd) (n : Nat) (w : World) (e : Ending) (w' : World) : Prop :=
  ∃ a m c a2 m2 c2, e = .returned (.tuple #[.slice a m c, .slice a2 m2 c2, .bool true]) ∧ OutP F h nd n a m a2 m2 w' ∧ m ≤ c ∧ Below w.heap.size w w'

set_option maxRecDepth 100000 in
set_option maxHeartbeats 4000000 in
theorem ends2_any {F : Fo} {S : Nat → Prop} {h : Nat → Nat} (o : F.Ok S h) {nd : Nat → Nd} {B : Nat} {bl : Nat → Nat} {st : Nat → Dn} (hnd : ∀ i, S i → NdG (nd i)) (hnb : ∀ i, S i → NdB (nd i)) {n : Nat} (hpos : 0 < n) (hn : n ≤ 200) (hS : ∀ i, i < n → S i) (hlen : (F.all h 0).length ≤ 100000)
    (w : World) (hP : Prog F S nd B bl st w) (gw L g0 : Nat) (hW : WorldB w gw L n g0) (hL : ∀ j, j < n → w.cell? ⟨L, j, none⟩ = some (.pointer (some ⟨bl j, 0, none⟩))) :
    Calls Try.prog 33 #[.pointer (some ⟨gw, 0, none⟩)] w (Ends2Post F h nd n w) := by
  have HTk := Lib.hid (taken_any o hnd w.heap.size (h 0 + 1) 0 (.slice none 0 0) (.slice none 0 0) [] [] w (by omega) (hS 0 hpos) hP (Nat.le_refl _) (World.ownsRow_nil _ _ _ _) (World.ownsRow_nil _ _ _ _) (by simpa using hlen) (by simpa using hlen) ⟨_, _, rfl⟩ ⟨_, _, rfl⟩)
  have z0 : w.cell? ⟨gw, 0, none⟩ = some (.slice (some ⟨L, 0, none⟩) n n) := cell_of_row w gw 0 _ _ _ hW
  have hgl : gw < w.heap.size := (Array.getElem?_eq_some_iff.1 hW).1
  have g1 := hL 0 hpos
  have hLl : L < w.heap.size := World.block_lt_of_cell? w _ g1
  have HP := Lib.hid hP
  have HO := Lib.hid o
  have HL := Lib.hid hL
  have HMem : Hid (∀ y ∈ F.all h 0, S y) := fun y hy => o.all_mem (hS 0 hpos) hy
  have HS := Lib.hid hS
  have HNb := Lib.hid hnb
  clear hP o hL hW hS hnb hnd
  go_enter Try.func33, Try.ntmps33
  go_wp2_with fail
  refine HTk.out.mono ?_
  rintro e w1 ⟨es, a, c, a2, c2, rfl, hes, hoe, hV, hU, -, -, hT⟩
  simp only [List.nil_append] at hes hoe hV hU ⊢
  have hb1 : Below w.heap.size w w1 := hT.below (Nat.le_refl _) (by intro x hx; simp [Value.ownBlock] at hx) (by intro x hx; simp [Value.ownBlock] at hx)
  have hlr : (List.range n).length = n := List.length_range
  have HPl : Hid (Calls Try.prog 55 #[.slice a2 (F.all h 0).length c2, .slice (some ⟨L, 0, none⟩) n n] w1 (PlacesAtPost (F.all h 0) (List.range n) w1)) := by
    obtain ⟨_, _, hv, _, hr⟩ := RSl.own hU
    cases hv
    have h5 : RSl w1 w1.heap.size (some ⟨L, 0, none⟩) (ptrs bl (List.range n)) := by
      refine .inr ⟨L, 0, rfl, by have := hb1.size; omega, fun i hi => ?_⟩
      have hi2 : i < n := by simpa [ptrs] using hi
      rw [Nat.zero_add, hb1.cell (p := ⟨L, i, none⟩) hLl, HL.out i hi2]
      simp [ptrs]
    have := placesAt_any (HP.out.kept hb1).dom (F.all h 0) HMem.out hlen a2 c2 hr (List.range n) (fun m hm => HS.out m (List.mem_range.1 hm)) (by rw [hlr]; omega) (some ⟨L, 0, none⟩) n h5
    rw [hlr] at this
    exact this
  replace z0 := (hb1.cell (p := ⟨gw, 0, none⟩) hgl).trans z0
  have HB1 := Lib.hid hb1
  have HV := Lib.hid hV
  have HEs := Lib.hid hes
  have HOe := Lib.hid hoe
  have hel : es.length = (F.all h 0).length := by have := congrArg List.length hes; simpa using this
  have HEl := Lib.hid hel
  clear hb1 hV hU hes hoe hT g1 hlr hel
  go_wp2_with fail
  refine HPl.out.mono ?_
  rintro e w2 ⟨a5, c5, rfl, hown, hb2⟩
  have HFin : Hid (Ends2Post F h nd n w (.returned (.tuple #[.slice a es.length c, .slice a5 (List.range n).length c5])) w2) := by
    have hV2 := own_kept HV.out (fun b _ h2 => hb2.block b h2)
    have hO2 : ∀ e ∈ es, OwnE w.heap.size w2 e := fun e he => own_kept (HOe.out e he) (fun b _ h2 => hb2.block b h2)
    obtain ⟨_, _, hv, _, hr⟩ := RSl.own hown
    cases hv
    refine ⟨_, _, _, _, _, _, rfl, ⟨⟨es, rfl, nsl_own hV2 (by have := HEl.out; unfold maxLen; omega) (ent_ok HEs.out (fun y hy => ⟨HNb.out y (HMem.out y hy), Nat.le_trans (all_sub_len HO.out _ (Nat.le_refl _) hy) hlen⟩) hO2), HEs.out⟩, List.length_range, hr⟩, own_cap hV2, bnext HB1.out hb2⟩
  clear hown hb2
  go_wp2_with fail
  go_ret2
  have := HFin.out
  simpa using this

set_option maxRecDepth 100000 in
set_option maxHeartbeats 4000000 in
theorem of2_1 (a : Option Addr) (c : Nat) (t : List Nd) (hR : RightP t) (ad : Option Addr) (c2 : Nat) (l : List Int) (ad3 : Option Addr) (c3 : Nat) (l2 : List Int) (xs ws : List Nat) (hIP : InsP t.length (fo0 t) (ndT t) 1 l l2 xs ws) (hop : (insE 1 t xs ws).op = false) {h' : Nat → Nat} (ok : (insE 1 t xs ws).F.Ok (fun i => i < (insE 1 t xs ws).N) h')
    (hl : l.length ≤ 2147483647) (hl2 : l2.length ≤ 2147483647) (w : World) (h : NSl w w.heap.size a t) (hi : ISl w w.heap.size ad l) (hi2 : ISl w w.heap.size ad3 l2) :
    Calls Try.prog 22 #[.slice a t.length c, .slice ad l.length c2, .slice ad3 l2.length c3] w (Of2Post (insE 1 t xs ws).F h' (insE 1 t xs ws).nd t.length w) := by
  have HSl := Lib.hid (selected_any a c t hR ad c2 l xs hIP.ord.1 hl w h hi)
  have HR := Lib.hid hR
  have HOk := Lib.hid ok
  have HNb : Hid (∀ i, i < t.length → NdB (ndT t i)) := fun i hi => by
    unfold ndT; rw [getD_at hi]
    exact (h.2.1 _ (List.getElem_mem hi)).ndb
  obtain ⟨-, -, k1, k2, k3⟩ := ins_final hR (.inl rfl) hIP
  have HK3 := Lib.hid k3
  have hpos := hR.pos
  have hle := hR.le
  have HThese : Hid (∀ W L bl st, Below w.heap.size w W → L < W.heap.size → Tree t W w.heap.size L bl st → Calls Try.prog 38 #[.slice (some ⟨L, 0, none⟩) t.length t.length, .slice ad3 l2.length c3] W (ThesePost bl ws W)) := fun W L bl st hb hL hT => these_any t hR.le _ L bl st ad3 c3 l2 ws hIP.ord.2 hl2 W hL hT (hi2.up hb)
  have HMan : Hid (∀ W bl st g doc a4 c4 C2, w.heap.size ≤ W.heap.size → Prog (fo0 t) (fun i => i < t.length) (ndT t) w.heap.size bl st W → SelOf bl xs w.heap.size g doc W → W.ownsRow C2 69 1 (.slice a4 ws.length c4) ws.length (ptrs bl ws) → Calls Try.prog 39 #[.pointer (some ⟨g, 0, none⟩), .slice a4 ws.length c4] W (ManPost t.length w.heap.size bl g (insE 1 t xs ws) W)) := fun W bl st g doc a4 c4 C2 hs hP hsel ho =>
    AppendNodes_nodes W g a4 ws.length c4 (man_1 (fun i hi => sz_le hR hi) (fun i hi => ats_small hR hi) hR.le (fun x hx => (hIP.1.rng x hx).2) (fun x hx => (hIP.2.2.1.rng x hx).2) hIP.1.nodup hIP.2.2.1.nodup hIP.2.1 (fun i hi => by obtain ⟨hh, I, _⟩ := ins_inv hR (.inl rfl) hIP i hi; exact ⟨hh, I⟩) hop hP hs _ g doc hsel a4 c4 ho)
  clear hR h hi hi2 hIP ok k3
  go_enter Try.func22, Try.ntmps22
  go_wp2_with fail
  refine HSl.out.mono ?_
  rintro e w1 ⟨L, bl, st, gw, g0, g, doc, rfl, hL, hT, hW, hsel, hgw, hb1⟩
  have HT := Lib.hid hT
  have HW := Lib.hid hW
  have HB1 := Lib.hid hb1
  have HSel := Lib.hid hsel
  have hgl : gw < w1.heap.size := (Array.getElem?_eq_some_iff.1 hW).1
  have z0 : w1.cell? ⟨gw, 0, none⟩ = some (.slice (some ⟨L, 0, none⟩) t.length t.length) := cell_of_row w1 gw 0 _ _ _ hW
  have HTh := Lib.hid (HThese.out w1 L bl st hb1 hL hT)
  clear hT hW hb1 hsel
  go_wp2_with fail
  refine HTh.out.mono ?_
  rintro e w2 ⟨a1, c1, rfl, hown, hb2⟩
  have HB2 := Lib.hid (bnext HB1.out hb2)
  have HT2 := Lib.hid (HT.out.kept hb2)
  have HW2 : Hid (WorldB w2 gw L t.length g0) := (hb2.block gw hgl).trans HW.out
  have HSel2 : Hid (SelOf bl xs w.heap.size g doc w2) := by
    obtain ⟨q1, q2, q3, q4, q5, q6, q7⟩ := HSel.out
    exact ⟨q1, q2, q3, q4.below hb2 q4.lt, q5, own_kept q6 (fun b _ h2 => hb2.block b h2), q7⟩
  have HMn := Lib.hid (HMan.out w2 bl st g doc a1 c1 _ HB2.out.size (HT2.out.prog HR.out) HSel2.out hown)
  clear hown hb2 z0
  go_wp2_with fail
  refine HMn.out.mono ?_
  rintro e w3 ⟨rfl, bl2, st2, hH⟩
  have hP3 := hH.prog
  have hW3 : WorldB w3 gw L t.length g0 := (hH.turn.block gw (Array.getElem?_eq_some_iff.1 HW2.out).1 (fun i hi e => by
    obtain ⟨_, _, _, hh, _⟩ := HT2.out.dom.node i hi
    exact types_ne HW2.out hh (by decide) e)).trans HW2.out
  have hL3 : ∀ j, j < t.length → w3.cell? ⟨L, j, none⟩ = some (.pointer (some ⟨bl2 j, 0, none⟩)) := fun j hj => by
    obtain ⟨cur, h1, h2, h3⟩ := HT2.out.row
    have h4 := hH.turn.block L (Array.getElem?_eq_some_iff.1 h1).1 (fun i hi e => by
      obtain ⟨_, _, _, hh, _⟩ := HT2.out.dom.node i hi
      exact types_ne h1 hh (by decide) e)
    rw [cell_of_row w3 L j _ _ _ (h4.trans h1), h3 j hj, hH.old j hj]; rfl
  have HB3 : Hid (Below w.heap.size w w3) := by
    have h5 := hH.turn.below (B := w.heap.size) HB2.out.size (fun i hi => (HT2.out.dom.node i hi).1)
    exact HB2.out.trans h5
  have hlen : ((insE 1 t xs ws).F.all h' 0).length ≤ 100000 := by
    have := all_bound HOk.out (n := (insE 1 t xs ws).N) (x := 0) (fun i hi => hi) (by omega)
    omega
  have HEn := Lib.hid (ends2_any HOk.out (fun i hi => by obtain ⟨z, hz, e⟩ := HK3.out i hi; rw [e]; exact ndG_of HR.out hz) (fun i hi => by obtain ⟨z, hz, e⟩ := HK3.out i hi; rw [e]; exact HNb.out z hz) hpos hle (fun i hi => by omega) hlen w3 hP3 gw L g0 hW3 hL3)
  clear hP3 hW3 hL3 hH hlen
  go_wp2_with fail
  refine HEn.out.mono ?_
  rintro e w4 ⟨a3, m3, c3', a4, m4, c4, rfl, hOut, hcap, hb3⟩
  have HFin : Hid (Of2Post (insE 1 t xs ws).F h' (insE 1 t xs ws).nd t.length w (.returned (.tuple #[.slice a3 m3 c3', .slice a4 m4 c4, .bool true])) w4) :=
    ⟨_, _, _, _, _, _, rfl, hOut, hcap, bnext HB3.out hb3⟩
  clear hOut hb3 hcap
  go_wp2_with fail
  go_ret3
  exact HFin.out

set_option maxRecDepth 100000 in
set_option maxHeartbeats 4000000 in
theorem of2_4 (a : Option Addr) (c : Nat) (t : List Nd) (hR : RightP t) (ad : Option Addr) (c2 : Nat) (l : List Int) (ad3 : Option Addr) (c3 : Nat) (l2 : List Int) (xs ws : List Nat) (hIP : InsP t.length (fo0 t) (ndT t) 4 l l2 xs ws) (hop : (insE 4 t xs ws).op = false) {h' : Nat → Nat} (ok : (insE 4 t xs ws).F.Ok (fun i => i < (insE 4 t xs ws).N) h')
    (hl : l.length ≤ 2147483647) (hl2 : l2.length ≤ 2147483647) (w : World) (h : NSl w w.heap.size a t) (hi : ISl w w.heap.size ad l) (hi2 : ISl w w.heap.size ad3 l2) :
    Calls Try.prog 24 #[.slice a t.length c, .slice ad l.length c2, .slice ad3 l2.length c3] w (Of2Post (insE 4 t xs ws).F h' (insE 4 t xs ws).nd t.length w) := by
  have HSl := Lib.hid (selected_any a c t hR ad c2 l xs hIP.ord.1 hl w h hi)
  have HR := Lib.hid hR
  have HOk := Lib.hid ok
  have HNb : Hid (∀ i, i < t.length → NdB (ndT t i)) := fun i hi => by
    unfold ndT; rw [getD_at hi]
    exact (h.2.1 _ (List.getElem_mem hi)).ndb
  obtain ⟨-, -, k1, k2, k3⟩ := ins_final hR (.inr (.inr rfl)) hIP
  have HK3 := Lib.hid k3
  have hpos := hR.pos
  have hle := hR.le
  have HThese : Hid (∀ W L bl st, Below w.heap.size w W → L < W.heap.size → Tree t W w.heap.size L bl st → Calls Try.prog 38 #[.slice (some ⟨L, 0, none⟩) t.length t.length, .slice ad3 l2.length c3] W (ThesePost bl ws W)) := fun W L bl st hb hL hT => these_any t hR.le _ L bl st ad3 c3 l2 ws hIP.ord.2 hl2 W hL hT (hi2.up hb)
  have HMan : Hid (∀ W bl st g doc a4 c4 C2, w.heap.size ≤ W.heap.size → Prog (fo0 t) (fun i => i < t.length) (ndT t) w.heap.size bl st W → SelOf bl xs w.heap.size g doc W → W.ownsRow C2 69 1 (.slice a4 ws.length c4) ws.length (ptrs bl ws) → Calls Try.prog 42 #[.pointer (some ⟨g, 0, none⟩), .slice a4 ws.length c4] W (ManPost t.length w.heap.size bl g (insE 4 t xs ws) W)) := fun W bl st g doc a4 c4 C2 hs hP hsel ho =>
    BeforeNodes_nodes W g a4 ws.length c4 (man_4 (fun i hi => sz_le hR hi) (fun i hi => ats_small hR hi) hR.le (fun x hx => (hIP.1.rng x hx).2) (fun x hx => (hIP.2.2.1.rng x hx).2) hIP.1.nodup hIP.2.2.1.nodup hIP.2.1 (fun i hi => by obtain ⟨hh, I, _⟩ := ins_inv hR (.inr (.inr rfl)) hIP i hi; exact ⟨hh, I⟩) hop hP hs _ g doc hsel a4 c4 ho)
  clear hR h hi hi2 hIP ok k3
  go_enter Try.func24, Try.ntmps24
  go_wp2_with fail
  refine HSl.out.mono ?_
  rintro e w1 ⟨L, bl, st, gw, g0, g, doc, rfl, hL, hT, hW, hsel, hgw, hb1⟩
  have HT := Lib.hid hT
  have HW := Lib.hid hW
  have HB1 := Lib.hid hb1
  have HSel := Lib.hid hsel
  have hgl : gw < w1.heap.size := (Array.getElem?_eq_some_iff.1 hW).1
  have z0 : w1.cell? ⟨gw, 0, none⟩ = some (.slice (some ⟨L, 0, none⟩) t.length t.length) := cell_of_row w1 gw 0 _ _ _ hW
  have HTh := Lib.hid (HThese.out w1 L bl st hb1 hL hT)
  clear hT hW hb1 hsel
  go_wp2_with fail
  refine HTh.out.mono ?_
  rintro e w2 ⟨a1, c1, rfl, hown, hb2⟩
  have HB2 := Lib.hid (bnext HB1.out hb2)
  have HT2 := Lib.hid (HT.out.kept hb2)
  have HW2 : Hid (WorldB w2 gw L t.length g0) := (hb2.block gw hgl).trans HW.out
  have HSel2 : Hid (SelOf bl xs w.heap.size g doc w2) := by
    obtain ⟨q1, q2, q3, q4, q5, q6, q7⟩ := HSel.out
    exact ⟨q1, q2, q3, q4.below hb2 q4.lt, q5, own_kept q6 (fun b _ h2 => hb2.block b h2), q7⟩
  have HMn := Lib.hid (HMan.out w2 bl st g doc a1 c1 _ HB2.out.size (HT2.out.prog HR.out) HSel2.out hown)
  clear hown hb2 z0
  go_wp2_with fail
  refine HMn.out.mono ?_
  rintro e w3 ⟨rfl, bl2, st2, hH⟩
  have hP3 := hH.prog
  have hW3 : WorldB w3 gw L t.length g0 := (hH.turn.block gw (Array.getElem?_eq_some_iff.1 HW2.out).1 (fun i hi e => by
    obtain ⟨_, _, _, hh, _⟩ := HT2.out.dom.node i hi
    exact types_ne HW2.out hh (by decide) e)).trans HW2.out
  have hL3 : ∀ j, j < t.length → w3.cell? ⟨L, j, none⟩ = some (.pointer (some ⟨bl2 j, 0, none⟩)) := fun j hj => by
    obtain ⟨cur, h1, h2, h3⟩ := HT2.out.row
    have h4 := hH.turn.block L (Array.getElem?_eq_some_iff.1 h1).1 (fun i hi e => by
      obtain ⟨_, _, _, hh, _⟩ := HT2.out.dom.node i hi
      exact types_ne h1 hh (by decide) e)
    rw [cell_of_row w3 L j _ _ _ (h4.trans h1), h3 j hj, hH.old j hj]; rfl
  have HB3 : Hid (Below w.heap.size w w3) := by
    have h5 := hH.turn.below (B := w.heap.size) HB2.out.size (fun i hi => (HT2.out.dom.node i hi).1)
    exact HB2.out.trans h5
  have hlen : ((insE 4 t xs ws).F.all h' 0).length ≤ 100000 := by
    have := all_bound HOk.out (n := (insE 4 t xs ws).N) (x := 0) (fun i hi => hi) (by omega)
    omega
  have HEn := Lib.hid (ends2_any HOk.out (fun i hi => by obtain ⟨z, hz, e⟩ := HK3.out i hi; rw [e]; exact ndG_of HR.out hz) (fun i hi => by obtain ⟨z, hz, e⟩ := HK3.out i hi; rw [e]; exact HNb.out z hz) hpos hle (fun i hi => by omega) hlen w3 hP3 gw L g0 hW3 hL3)
  clear hP3 hW3 hL3 hH hlen
  go_wp2_with fail
  refine HEn.out.mono ?_
  rintro e w4 ⟨a3, m3, c3', a4, m4, c4, rfl, hOut, hcap, hb3⟩
  have HFin : Hid (Of2Post (insE 4 t xs ws).F h' (insE 4 t xs ws).nd t.length w (.returned (.tuple #[.slice a3 m3 c3', .slice a4 m4 c4, .bool true])) w4) :=
    ⟨_, _, _, _, _, _, rfl, hOut, hcap, bnext HB3.out hb3⟩
  clear hOut hb3 hcap
  go_wp2_with fail
  go_ret3
  exact HFin.out

open Go.WideShapes Go.Deep in
/-- An argument of nodes, and its capacity. -/
theorem open_nodes_c {H : Type} {enc : TypeId × Value → H} {w : World} {base : Nat} {spare : Nat → Bool} {held : Bool} {a : Option Addr} {len cap : Nat} {d : DataW H} {p : List MemPlace} (h : DataW.Trod enc Try.prog w base spare held 22 (.slice a len cap) d p) :
    ∃ l : List Nd, NSl w w.heap.size a l ∧ len = l.length ∧ len ≤ cap := by
  obtain ⟨l, h1, h2⟩ := open_nodes h
  refine ⟨l, h1, h2, ?_⟩
  obtain ⟨fuel, h⟩ := h
  rcases open_slice_fields Try.underlying22 Try.underlying47 (by kernel_rfl) (by kernel_rfl) h with ⟨hcs, _⟩ | ⟨a', len', cap', m, D, Pl, hcs, _, hl, _⟩
  · simp [Value.cells] at hcs
    omega
  · simp [Value.cells] at hcs
    obtain ⟨_, h3, h4⟩ := hcs
    omega
end Go.Proofs.Ytmhhfljbocbolaa

namespace Go.Proofs.Ytmhhfljbocbolaa
open Go.RowKit
set_option linter.unusedVariables false

set_option maxRecDepth 100000 in
set_option maxHeartbeats 1000000 in
theorem isPlace_any (ws : List Nat) (hl : ws.length ≤ 100000) (a : Option Addr) (c : Nat) (k : Nat) (w : World) (h : RSl w w.heap.size a (ivs (toI ws))) :
    Calls Try.prog 40 #[.slice a ws.length c, .int .i64 (k : Nat)] w fun e w' => e = .returned (.bool (decide (k ∈ ws))) ∧ w' = w := by
  have HH := Lib.hid h
  clear h
  go_enter Try.func40, Try.ntmps40
  go_wp2_with fail
  go_loopw [5] (fun x wr => ∃ i : Nat, i ≤ ws.length ∧ x = .int .i64 i ∧ Hid (∀ j (hj : j < ws.length), j < i → ws[j] ≠ k) ∧ w = wr) (fun x _ => ws.length - (intOf x).toNat)
  case atStart => exact ⟨0, by omega, rfl, (fun j _ h => by omega), rfl⟩
  case round =>
    obtain ⟨i, hi, rfl, hno, rfl⟩ := hrel
    by_cases hlt : i < ws.length
    · obtain ⟨b, o, rfl, hbB, hc⟩ := HH.out.at_ (by rw [ivs_length, toI_length]; omega)
      have g1 := hc i (by rw [ivs_length, toI_length]; exact hlt)
      have e1 : (ivs (toI ws))[i]'(by rw [ivs_length, toI_length]; exact hlt) = .int .i64 (ws[i] : Int) := by
        rw [ivs_at (by rw [toI_length]; exact hlt), toI_at hlt]
      replace g1 := g1.trans (congrArg some e1)
      have HM : Hid (ws[i] ∈ ws) := List.getElem_mem hlt
      obtain ⟨m, hm⟩ : ∃ m, m = ws[i] := ⟨_, rfl⟩
      rw [← hm] at g1 HM
      have HMk := Lib.hid hm
      clear hc e1 hm
      by_cases e : m = k
      · have ez : ((m : Int) == (k : Int)) = true := by simp [e]
        have HD : Hid (decide (k ∈ ws) = true) := decide_eq_true (e ▸ HM.out)
        clear e
        go_wp2_with fail
        go_ret
        exact ⟨by rw [HD.out]; rfl, rfl⟩
      · have ez : ((m : Int) == (k : Int)) = false := by simp; omega
        have HY : Hid (∀ j (hj : j < ws.length), j < i + 1 → ws[j] ≠ k) := fun j hj hji => by
          by_cases e2 : j = i
          · subst e2; rw [← HMk.out]; exact e
          · exact hno.out j hj (by omega)
        clear e
        go_wp2_with fail
        go_roundw
        case rel => exact ⟨i + 1, by omega, by go_num, HY, by trivial⟩
        case measure => simp [intOf]; omega
    · have HD : Hid (decide (k ∈ ws) = false) := decide_eq_false fun hm => by
        obtain ⟨j, hj, e⟩ := List.getElem_of_mem hm
        exact hno.out j hj (by omega) e
      go_wp2_with fail
      go_ret
      exact ⟨by rw [HD.out]; rfl, rfl⟩

/-- A part of a list, in memory. -/
theorem nsl_part {w : World} {B b o : Nat} {A : List Nd} (h : NSl w B (some ⟨b, o, none⟩) A) (k m : Nat) (hk : k < A.length) (hm : k + m ≤ A.length) : NSl w B (some ⟨b, o + k * 5, none⟩) ((A.drop k).take m) := by
  obtain ⟨h1, h2, h3⟩ := h
  refine ⟨by simp only [List.length_take, List.length_drop]; omega, fun x hx => h2 x (List.mem_of_mem_drop (List.mem_of_mem_take hx)), ?_⟩
  rcases h3 with e | ⟨b', o', e, hb, hc⟩
  · rw [e] at hk; simp at hk
  · cases e
    refine .inr ⟨b, o + k * 5, rfl, hb, fun i hi => ?_⟩
    simp only [List.length_take, List.length_drop] at hi
    have := hc (k + i) (by omega)
    have e1 : ((A.drop k).take m).getD i default = A.getD (k + i) default := by
      rw [List.getD_eq_getElem?_getD, List.getD_eq_getElem?_getD, List.getElem?_take, if_pos (by omega), List.getElem?_drop]
    have e2 : o + k * 5 + i * 5 = o + (k + i) * 5 := by omega
    rw [e1, e2]; exact this

set_option maxRecDepth 100000 in
set_option maxHeartbeats 1000000 in
theorem sub_any (A : List Nd) (hA : A.length ≤ 100000) (b o c : Nat) (hcap : A.length ≤ c) (k m : Nat) (hk : k < A.length) (hm : k + m ≤ A.length) (w : World) (h : NSl w w.heap.size (some ⟨b, o, none⟩) A) (hs : A[k].size = (m : Int)) :
    Calls Try.prog 41 #[.slice (some ⟨b, o, none⟩) A.length c, .int .i64 (k : Nat)] w fun e w' => e = .returned (.slice (some ⟨b, o + k * 5, none⟩) m (c - k)) ∧ w' = w := by
  obtain ⟨b', o', e, hb, hc⟩ := h.at_ (by omega)
  cases e
  obtain ⟨-, -, -, -, g5, -⟩ := hc k hk
  rw [hs] at g5
  have h1 : k ≤ c := by omega
  have h2 : k + m ≤ c := by omega
  have h3 : ¬ (k = c) := by omega
  clear hc h hs
  go_enter Try.func41, Try.ntmps41
  go_wp2_with fail
  go_ret
  refine ⟨?_, rfl⟩
  simp
end Go.Proofs.Ytmhhfljbocbolaa

namespace Go.Proofs.Ytmhhfljbocbolaa
open Go.RowKit
set_option linter.unusedVariables false

def optZ : Option Nat → Int
  | none => -1
  | some k => (k : Int)
theorem parI_optZ (t : List Nd) (i : Nat) : parI t i i = optZ (parJ t i i) := by
  rw [parI_parJ]; cases parJ t i i <;> rfl

theorem sub_same {t : List Nd} (hR : RightP t) {G : Fo} {hG : Nat → Nat} {ws : List Nat} (M : Mv t.length (fo0 t) G (sz t) hG ws) {A : List Nd} (hs : A.map strip = outL G hG (ndT t) 0) {w a : Nat} (hw : w ∈ ws) (ha : (G.all hG 0)[a]? = some w) :
    a < A.length ∧ a + sz t w ≤ A.length ∧ w + sz t w ≤ t.length ∧ (∀ h : a < A.length, A[a].size = (sz t w : Int)) ∧ ((A.drop a).take (sz t w)).map strip = ((t.drop w).take (sz t w)).map strip := by
  have hwt := M.lt w hw
  have hl : A.length = (G.all hG 0).length := by have := congrArg List.length hs; unfold outL at this; simpa using this
  have hf := all_fits M.okG ha
  have haw : G.all hG w = List.range' w (sz t w) := by rw [M.all_eq hw .self, fo0_all hR _ _ (Nat.le_refl _) hwt]
  have hlw : (G.all hG w).length = sz t w := by rw [haw, List.length_range']
  rw [hlw] at hf
  have hend := (hR.lam w (Nat.zero_le _) hwt).2.2.1
  have hat : ∀ q, q < sz t w → (A.map strip)[a + q]? = some (strip { ndT t (w + q) with size := ((G.all hG (w + q)).length : Int) }) := by
    intro q hq
    have h1 : (G.all hG 0)[a + q]? = some (w + q) := M.inside hw ha (by rw [fo0_all hR _ _ (Nat.le_refl _) hwt, List.getElem?_range' (by exact hq)]; simp)
    rw [hs]
    unfold outL
    rw [List.getElem?_map, h1]; rfl
  refine ⟨by omega, by omega, hend, fun h => ?_, ?_⟩
  · have h0 := hat 0 (by omega)
    rw [Nat.add_zero, List.getElem?_map, List.getElem?_eq_getElem h, Option.map_some, Option.some.injEq, Nat.add_zero, hlw] at h0
    exact show (strip A[a]).size = _ by rw [h0]; rfl
  · refine List.ext_getElem? fun q => ?_
    rw [List.getElem?_map, List.getElem?_map, List.getElem?_take, List.getElem?_take]
    by_cases hq : q < sz t w
    · rw [if_pos hq, if_pos hq, List.getElem?_drop, List.getElem?_drop]
      have h1 := hat q hq
      rw [List.getElem?_map] at h1
      have hwq : w + q < t.length := by omega
      have hu : (fo0 t).Up w (w + q) := by
        refine ((fo0 t).all_up (fo0_ok hR) _ w (Nat.le_refl _) (w + q)).1 ?_
        rw [fo0_all hR _ _ (Nat.le_refl _) hwt, List.mem_range']
        exact ⟨q, hq, by omega⟩
      rw [h1, M.all_eq hw hu, fo0_all hR _ _ (Nat.le_refl _) hwq, List.length_range', List.getElem?_eq_getElem hwq]
      have e1 : ndT t (w + q) = t[w + q] := getD_at hwq
      have e2 : t[w + q].size = (sz t (w + q) : Int) := size_at hwq (hR.lam _ (Nat.zero_le _) hwq).1
      rw [e1]
      show some (strip { t[w + q] with size := (sz t (w + q) : Int) }) = some (strip t[w + q])
      rw [← e2]
    · rw [if_neg hq, if_neg hq]

set_option maxRecDepth 100000 in
set_option maxHeartbeats 8000000 in
theorem moved7_yes {t : List Nd} (hR : RightP t) {G : Fo} {hG : Nat → Nat} {ws : List Nat} (hwl : ws.length ≤ 200) (M : Mv t.length (fo0 t) G (sz t) hG ws) (h0 : Free (fo0 t) ws 0) (A : List Nd) (hs : A.map strip = outL G hG (ndT t) 0) (hg : ∀ x ∈ A, x.attrs.length ≤ 1000)
    (bt ot ct ba oa ca : Nat) (hct : t.length ≤ ct) (hca : t.length ≤ ca) (a2 : Option Addr) (c2 : Nat) (aw : Option Addr) (cw : Nat) (w : World) (hT : NSl w w.heap.size (some ⟨bt, ot, none⟩) t) (hA : NSl w w.heap.size (some ⟨ba, oa, none⟩) A) (hP : RSl w w.heap.size a2 (ivs (placeL G hG t.length))) (hW : RSl w w.heap.size aw (ivs (toI ws)))
    (hTold : Calls Try.prog 20 #[.slice (some ⟨bt, ot, none⟩) t.length ct, .slice (some ⟨ba, oa, none⟩) t.length ca, .slice a2 t.length c2, .bool true] w (fun e w' => e = .returned (.bool true) ∧ Below w.heap.size w w')) :
    Calls Try.prog 23 #[.slice (some ⟨bt, ot, none⟩) t.length ct, .slice (some ⟨ba, oa, none⟩) t.length ca, .slice a2 t.length c2, .slice aw ws.length cw, .bool true] w (fun e w' => e = .returned (.bool true) ∧ Below w.heap.size w w') := by
  have hle := hR.le
  have hAl : A.length = t.length := by have := congrArg List.length hs; unfold outL at this; rw [List.length_map, List.length_map, M.len] at this; exact this
  have HTold := Lib.hid hTold
  have HAl := Lib.hid hAl
  have hF : (fo0 t).all (sz t) 0 = List.range' 0 t.length := by rw [fo0_all hR _ _ (Nat.le_refl _) hR.pos, hR.top]
  have hpl : (placeL G hG t.length).length = t.length := by simp [placeL]
  have HCell : Hid (∀ W, Below w.heap.size w W → ∀ y, y < t.length → ∃ a, a < t.length ∧ (G.all hG 0)[a]? = some y ∧ ∃ b o, a2 = some ⟨b, o, none⟩ ∧ W.cell? ⟨b, o + y, none⟩ = some (.int .i64 (a : Int))) := by
    intro W hb y hy
    obtain ⟨-, a, h1, h2, h3⟩ := M.at_ hy
    obtain ⟨b, o, rfl, hbB, hc⟩ := (hP.up hb).at_ (by rw [ivs_length, hpl]; omega)
    have g1 := hc y (by rw [ivs_length, hpl]; exact hy)
    have e1 : (ivs (placeL G hG t.length))[y]'(by rw [ivs_length, hpl]; exact hy) = .int .i64 (a : Int) := by
      rw [ivs_at (by rw [hpl]; exact hy)]
      rw [List.getElem?_eq_getElem (by rw [hpl]; exact hy), Option.some.injEq] at h3
      rw [h3]
    exact ⟨a, h1, h2, b, o, rfl, g1.trans (congrArg some e1)⟩
  have HPar : Hid (∀ W, Below w.heap.size w W → ∀ k, k < t.length → Calls Try.prog 28 #[.slice (some ⟨bt, ot, none⟩) t.length ct, .int .i64 (k : Nat)] W fun e w' => e = .returned (.int .i64 (optZ (parJ t k k))) ∧ W = w') := by
    intro W hb k hk
    have := parent_any (some ⟨bt, ot, none⟩) ct t hle k k rfl W (hT.up hb) hk hR.lam
    rw [parI_optZ] at this
    exact this
  have HPl : Hid (∀ W, Below w.heap.size w W → ∀ k : Nat, Calls Try.prog 40 #[.slice aw ws.length cw, .int .i64 (k : Nat)] W fun e w' => e = .returned (.bool (decide (k ∈ ws))) ∧ w' = W) := fun W hb k => isPlace_any ws (by omega) aw cw k W (hW.up hb)
  have HM := Lib.hid M
  have HR := Lib.hid hR
  have HT := Lib.hid hT
  have HA := Lib.hid hA
  have HW := Lib.hid hW
  have HG := Lib.hid hg
  have HS := Lib.hid hs
  have HF := Lib.hid hF
  have H0 := Lib.hid h0
  have en : ((t.length : Int) != (t.length : Int)) = false := by simp
  clear hT hA hP hW hTold hAl hF hpl M hR hg hs h0
  go_enter Try.func23, Try.ntmps23
  go_wp2_with fail
  refine HTold.out.mono ?_
  rintro e w1 ⟨rfl, hb1⟩
  have HB1 := Lib.hid hb1
  clear hb1
  go_wp2_with fail
  go_loopw [11, 12, 13] (fun v11 v12 v13 wr => ∃ (i : Nat) (la : Int), i ≤ t.length ∧ v12 = .int .i64 i ∧ v11 = .int .i64 la ∧ -1 ≤ la ∧ la ≤ 200 ∧ Hid (∀ (j a : Nat), i ≤ j → j < t.length → Free (fo0 t) ws j → (G.all hG 0)[a]? = some j → la < (a : Int)) ∧ Below w.heap.size w wr) (fun _ v _ _ => t.length - (intOf v).toNat)
  case atStart => exact ⟨0, -1, by omega, rfl, rfl, by omega, by omega, (fun j a _ _ _ _ => by omega), HB1.out⟩
  case round =>
    obtain ⟨i, la, hi, rfl, rfl, hla1, hla2, hord, hb⟩ := hrel
    obtain ⟨W, rfl⟩ : ∃ W : World, W = wr := ⟨_, rfl⟩
    have HB := Lib.hid hb
    clear hb
    by_cases hlt : i < t.length
    · go_wp2_with fail
      go_loopw [13] (fun v wr => ∃ o : Option Nat, v = .int .i64 (optZ o) ∧ Hid (∀ k, o = some k → k < t.length ∧ (fo0 t).Up k i) ∧ Hid (∀ x ∈ ws, (fo0 t).Up x i → ∃ k, o = some k ∧ (fo0 t).Up x k) ∧ W = wr) (fun v _ => (intOf v + 1).toNat)
      case atStart => exact ⟨some i, rfl, (fun k e => by cases e; exact ⟨hlt, .self⟩), (fun x _ u => ⟨i, rfl, u⟩), rfl⟩
      case round =>
        obtain ⟨o, rfl, hk, hu, rfl⟩ := hrel
        cases o with
        | none =>
          have HFr : Hid (Free (fo0 t) ws i) := fun x hx u => by obtain ⟨k, e, _⟩ := hu.out x hx u; cases e
          obtain ⟨a, ha1, ha2, b, o, rfl, g1⟩ := HCell.out W HB.out i hlt
          have HAt := Lib.hid ha2
          have f1 : ¬ ((a : Int) < 0) := by omega
          have f2 : ¬ ((t.length : Int) ≤ (a : Int)) := by omega
          have f3 : ¬ ((a : Int) ≤ la) := by have := hord.out i a (Nat.le_refl _) hlt HFr.out ha2; omega
          have HNew : Hid (∀ (j b : Nat), i + 1 ≤ j → j < t.length → Free (fo0 t) ws j → (G.all hG 0)[b]? = some j → (a : Int) < (b : Int)) := fun j b hj hjt hf hb => by
            have := HM.out.order HF.out H0.out (show i < j by omega) HFr.out hf HAt.out hb
            omega
          simp only [optZ]
          clear hk hu ha2 hord
          go_wp2_with fail
          go_roundw
          case rel => exact ⟨i + 1, (a : Int), by omega, by go_num, rfl, by omega, by omega, HNew, HB.out⟩
          case measure => simp [intOf]; omega
        | some k =>
          obtain ⟨hkt, hku⟩ := hk.out k rfl
          have HKu := Lib.hid hku
          have HPk := Lib.hid (HPl.out W HB.out k)
          simp only [optZ]
          by_cases hkw : k ∈ ws
          · have hd : decide (k ∈ ws) = true := decide_eq_true hkw
            rw [hd] at HPk
            obtain ⟨a, ha1, ha2, b, o, rfl, g1⟩ := HCell.out W HB.out i hlt
            obtain ⟨a', hb1, hb2, b', o', e', g2⟩ := HCell.out W HB.out k hkt
            injection e' with e'
            injection e' with e1 e2
            subst e1 e2
            have hai : a = a' + (i - k) ∧ k ≤ i := by
              have h1 : i ∈ (fo0 t).all (sz t) k := ((fo0 t).all_up (fo0_ok HR.out) _ k (Nat.le_refl _) i).2 hku
              rw [fo0_all HR.out _ _ (Nat.le_refl _) hkt, List.mem_range'] at h1
              obtain ⟨q, hq, e⟩ := h1
              have h2 := HM.out.inside hkw hb2 (q := q) (u := i) (by rw [fo0_all HR.out _ _ (Nat.le_refl _) hkt, List.getElem?_range' (by exact hq)]; congr 1; omega)
              have hn := G.all_nodup HM.out.okG _ 0 (Nat.le_refl _)
              have := (List.getElem?_inj (by exact (List.getElem?_eq_some_iff.1 ha2).1) hn).1 (ha2.trans h2.symm)
              omega
            have f1 : ¬ ((a : Int) < 0) := by omega
            have f2 : ¬ ((t.length : Int) ≤ (a : Int)) := by omega
            have f4 : ((a : Int) != (a' : Int) + (i : Int) - (k : Int)) = false := by simp; omega
            have f5 : -9223372036854775808 ≤ (a' : Int) + (i : Int) ∧ (a' : Int) + (i : Int) ≤ 9223372036854775807 := by omega
            have HOrd : Hid (∀ (j b : Nat), i + 1 ≤ j → j < t.length → Free (fo0 t) ws j → (G.all hG 0)[b]? = some j → la < (b : Int)) := fun j b hj => hord.out j b (by omega)
            clear hk hu ha2 hb2 hord hku hd hai hkw
            go_wp2_with fail
            refine HPk.out.mono ?_
            rintro e w2 ⟨rfl, rfl⟩
            go_wp2_with fail
            go_quiet (fail)
            go_wp2_with fail
            go_roundw
            case rel => exact ⟨i + 1, la, by omega, by go_num, rfl, hla1, hla2, HOrd, below_drewN HB.out _⟩
            case measure => simp [intOf]; omega
          · have hd : decide (k ∈ ws) = false := decide_eq_false hkw
            rw [hd] at HPk
            have HPp := Lib.hid (HPar.out W HB.out k hkt)
            have HK2 : Hid (∀ q, parJ t k k = some q → q < t.length ∧ (fo0 t).Up q i) := fun q hq => by
              have := (parJ_spec hq).1
              exact ⟨by omega, up_above (by rw [fo0_par hkt]; exact hq) HKu.out⟩
            have HU2 : Hid (∀ x ∈ ws, (fo0 t).Up x i → ∃ q, parJ t k k = some q ∧ (fo0 t).Up x q) := fun x hx u => by
              obtain ⟨k', e, u2⟩ := hu.out x hx u
              cases e
              cases u2 with
              | self => exact absurd hx hkw
              | step h1 h2 => rw [fo0_par hkt] at h1; exact ⟨_, h1, h2⟩
            have HMs : Hid ((optZ (parJ t k k) + 1).toNat < k + 1) := by
              unfold Hid
              cases hq : parJ t k k with
              | none => simp [optZ]
              | some q => have := (parJ_spec hq).1; simp only [optZ]; omega
            obtain ⟨z, hz⟩ : ∃ z, z = parJ t k k := ⟨_, rfl⟩
            rw [← hz] at HPp HK2 HU2 HMs
            clear hk hu hku hd hz
            go_wp2_with fail
            refine HPk.out.mono ?_
            rintro e w2 ⟨rfl, rfl⟩
            go_wp2_with fail
            refine HPp.out.mono ?_
            rintro e w3 ⟨rfl, rfl⟩
            go_wp2_with fail
            go_roundw
            case rel => exact ⟨z, rfl, HK2, HU2, by trivial⟩
            case measure => simp only [intOf]; have := HMs.out; omega
    · clear hord
      go_wp2_with fail
      go_loopw [14] (fun v wr => ∃ j : Nat, j ≤ ws.length ∧ v = .int .i64 j ∧ Below w.heap.size w wr) (fun v _ => ws.length - (intOf v).toNat)
      case atStart => exact ⟨0, by omega, rfl, HB.out⟩
      case round =>
        obtain ⟨j, hj, rfl, hb⟩ := hrel
        obtain ⟨W3, rfl⟩ : ∃ W3 : World, W3 = wr := ⟨_, rfl⟩
        have HB3 := Lib.hid hb
        clear hb
        by_cases hlj : j < ws.length
        · have hwm := List.getElem_mem hlj
          have hwt := HM.out.lt _ hwm
          obtain ⟨b1, o1, rfl, -, hc⟩ := (HW.out.up HB3.out).at_ (by rw [ivs_length, toI_length]; omega)
          have g1 := hc j (by rw [ivs_length, toI_length]; exact hlj)
          have e1 : (ivs (toI ws))[j]'(by rw [ivs_length, toI_length]; exact hlj) = .int .i64 (ws[j] : Int) := by
            rw [ivs_at (by rw [toI_length]; exact hlj), toI_at hlj]
          replace g1 := g1.trans (congrArg some e1)
          obtain ⟨a, ha1, ha2, b2, o2, rfl, g2⟩ := HCell.out W3 HB3.out ws[j] hwt
          obtain ⟨s1, s2, s3, s4, s5⟩ := sub_same HR.out HM.out HS.out hwm ha2
          have hsz : t[ws[j]].size = (sz t ws[j] : Int) := size_at hwt (HR.out.lam _ (Nat.zero_le _) hwt).1
          have HS1 : Hid (Calls Try.prog 41 #[.slice (some ⟨ba, oa, none⟩) t.length ca, .int .i64 (a : Nat)] W3.drew fun e w' => e = .returned (.slice (some ⟨ba, oa + a * 5, none⟩) (sz t ws[j]) (ca - a)) ∧ w' = W3.drew) := by
            have := sub_any A (by rw [HAl.out]; omega) ba oa ca (by rw [HAl.out]; exact hca) a (sz t ws[j]) s1 s2 W3.drew (HA.out.up HB3.out.drew) (s4 s1)
            rw [HAl.out] at this; exact this
          have HS2 : Hid (Calls Try.prog 41 #[.slice (some ⟨bt, ot, none⟩) t.length ct, .int .i64 (ws[j] : Nat)] W3.drew fun e w' => e = .returned (.slice (some ⟨bt, ot + ws[j] * 5, none⟩) (sz t ws[j]) (ct - ws[j])) ∧ w' = W3.drew) := sub_any t (by omega) bt ot ct hct ws[j] (sz t ws[j]) hwt s3 W3.drew (HT.out.up HB3.out.drew) hsz
          have HST : Hid (Calls Try.prog 18 #[.slice (some ⟨ba, oa + a * 5, none⟩) (sz t ws[j]) (ca - a), .slice (some ⟨bt, ot + ws[j] * 5, none⟩) (sz t ws[j]) (ct - ws[j])] W3.drew (fun e w' => e = .returned (.bool true) ∧ Below W3.drew.heap.size W3.drew w')) := by
            have l1 : ((A.drop a).take (sz t ws[j])).length = sz t ws[j] := by simp only [List.length_take, List.length_drop]; omega
            have l2 : ((t.drop ws[j]).take (sz t ws[j])).length = sz t ws[j] := by simp only [List.length_take, List.length_drop]; omega
            have := sameTree_yes ((A.drop a).take (sz t ws[j])) ((t.drop ws[j]).take (sz t ws[j])) s5 (fun x hx => HG.out x (List.mem_of_mem_drop (List.mem_of_mem_take hx))) (by rw [l1]; omega) (some ⟨ba, oa + a * 5, none⟩) (ca - a) (some ⟨bt, ot + ws[j] * 5, none⟩) (ct - ws[j]) W3.drew (nsl_part (HA.out.up HB3.out.drew) a (sz t ws[j]) s1 s2) (nsl_part (HT.out.up HB3.out.drew) ws[j] (sz t ws[j]) hwt s3)
            rw [l1, l2] at this; exact this
          obtain ⟨x, hx⟩ : ∃ x, x = ws[j] := ⟨_, rfl⟩
          rw [← hx] at g1 g2 HS1 HS2 HST hwt
          obtain ⟨m, hm⟩ : ∃ m, m = sz t x := ⟨_, rfl⟩
          rw [← hm] at HS1 HS2 HST
          clear hc e1 hwm ha2 s1 s2 s3 s4 s5 hsz hx hm
          go_wp2_with fail
          refine wp_region_still_tail 15 (by kernel_rfl) (by kernel_rfl) ?_
          simp only [List.take_succ_cons, List.take_zero, List.drop_succ_cons, List.drop_zero]
          iterate 8 still_step
          still_call HS1.out
          iterate 5 still_step
          still_call HS2.out
          refine wpStill_nil ?_
          change wpList _ _ _ _ _ W3.drew
          go_wp2_with fail
          refine HST.out.mono ?_
          rintro e w2 ⟨rfl, hb2⟩
          have HB4 : Hid (Below w.heap.size w w2) := bnext HB3.out.drew hb2
          clear hb2
          go_wp2_with fail
          go_roundw
          case rel => exact ⟨j + 1, by omega, by go_num, HB4.out⟩
          case measure => simp [intOf]; omega
        · go_wp2_with fail
          go_ret
          exact ⟨by trivial, HB3.out⟩
end Go.Proofs.Ytmhhfljbocbolaa

namespace Go.Proofs.Ytmhhfljbocbolaa
open Go.RowKit
set_option linter.unusedVariables false

theorem isl_single (w : World) (I : Int) (hI : -9223372036854775808 ≤ I ∧ I ≤ 9223372036854775807) : ISl (w.alloc (.cells #[.int .i64 I] 3)) (w.alloc (.cells #[.int .i64 I] 3)).heap.size (some ⟨w.heap.size, 0, none⟩) [I] := by
  refine ⟨.inr ⟨w.heap.size, 0, rfl, by simp, fun q hq => ?_⟩, by simp [maxLen], fun x hx => by rw [List.mem_singleton] at hx; rw [hx]; exact hI⟩
  have e0 : q = 0 := by simp [ivs] at hq; omega
  subst e0
  rw [World.cell?_alloc_mark]; rfl

theorem cho_one {n : Nat} {I : Int} {xs : List Nat} (h : ChoP n [I] xs) : ∃ x, xs = [x] ∧ I = (x : Int) := by
  have e := h.eq
  cases xs with
  | nil => simp [toI] at e
  | cons x l =>
    cases l with
    | nil => exact ⟨x, rfl, by simpa [toI] using e⟩
    | cons y l => simp [toI] at e

set_option maxRecDepth 100000 in
set_option maxHeartbeats 8000000 in
theorem FnAppendMoves_walk (ad : Option Addr) (len c : Nat) (t : List Nd) (I : Int) (a3 : Option Addr) (len3 c3 : Nat) (l2 : List Int) (w : World) (h : NSl w w.heap.size ad t ∧ len = t.length ∧ len ≤ c) (hI : (Lit.int .i64 I).wf = true) (hj : ISl w w.heap.size a3 l2 ∧ len3 = l2.length) :
    Calls Try.prog 5 #[.slice ad len c, .int .i64 I, .slice a3 len3 c3] w fun e w' => e = .returned (.bool true) ∧ Below w.heap.size w w' := by
  obtain ⟨h, rfl, hcap⟩ := h
  obtain ⟨hj, rfl⟩ := hj
  have hIb := wf_bounds hI
  have HH := Lib.hid h
  have hll2 := hj.len
  have HJ := Lib.hid hj
  have HCap := Lib.hid hcap
  unfold maxLen at hll2
  clear h hj hI hcap
  go_enter Try.func5, Try.ntmps5
  go_wp2_with fail
  refine (zzFits1_any _ _ t _ HH.out).mono ?_
  rintro e w1 ⟨rfl, hb1⟩
  have HB1 := Lib.hid hb1
  clear hb1
  cases hf : fits1 t
  · go_wp2_with fail
    go_ret
    exact ⟨rfl, HB1.out⟩
  by_cases k2 : 2147483647 < l2.length
  · go_wp2_with fail
    go_ret
    exact ⟨rfl, HB1.out⟩
  have hl2 : l2.length ≤ 2147483647 := by omega
  have hl1 : [I].length ≤ 2147483647 := by simp
  obtain ⟨W1, hW1⟩ : ∃ W1, W1 = w1.alloc (.cells #[.int .i64 I] 3) := ⟨_, rfl⟩
  have hbA : Below w1.heap.size w1 W1 := by rw [hW1]; exact (Below.refl _ _).alloc (Nat.le_refl _) _
  have HBA := Lib.hid (bnext HB1.out hbA)
  have HOn : Hid (ISl W1 W1.heap.size (some ⟨w1.heap.size, 0, none⟩) [I]) := by rw [hW1]; exact isl_single w1 I hIb
  have HC : Hid (ChC t ad c (InsG t 1 [I] l2) 1 (some ⟨w1.heap.size, 0, none⟩) 1 1 a3 l2.length c3 W1) := fun W sb hb hs => changedIns_any 1 (.inl rfl) ad c t hf W (HH.out.up (bnext HBA.out hb)) sb (some ⟨w1.heap.size, 0, none⟩) 1 [I] hl1 (HOn.out.up hb) a3 c3 l2 hl2 (HJ.out.up (bnext HBA.out hb)) hs
  have HSt := Lib.hid (step7_any 1 (some ⟨w1.heap.size, 0, none⟩) 1 1 a3 l2.length c3 W1)
  clear hbA
  subst hW1
  go_wp2_with fail
  refine HSt.out.mono ?_
  rintro e w2 ⟨rfl, hb2⟩
  have HB2 := Lib.hid (bnext HBA.out hb2)
  have HCW := Lib.hid (HC.out.up hb2)
  clear hb2
  go_wp2_with fail
  refine (sure7_any HCW.out).mono ?_
  rintro e w3 ⟨b, rfl, hy, hb3⟩
  have HB3 := Lib.hid (bnext HB2.out hb3)
  cases b
  · clear hy hb3
    go_wp2_with fail
    go_ret
    exact ⟨rfl, HB3.out⟩
  obtain ⟨hR, F, S, hh, nd, xs, ws, hIP, -, -, -, -⟩ := hy rfl
  obtain ⟨x, rfl, hIx⟩ := cho_one hIP.1
  obtain ⟨⟨hG, M0⟩, hN, hnd, hop, hfx, hf0, hleaf⟩ := ins_mv hR (.inl rfl) hIP
  have M : Mv t.length (fo0 t) (insE 1 t [x] ws).F (sz t) (fun y => ((insE 1 t [x] ws).F.all hG y).length) ws := ⟨M0.ok, len_ok M0.okG, M0.lt, M0.sub, M0.kids, M0.top, M0.pos⟩
  have hlen0 := M0.len
  obtain ⟨hG2, hGd⟩ : ∃ hG2, hG2 = (fun y => ((insE 1 t [x] ws).F.all hG y).length) := ⟨_, rfl⟩
  have h20 : hG2 0 = t.length := by rw [hGd]; exact hlen0
  rw [← hGd] at M
  have ok2 : (insE 1 t [x] ws).F.Ok (fun i => i < (insE 1 t [x] ws).N) hG2 := by rw [hN]; exact M.okG
  have hkind : 1 ≠ (4 : Int) → (ndT t x).kind = 3 := fun e => hIP.2.2.2.2.2.1 e x (by simp)
  have hww : ws.length ≤ 200 := by have := nodup_len hIP.2.2.1.nodup (fun y hy => (hIP.2.2.1.rng y hy).2); have := hR.le; omega
  have hl2w : l2 = toI ws := hIP.2.2.1.eq
  obtain ⟨W3, hW3⟩ : ∃ W3, W3 = w3.alloc (.cells #[.int .i64 I] 3) := ⟨_, rfl⟩
  have hbD : Below w3.heap.size w3 W3 := by rw [hW3]; exact (Below.refl _ _).alloc (Nat.le_refl _) _
  have HB4 := Lib.hid (bnext HB3.out hbD)
  have HE : Hid (Calls Try.prog 22 #[.slice ad t.length c, .slice (some ⟨w3.heap.size, 0, none⟩) 1 1, .slice a3 l2.length c3] W3 (Of2Post (insE 1 t [x] ws).F hG2 (insE 1 t [x] ws).nd t.length W3)) := of2_1 ad c t hR (some ⟨w3.heap.size, 0, none⟩) 1 [I] a3 c3 l2 [x] ws hIP hop ok2 hl1 hl2 W3 (HH.out.up HB4.out) (by rw [hW3]; exact isl_single w3 I hIb) (HJ.out.up HB4.out)
  have HR := Lib.hid hR
  have HM := Lib.hid M
  have HL2 : Hid (l2.length = ws.length) := by rw [Hid, hl2w, toI_length]
  have HRow : Hid (∀ W, Below w.heap.size w W → RSl W W.heap.size a3 (ivs (toI ws))) := fun W hb => by have := (HJ.out.up hb).row; rw [hl2w] at this; exact this
  have HFin : Hid (∀ w4, Below W3.heap.size W3 w4 → ∀ a m c' a2 m2 c2, OutP (insE 1 t [x] ws).F hG2 (insE 1 t [x] ws).nd t.length a m a2 m2 w4 → m ≤ c' → m = t.length ∧ m2 = t.length ∧ Calls Try.prog 23 #[.slice ad t.length c, .slice a t.length c', .slice a2 t.length c2, .slice a3 l2.length c3, .bool true] w4 (fun e w' => e = .returned (.bool true) ∧ Below w4.heap.size w4 w')) := by
    intro w4 hb4 a m c' a2 m2 c2 hO hmc
    obtain ⟨⟨A, rfl, hA, hs⟩, rfl, hpl⟩ := hO
    rw [hnd] at hs
    have hAl : A.length = t.length := by have := congrArg List.length hs; unfold outL at this; rw [List.length_map, List.length_map, M.len] at this; exact this
    have hT4 := HH.out.up (bnext HB4.out hb4)
    have hpos := hR.pos
    have hle := hR.le
    obtain ⟨bt, ot, rfl, -, -⟩ := hT4.at_ hpos
    obtain ⟨ba, oa, rfl, -, -⟩ := hA.at_ (by omega)
    have hmem : ∀ y ∈ (insE 1 t [x] ws).F.all hG2 0, y < t.length := fun y hy => M.mem.1 hy
    have hshp : Shp A := shp_of M.okG hs hR.root (fun y hy => ndT_kind hR (hmem y hy)) (fun y hy hk => by
      rcases hleaf y hk with h1 | ⟨h1, h2⟩
      · exact ndT_leaf hR (hmem y hy) h1
      · rw [h1]; exact .inr (hkind h2))
    have hSh := shaped_yes M.okG A (by omega) hs (by rw [h20]; omega) hshp (some ⟨ba, oa, none⟩) c' w4 hA
    rw [hAl] at hSh hmc ⊢
    have hTold := told7_yes (some ⟨bt, ot, none⟩) t.length c (some ⟨ba, oa, none⟩) t.length c' a2 c2 w4 hSh
    refine ⟨rfl, rfl, ?_⟩
    rw [HL2.out]
    exact moved7_yes hR hww M hf0 A hs (fun z hz => (ndW_of hs (fun y hy => ndW_t hR (hmem y hy)) z hz).few) bt ot c ba oa c' HCap.out hmc a2 c2 a3 c3 w4 hT4 hA hpl (HRow.out w4 (bnext HB4.out hb4)) hTold
  clear hy hb3 hR hIP M0 M hN hnd hop hfx hf0 hleaf hlen0 hGd h20 ok2 hkind hww hl2w hIx hbD
  subst hW3
  go_wp2_with fail
  refine HE.out.mono ?_
  rintro e w4 ⟨a5, m5, d5, a6, m6, d6, rfl, hO, hcp, hb4⟩
  obtain ⟨rfl, rfl, hMv⟩ := HFin.out w4 hb4 a5 m5 d5 a6 m6 d6 hO hcp
  have HMv := Lib.hid hMv
  have HB5 := Lib.hid (bnext HB4.out hb4)
  clear hO hcp hb4 hMv
  go_wp2_with fail
  refine HMv.out.mono ?_
  rintro e w5 ⟨rfl, hb5⟩
  have HB6 := Lib.hid (bnext HB5.out hb5)
  clear hb5
  go_wp2_with fail
  go_ret
  exact ⟨by trivial, HB6.out⟩

set_option maxRecDepth 100000 in
set_option maxHeartbeats 8000000 in
theorem FnBeforeMoves_walk (ad : Option Addr) (len c : Nat) (t : List Nd) (I : Int) (a3 : Option Addr) (len3 c3 : Nat) (l2 : List Int) (w : World) (h : NSl w w.heap.size ad t ∧ len = t.length ∧ len ≤ c) (hI : (Lit.int .i64 I).wf = true) (hj : ISl w w.heap.size a3 l2 ∧ len3 = l2.length) :
    Calls Try.prog 7 #[.slice ad len c, .int .i64 I, .slice a3 len3 c3] w fun e w' => e = .returned (.bool true) ∧ Below w.heap.size w w' := by
  obtain ⟨h, rfl, hcap⟩ := h
  obtain ⟨hj, rfl⟩ := hj
  have hIb := wf_bounds hI
  have HH := Lib.hid h
  have hll2 := hj.len
  have HJ := Lib.hid hj
  have HCap := Lib.hid hcap
  unfold maxLen at hll2
  clear h hj hI hcap
  go_enter Try.func7, Try.ntmps7
  go_wp2_with fail
  refine (zzFits1_any _ _ t _ HH.out).mono ?_
  rintro e w1 ⟨rfl, hb1⟩
  have HB1 := Lib.hid hb1
  clear hb1
  cases hf : fits1 t
  · go_wp2_with fail
    go_ret
    exact ⟨rfl, HB1.out⟩
  by_cases k2 : 2147483647 < l2.length
  · go_wp2_with fail
    go_ret
    exact ⟨rfl, HB1.out⟩
  have hl2 : l2.length ≤ 2147483647 := by omega
  have hl1 : [I].length ≤ 2147483647 := by simp
  obtain ⟨W1, hW1⟩ : ∃ W1, W1 = w1.alloc (.cells #[.int .i64 I] 3) := ⟨_, rfl⟩
  have hbA : Below w1.heap.size w1 W1 := by rw [hW1]; exact (Below.refl _ _).alloc (Nat.le_refl _) _
  have HBA := Lib.hid (bnext HB1.out hbA)
  have HOn : Hid (ISl W1 W1.heap.size (some ⟨w1.heap.size, 0, none⟩) [I]) := by rw [hW1]; exact isl_single w1 I hIb
  have HC : Hid (ChC t ad c (InsG t 4 [I] l2) 4 (some ⟨w1.heap.size, 0, none⟩) 1 1 a3 l2.length c3 W1) := fun W sb hb hs => changedIns_any 4 (.inr (.inr rfl)) ad c t hf W (HH.out.up (bnext HBA.out hb)) sb (some ⟨w1.heap.size, 0, none⟩) 1 [I] hl1 (HOn.out.up hb) a3 c3 l2 hl2 (HJ.out.up (bnext HBA.out hb)) hs
  have HSt := Lib.hid (step7_any 4 (some ⟨w1.heap.size, 0, none⟩) 1 1 a3 l2.length c3 W1)
  clear hbA
  subst hW1
  go_wp2_with fail
  refine HSt.out.mono ?_
  rintro e w2 ⟨rfl, hb2⟩
  have HB2 := Lib.hid (bnext HBA.out hb2)
  have HCW := Lib.hid (HC.out.up hb2)
  clear hb2
  go_wp2_with fail
  refine (sure7_any HCW.out).mono ?_
  rintro e w3 ⟨b, rfl, hy, hb3⟩
  have HB3 := Lib.hid (bnext HB2.out hb3)
  cases b
  · clear hy hb3
    go_wp2_with fail
    go_ret
    exact ⟨rfl, HB3.out⟩
  obtain ⟨hR, F, S, hh, nd, xs, ws, hIP, -, -, -, -⟩ := hy rfl
  obtain ⟨x, rfl, hIx⟩ := cho_one hIP.1
  obtain ⟨⟨hG, M0⟩, hN, hnd, hop, hfx, hf0, hleaf⟩ := ins_mv hR (.inr (.inr rfl)) hIP
  have M : Mv t.length (fo0 t) (insE 4 t [x] ws).F (sz t) (fun y => ((insE 4 t [x] ws).F.all hG y).length) ws := ⟨M0.ok, len_ok M0.okG, M0.lt, M0.sub, M0.kids, M0.top, M0.pos⟩
  have hlen0 := M0.len
  obtain ⟨hG2, hGd⟩ : ∃ hG2, hG2 = (fun y => ((insE 4 t [x] ws).F.all hG y).length) := ⟨_, rfl⟩
  have h20 : hG2 0 = t.length := by rw [hGd]; exact hlen0
  rw [← hGd] at M
  have ok2 : (insE 4 t [x] ws).F.Ok (fun i => i < (insE 4 t [x] ws).N) hG2 := by rw [hN]; exact M.okG
  have hkind : 4 ≠ (4 : Int) → (ndT t x).kind = 3 := fun e => hIP.2.2.2.2.2.1 e x (by simp)
  have hww : ws.length ≤ 200 := by have := nodup_len hIP.2.2.1.nodup (fun y hy => (hIP.2.2.1.rng y hy).2); have := hR.le; omega
  have hl2w : l2 = toI ws := hIP.2.2.1.eq
  obtain ⟨W3, hW3⟩ : ∃ W3, W3 = w3.alloc (.cells #[.int .i64 I] 3) := ⟨_, rfl⟩
  have hbD : Below w3.heap.size w3 W3 := by rw [hW3]; exact (Below.refl _ _).alloc (Nat.le_refl _) _
  have HB4 := Lib.hid (bnext HB3.out hbD)
  have HE : Hid (Calls Try.prog 24 #[.slice ad t.length c, .slice (some ⟨w3.heap.size, 0, none⟩) 1 1, .slice a3 l2.length c3] W3 (Of2Post (insE 4 t [x] ws).F hG2 (insE 4 t [x] ws).nd t.length W3)) := of2_4 ad c t hR (some ⟨w3.heap.size, 0, none⟩) 1 [I] a3 c3 l2 [x] ws hIP hop ok2 hl1 hl2 W3 (HH.out.up HB4.out) (by rw [hW3]; exact isl_single w3 I hIb) (HJ.out.up HB4.out)
  have HR := Lib.hid hR
  have HM := Lib.hid M
  have HL2 : Hid (l2.length = ws.length) := by rw [Hid, hl2w, toI_length]
  have HRow : Hid (∀ W, Below w.heap.size w W → RSl W W.heap.size a3 (ivs (toI ws))) := fun W hb => by have := (HJ.out.up hb).row; rw [hl2w] at this; exact this
  have HFin : Hid (∀ w4, Below W3.heap.size W3 w4 → ∀ a m c' a2 m2 c2, OutP (insE 4 t [x] ws).F hG2 (insE 4 t [x] ws).nd t.length a m a2 m2 w4 → m ≤ c' → m = t.length ∧ m2 = t.length ∧ Calls Try.prog 23 #[.slice ad t.length c, .slice a t.length c', .slice a2 t.length c2, .slice a3 l2.length c3, .bool true] w4 (fun e w' => e = .returned (.bool true) ∧ Below w4.heap.size w4 w')) := by
    intro w4 hb4 a m c' a2 m2 c2 hO hmc
    obtain ⟨⟨A, rfl, hA, hs⟩, rfl, hpl⟩ := hO
    rw [hnd] at hs
    have hAl : A.length = t.length := by have := congrArg List.length hs; unfold outL at this; rw [List.length_map, List.length_map, M.len] at this; exact this
    have hT4 := HH.out.up (bnext HB4.out hb4)
    have hpos := hR.pos
    have hle := hR.le
    obtain ⟨bt, ot, rfl, -, -⟩ := hT4.at_ hpos
    obtain ⟨ba, oa, rfl, -, -⟩ := hA.at_ (by omega)
    have hmem : ∀ y ∈ (insE 4 t [x] ws).F.all hG2 0, y < t.length := fun y hy => M.mem.1 hy
    have hshp : Shp A := shp_of M.okG hs hR.root (fun y hy => ndT_kind hR (hmem y hy)) (fun y hy hk => by
      rcases hleaf y hk with h1 | ⟨h1, h2⟩
      · exact ndT_leaf hR (hmem y hy) h1
      · rw [h1]; exact .inr (hkind h2))
    have hSh := shaped_yes M.okG A (by omega) hs (by rw [h20]; omega) hshp (some ⟨ba, oa, none⟩) c' w4 hA
    rw [hAl] at hSh hmc ⊢
    have hTold := told7_yes (some ⟨bt, ot, none⟩) t.length c (some ⟨ba, oa, none⟩) t.length c' a2 c2 w4 hSh
    refine ⟨rfl, rfl, ?_⟩
    rw [HL2.out]
    exact moved7_yes hR hww M hf0 A hs (fun z hz => (ndW_of hs (fun y hy => ndW_t hR (hmem y hy)) z hz).few) bt ot c ba oa c' HCap.out hmc a2 c2 a3 c3 w4 hT4 hA hpl (HRow.out w4 (bnext HB4.out hb4)) hTold
  clear hy hb3 hR hIP M0 M hN hnd hop hfx hf0 hleaf hlen0 hGd h20 ok2 hkind hww hl2w hIx hbD
  subst hW3
  go_wp2_with fail
  refine HE.out.mono ?_
  rintro e w4 ⟨a5, m5, d5, a6, m6, d6, rfl, hO, hcp, hb4⟩
  obtain ⟨rfl, rfl, hMv⟩ := HFin.out w4 hb4 a5 m5 d5 a6 m6 d6 hO hcp
  have HMv := Lib.hid hMv
  have HB5 := Lib.hid (bnext HB4.out hb4)
  clear hO hcp hb4 hMv
  go_wp2_with fail
  refine HMv.out.mono ?_
  rintro e w5 ⟨rfl, hb5⟩
  have HB6 := Lib.hid (bnext HB5.out hb5)
  clear hb5
  go_wp2_with fail
  go_ret
  exact ⟨by trivial, HB6.out⟩
end Go.Proofs.Ytmhhfljbocbolaa

namespace Go.Proofs.Ytmhhfljbocbolaa
open Go.RowKit
set_option linter.unusedVariables false

/-- The state behind the nodes of L, the last ones. -/
def prS (t : List Nd) (x : Nat) (L : List Nat) : FoS := insOne 2 true ⟨fo0 t, t.length, ndT t, false⟩ x L

theorem innS_F (s : FoS) : ∀ ws : List Nat, (innS true s ws).F = cutAll s.F ws ∧ (innS true s ws).N = s.N ∧ (innS true s ws).nd = s.nd ∧ (innS true s ws).op = s.op := by
  intro ws
  induction ws generalizing s with
  | nil => exact ⟨rfl, rfl, rfl, rfl⟩
  | cons w ws ih => exact ih (s.cut w)

theorem prS_parts (t : List Nd) (x : Nat) (L : List Nat) : (prS t x L).F = (cutAll (fo0 t) L).putRow x 0 L ∧ (prS t x L).N = t.length ∧ (prS t x L).nd = ndT t ∧ (prS t x L).op = false := by
  obtain ⟨h1, h2, h3, h4⟩ := innS_F ⟨fo0 t, t.length, ndT t, false⟩ L
  refine ⟨?_, h2, h3, h4⟩
  show (innS true ⟨fo0 t, t.length, ndT t, false⟩ L).F.putRow x 0 L = _
  rw [h1]

theorem prS_step (t : List Nd) (x w : Nat) {L : List Nat} (hw : w ∉ L) : ((prS t x L).F.cut w).put x 0 w = (prS t x (w :: L)).F := by
  rw [(prS_parts t x L).1, (prS_parts t x (w :: L)).1]
  have e0 : (cutAll (fo0 t) L).kids x = [] ++ (cutAll (fo0 t) L).kids x := rfl
  have e1 := row_cut (F := cutAll (fo0 t) L) (p := x) (k := 0) (L := L) (w := w) e0 rfl hw
  have e2 : (cutAll (fo0 t) L).cut w = cutAll (fo0 t) (w :: L) := by
    refine Fo.ext2 (fun i => ?_) (fun q => ?_)
    · show (if i = w then none else (cutAll (fo0 t) L).par i) = _
      rw [cutAll_par, cutAll_par]
      by_cases e : i = w
      · simp [e]
      · simp [e]
    · show ((cutAll (fo0 t) L).kids q).filter _ = _
      rw [cutAll_kids, cutAll_kids, List.filter_filter]
      refine List.filter_congr fun c _ => ?_
      by_cases e : c = w <;> simp [e]
  rw [e1, e2]
  simp only [List.filter_nil, List.length_nil]
  refine Fo.ext2 (fun i => ?_) (fun q => ?_)
  · show (if i = w then some x else if i ∈ L then some x else (cutAll (fo0 t) (w :: L)).par i) = (if i ∈ w :: L then some x else (cutAll (fo0 t) (w :: L)).par i)
    by_cases e : i = w
    · simp [e]
    · simp [e]
  · show (if q = x then insL (if q = x then List.take 0 ((cutAll (fo0 t) (w :: L)).kids q) ++ L ++ List.drop 0 ((cutAll (fo0 t) (w :: L)).kids q) else (cutAll (fo0 t) (w :: L)).kids q) 0 w else (if q = x then List.take 0 ((cutAll (fo0 t) (w :: L)).kids q) ++ L ++ List.drop 0 ((cutAll (fo0 t) (w :: L)).kids q) else (cutAll (fo0 t) (w :: L)).kids q)) = (if q = x then List.take 0 ((cutAll (fo0 t) (w :: L)).kids q) ++ (w :: L) ++ List.drop 0 ((cutAll (fo0 t) (w :: L)).kids q) else (cutAll (fo0 t) (w :: L)).kids q)
    by_cases e : q = x
    · simp only [if_pos e]; simp [insL]
    · simp only [if_neg e]

theorem prS_nil (t : List Nd) (x : Nat) : (prS t x []).F = fo0 t := by rw [(prS_parts t x []).1]; exact putRow_nil _ _ _

theorem prS_ok {t : List Nd} (hR : RightP t) {l l2 : List Int} {x : Nat} {ws : List Nat} (hP : InsP t.length (fo0 t) (ndT t) 2 l l2 [x] ws) {L : List Nat} (hL : ∀ y ∈ L, y ∈ ws) (hn : L.Nodup) : ∃ h', (prS t x L).F.Ok (fun i => i < t.length) h' := by
  obtain ⟨h, I, -⟩ := ins_inv hR (.inr (.inl rfl)) hP 0 (by simp)
  obtain ⟨h', k1, k2, -⟩ := inv_last (.inr (.inl rfl)) (I.mono hL) hn (fun w hw => (hP.2.2.1.rng w (hL w hw)).2) (fun y hy => (hP.1.rng y hy).2) (x := x) (by simp)
  have k3 : (prS t x L).F.Ok (fun i => i < (prS t x L).N) h' := k1
  rw [(prS_parts t x L).2.1] at k3
  exact ⟨h', k3⟩

set_option maxRecDepth 100000 in
set_option maxHeartbeats 1000000 in
theorem pre_cl {F : Fo} {S : Nat → Prop} {ht : Nat → Nat} (o : F.Ok S ht) {nd : Nat → Nd} (w : World) (B : Nat) (bl : Nat → Nat) (st : Nat → Dn) (h : Prog F S nd B bl st w) (x c : Nat) (hx : S x) (hc : S c) (hcn : F.par c = none) (hpc : x ≠ c) :
    Calls Try.prog 63 #[.pointer (some ⟨bl x, 0, none⟩), .pointer (some ⟨bl c, 0, none⟩)] w (TurnPost (F.put x 0 c) S nd B bl w) := by
  obtain ⟨-, -, c1, -⟩ := h.dom.cells hx
  rw [(h.fit x hx).fst] at c1
  have HI := Lib.hid (insertP_any o w B bl st h x c hx hc hcn hpc [] (F.kids x) rfl)
  obtain ⟨v, hv⟩ : ∃ v, v = ptrTo bl (F.kids x).head? := ⟨_, rfl⟩
  rw [← hv] at c1 HI
  obtain ⟨q, hq⟩ : ∃ q, v = .pointer q := ⟨_, hv⟩
  subst hq
  clear h o hcn hv
  go_enter Try.func63, Try.ntmps63
  go_wp2_with fail
  refine HI.out.mono ?_
  rintro e w2 ⟨rfl, h2, h3⟩
  have H2 := Lib.hid h2
  have H3 := Lib.hid h3
  clear h2 h3
  go_wp2_with fail
  go_end0
  exact ⟨rfl, H2.out, H3.out⟩
end Go.Proofs.Ytmhhfljbocbolaa

namespace Go.Proofs.Ytmhhfljbocbolaa
open Go.RowKit
set_option linter.unusedVariables false

theorem Prog.keptG {F : Fo} {S : Nat → Prop} {nd : Nat → Nd} {B : Nat} {bl : Nat → Nat} {st : Nat → Dn} {w w' : World} (h : Prog F S nd B bl st w) {g : Nat} {cur : Array Value} (hg : w.heap[g]? = some (.cells cur 69 (0, 0))) (hT : KTurn (fun _ => True) (fun _ => g) w w') : Prog F S nd B bl st w' := by
  refine ⟨⟨fun i hi => ?_, h.dom.inj⟩, h.fit, h.self⟩
  obtain ⟨hB, aa, ac, hh, ho⟩ := h.dom.node i hi
  exact ⟨hB, aa, ac, (hT.block _ (Array.getElem?_eq_some_iff.1 hh).1 (fun _ _ => types_ne hh hg (by decide))).trans hh, hT.own ho fun _ _ => Go.Proofs.Ytmhhfljbocbolaa.own_ne ho hg (by decide)⟩

/-- Which one stands at a place while a row is turned around. -/
def rvI (n i q : Nat) : Nat := if q < i ∨ n - i ≤ q then n - 1 - q else q
theorem rvI_zero {n q : Nat} (hq : q < n) : rvI n 0 q = q := by unfold rvI; rw [if_neg (by omega)]
theorem rvI_end {n i q : Nat} (hq : q < n) (h1 : 2 * i ≤ n) (h2 : n ≤ 2 * i + 1) : rvI n i q = n - 1 - q := by
  unfold rvI
  by_cases h : q < i ∨ n - i ≤ q
  · rw [if_pos h]
  · rw [if_neg h]; omega

def RvR (g n i : Nat) (bl : Nat → Nat) (ws : List Nat) (wr : World) : Prop := ∃ cur, wr.heap[g]? = some (.cells cur 69 (0, 0)) ∧ ∀ q, q < n → cur[q]? = some (.pointer (some ⟨bl (ws.getD (rvI n i q) 0), 0, none⟩))

theorem RvR.cell {g n i : Nat} {bl : Nat → Nat} {ws : List Nat} {wr : World} (h : RvR g n i bl ws wr) {q : Nat} (hq : q < n) : wr.cell? ⟨g, q, none⟩ = some (.pointer (some ⟨bl (ws.getD (rvI n i q) 0), 0, none⟩)) ∧ wr.frozen? ⟨g, q, none⟩ = false := by
  obtain ⟨cur, h1, h2⟩ := h
  exact ⟨by rw [cell_of_row wr g q _ _ _ h1, h2 q hq], frozen_of_row wr g q _ _ h1⟩

theorem RvR.swap {g n i : Nat} {bl : Nat → Nat} {ws : List Nat} {wr : World} (h : RvR g n i bl ws wr) {j : Nat} (hij : i < j) (hj : j = n - 1 - i) (hn : j < n) :
    RvR g n (i + 1) bl ws ((wr.drew.setCell ⟨g, i, none⟩ (.pointer (some ⟨bl (ws.getD (rvI n i j) 0), 0, none⟩))).setCell ⟨g, j, none⟩ (.pointer (some ⟨bl (ws.getD (rvI n i i) 0), 0, none⟩))) := by
  obtain ⟨cur, h1, h2⟩ := h
  have h1d : wr.drew.heap[g]? = some (.cells cur 69 (0, 0)) := h1
  have k1 := heap_setCell_same wr.drew g i _ _ (.pointer (some ⟨bl (ws.getD (rvI n i j) 0), 0, none⟩)) h1d
  have k2 := heap_setCell_same _ g j _ _ (.pointer (some ⟨bl (ws.getD (rvI n i i) 0), 0, none⟩)) k1
  refine ⟨_, k2, fun q hq => ?_⟩
  have hi0 : i < cur.size := (Array.getElem?_eq_some_iff.1 (h2 i (by omega))).1
  have hj0 : j < cur.size := (Array.getElem?_eq_some_iff.1 (h2 j hn)).1
  have r1 : rvI n i i = i := by unfold rvI; rw [if_neg (by omega)]
  have r2 : rvI n i j = j := by unfold rvI; rw [if_neg (by omega)]
  rw [r1, r2]
  by_cases e : q = j
  · subst e
    have : rvI n (i + 1) q = i := by unfold rvI; rw [if_pos (by omega)]; omega
    rw [this]
    simp [hj0]
  · by_cases e2 : q = i
    · subst e2
      have : rvI n (q + 1) q = j := by unfold rvI; rw [if_pos (by omega)]; omega
      rw [this]
      simp [Ne.symm e, hi0]
    · have : rvI n (i + 1) q = rvI n i q := by
        unfold rvI
        by_cases h3 : q < i ∨ n - i ≤ q
        · rw [if_pos h3, if_pos (by omega)]
        · rw [if_neg h3, if_neg (by omega)]
      rw [this, ← h2 q hq]
      simp [Ne.symm e, Ne.symm e2]

theorem KTurn.g_set {w w' : World} {g : Nat} (h : KTurn (fun _ => True) (fun _ => g) w w') (j : Nat) (v : Value) : KTurn (fun _ => True) (fun _ => g) w (w'.setCell ⟨g, j, none⟩ v) := KTurn.set (S := fun _ => True) (kb := fun _ => g) h (i := 0) trivial j v

def PrePost (t : List Nd) (x : Nat) (ws : List Nat) (B : Nat) (bl : Nat → Nat) (gs C2 : Nat) (w : World) (e : Ending) (w' : World) : Prop :=
  e = .returned (.pointer (some ⟨gs, 0, none⟩)) ∧ (∃ st', Prog (prS t x ws).F (fun i => i < t.length) (ndT t) B bl st' w') ∧ Turn (fun i => i < t.length) bl C2 w w'

set_option maxRecDepth 100000 in
set_option maxHeartbeats 8000000 in
theorem man_2 {t : List Nd} (hR : RightP t) {l l2 : List Int} {x : Nat} {ws : List Nat} (hIP : InsP t.length (fo0 t) (ndT t) 2 l l2 [x] ws) {B : Nat} {bl : Nat → Nat} {st : Nat → Dn} {w : World} (hP : Prog (fo0 t) (fun i => i < t.length) (ndT t) B bl st w)
    (gs : Nat) (doc prev a1 : Option Addr) (c1 C C2 : Nat) (hsb : SelB w gs a1 1 c1 doc prev) (hown : w.ownsRow C 69 1 (.slice a1 1 c1) 1 (ptrs bl [x])) (hdis : ∀ b, (Value.slice a1 1 c1).ownBlock = some b → b < C2) (a : Option Addr) (c : Nat) (ho2 : w.ownsRow C2 69 1 (.slice a ws.length c) ws.length (ptrs bl ws)) :
    Calls Try.prog 58 #[.pointer (some ⟨gs, 0, none⟩), .slice a ws.length c, .bool true, .func (.func 63) #[] #[]] w (PrePost t x ws B bl gs C2 w) := by
  have hwe := hIP.2.2.2.1
  have hwn := hIP.2.2.1.nodup
  have hws : ∀ y ∈ ws, y < t.length := fun y hy => (hIP.2.2.1.rng y hy).2
  have hle := hR.le
  have hwl : ws.length ≤ 200 := by have := nodup_len hwn hws; omega
  have hxn : x < t.length := (hIP.1.rng x (by simp)).2
  have hpos : 0 < ws.length := List.length_pos_iff.2 hwe
  obtain ⟨z0, -, -⟩ := hsb.cells
  have HSz := Lib.hid (size_sel gs a1 1 c1 w z0)
  obtain ⟨g, c', rfl⟩ : ∃ g c', a = some ⟨g, 0, none⟩ := by
    obtain ⟨g, cap, e⟩ := own_some ho2 hpos
    cases e
    exact ⟨g, c, rfl⟩
  have hRv0 : RvR g ws.length 0 bl ws w := by
    rcases ho2.2 with ⟨e, _⟩ | ⟨g', cap, cur, e, _, hh, hcap, _, hsz, htk⟩
    · cases e
    · injection e with e1 _ _
      injection e1 with e1
      injection e1 with e1
      subst e1
      refine ⟨cur, hh, fun q hq => ?_⟩
      rw [rvI_zero hq]
      have h1 : (ptrs bl ws)[q]? = some (.pointer (some ⟨bl (ws.getD q 0), 0, none⟩)) := by
        unfold ptrs
        rw [List.getElem?_map, List.getElem?_eq_getElem hq, List.getD_eq_getElem?_getD, List.getElem?_eq_getElem hq]; rfl
      rw [← htk, List.getElem?_take, if_pos (by omega)] at h1
      simpa using h1
  have hgC : C2 ≤ g := (ho2.lt g rfl).1
  have hgl : g < w.heap.size := (ho2.lt g rfl).2
  have HRv0 := Lib.hid hRv0
  obtain ⟨cur0, hg0, -⟩ := hRv0
  -- behind the turning
  have HAft : Hid (∀ w0, KTurn (fun _ => True) (fun _ => g) w w0 → Prog (fo0 t) (fun i => i < t.length) (ndT t) B bl st w0 ∧ SelB w0 gs a1 1 c1 doc prev ∧ RSl w0 w0.heap.size a1 (ptrs bl [x])) := fun w0 hT => by
    refine ⟨hP.keptG hg0 hT, (hT.block gs hsb.lt (fun _ _ => types_ne hsb hg0 (by decide))).trans hsb, ?_⟩
    obtain ⟨_, _, hv, _, hrs⟩ := RSl.own (hT.own hown fun _ _ e => by have := hdis g e; omega)
    cases hv
    exact hrs
  have HGn : Hid (∀ i, i < t.length → g ≠ bl i) := fun i hi => by
    obtain ⟨_, _, _, hh, _⟩ := hP.dom.node i hi
    exact types_ne hg0 hh (by decide)
  have HOk : Hid (∀ m, ∃ h', (prS t x (ws.drop m)).F.Ok (fun i => i < t.length) h') := fun m => prS_ok hR hIP (fun y hy => List.mem_of_mem_drop hy) (hwn.sublist (List.drop_sublist m ws))
  have HW := Lib.hid hws
  have HWn := Lib.hid hwn
  have hxw : ∀ y ∈ ws, x ≠ y := fun y hy e => by
    obtain ⟨i, hi, rfl⟩ := List.getElem_of_mem hy
    exact hIP.2.2.2.2.1.2 i 0 hi (by simp) (by subst e; exact .self)
  have HXw := Lib.hid hxw
  have hg0t := Lib.hid hg0
  clear hIP hP hsb hown ho2 hg0 hws hwn hwe hxw hR
  go_enter Try.func58, Try.ntmps58
  go_wp2_with fail
  refine HSz.out.mono ?_
  rintro e w1 ⟨rfl, rfl⟩
  go_wp2_with fail
  go_loopw [10, 11] (fun v10 v11 wr => ∃ i : Nat, 2 * i ≤ ws.length ∧ v10 = .int .i64 i ∧ v11 = .int .i64 ((ws.length : Int) - 1 - (i : Int)) ∧ RvR g ws.length i bl ws wr ∧ KTurn (fun _ => True) (fun _ => g) w1 wr) (fun v _ _ => ws.length - (intOf v).toNat)
  case atStart => exact ⟨0, by omega, rfl, by simp, HRv0.out, KTurn.refl _ _ _⟩
  case round =>
    obtain ⟨i, hi, rfl, rfl, hRv, hT⟩ := hrel
    clear z0
    by_cases hij : 2 * i + 1 < ws.length
    · obtain ⟨j, hj⟩ : ∃ j, j = ws.length - 1 - i := ⟨_, rfl⟩
      have ej : (ws.length : Int) - 1 - (i : Int) = (j : Int) := by omega
      rw [ej]
      have hjn : j < ws.length := by omega
      obtain ⟨c1', f1⟩ := hRv.cell (q := i) (by omega)
      obtain ⟨c2', f2⟩ := hRv.cell (q := j) hjn
      have hs2 := hRv.swap (show i < j by omega) hj hjn
      obtain ⟨p1, hp1⟩ : ∃ p1, p1 = bl (ws.getD (rvI ws.length i i) 0) := ⟨_, rfl⟩
      obtain ⟨p2, hp2⟩ : ∃ p2, p2 = bl (ws.getD (rvI ws.length i j) 0) := ⟨_, rfl⟩
      rw [← hp1] at c1' hs2
      rw [← hp2] at c2' hs2
      have hT2 : KTurn (fun _ => True) (fun _ => g) w1 ((wr.drew.setCell ⟨g, i, none⟩ (.pointer (some ⟨p2, 0, none⟩))).setCell ⟨g, j, none⟩ (.pointer (some ⟨p1, 0, none⟩))) := ((hT.drew).g_set i _).g_set j _
      have HS2 := Lib.hid hs2
      have HT2 := Lib.hid hT2
      have hlt : i < j := by omega
      have hjm : Hid (j = ws.length - 1 - i) := hj
      clear hRv hT hs2 hT2 hp1 hp2 ej hj
      go_wp2_with fail
      go_region
      all_goals
        go_wp2_with fail
        go_roundw
        case rel => exact ⟨i + 1, by omega, by go_num, by have := hjm.out; congr 1; omega, HS2.out, HT2.out⟩
        case measure => simp [intOf]; omega
    · have nij : ¬ ((i : Int) < (ws.length : Int) - 1 - (i : Int)) := by omega
      obtain ⟨W0, rfl⟩ : ∃ W0 : World, W0 = wr := ⟨_, rfl⟩
      obtain ⟨hP0, hsb0, hrx⟩ := HAft.out W0 hT
      obtain ⟨y0, -, -⟩ := hsb0.cells
      obtain ⟨bx, ox, rfl, -, hcx⟩ := hrx.at_ (by simp [ptrs])
      have gx := hcx 0 (by simp [ptrs])
      simp only [ptrs, List.map_cons, List.map_nil, List.getElem_cons_zero, Nat.add_zero] at gx
      have HP0 := Lib.hid hP0
      have HT0 := Lib.hid hT
      have HCl : Hid (∀ wr2, KTurn (fun i => i < t.length) bl W0 wr2 → ∀ m, m < ws.length → wr2.cell? ⟨g, m, none⟩ = some (.pointer (some ⟨bl (ws.getD (ws.length - 1 - m) 0), 0, none⟩))) := fun wr2 hT2 m hm => by
        have h1 := (hRv.cell (q := m) hm).1
        rw [rvI_end hm hi (by omega)] at h1
        obtain ⟨cur, h2, _⟩ := hRv
        exact (World.cell?_of_block (a := ⟨g, m, none⟩) (hT2.block g (Array.getElem?_eq_some_iff.1 h2).1 (fun i hi => HGn.out i hi))).trans h1
      have HFin : Hid (∀ wr2 st', KTurn (fun i => i < t.length) bl W0 wr2 → Prog (prS t x ws).F (fun i => i < t.length) (ndT t) B bl st' wr2 → PrePost t x ws B bl gs C2 w1 (.returned (.pointer (some ⟨gs, 0, none⟩))) wr2) := fun wr2 st' hT2 hP2 => by
        refine ⟨rfl, ⟨st', hP2⟩, hT2.os.trans HT0.out.os, hT2.tape.trans HT0.out.tape, hT2.output.trans HT0.out.output, Nat.le_trans HT0.out.size hT2.size, fun b hb hn => ?_⟩
        by_cases hbw : b < w1.heap.size
        · rw [hT2.block b (Nat.lt_of_lt_of_le hbw HT0.out.size) hn]
          exact HT0.out.block b hbw (fun _ _ => by omega)
        · omega
      clear hRv hT hP0 hsb0 hrx hcx hij
      go_wp2_with fail
      go_loopw [49] (fun v wr => (v = .int .i64 0 ∧ wr = W0) ∨ (v = .int .i64 1 ∧ ∃ st', KTurn (fun i => i < t.length) bl W0 wr ∧ Prog (prS t x ws).F (fun i => i < t.length) (ndT t) B bl st' wr)) (fun v _ => (1 - intOf v).toNat)
      case atStart => exact .inl ⟨rfl, rfl⟩
      case round =>
        rcases hrel with ⟨rfl, e0⟩ | ⟨rfl, st', hT2, hP2⟩
        · have e1 : W0 = wr := e0.symm
          subst e1
          clear e0
          go_wp2_with fail
          go_loopw [56] (fun v wr => ∃ (m : Nat) (st' : Nat → Dn), m ≤ ws.length ∧ v = .int .i64 m ∧ KTurn (fun i => i < t.length) bl W0 wr ∧ Prog (prS t x (ws.drop (ws.length - m))).F (fun i => i < t.length) (ndT t) B bl st' wr) (fun v _ => ws.length - (intOf v).toNat)
          case atStart => exact ⟨0, st, by omega, rfl, KTurn.refl _ _ _, by rw [Nat.sub_zero, List.drop_length, prS_nil]; exact HP0.out⟩
          case round =>
            obtain ⟨m, st', hm, rfl, hT2, hP2⟩ := hrel
            obtain ⟨W2, rfl⟩ : ∃ W2 : World, W2 = wr := ⟨_, rfl⟩
            by_cases hlm : m < ws.length
            · have g1 := HCl.out W2 hT2 m hlm
              obtain ⟨k, hk⟩ : ∃ k, k = ws.length - 1 - m := ⟨_, rfl⟩
              have hkl : k < ws.length := by omega
              rw [← hk, List.getD_eq_getElem?_getD, List.getElem?_eq_getElem hkl, Option.getD_some] at g1
              have hkm : ws.length - m = k + 1 := by omega
              rw [hkm] at hP2
              have hdr : ws.drop (ws.length - (m + 1)) = ws[k] :: ws.drop (k + 1) := by
                have : ws.length - (m + 1) = k := by omega
                rw [this, List.drop_eq_getElem_cons hkl]
              have hwt := HW.out ws[k] (List.getElem_mem hkl)
              have hwx := HXw.out ws[k] (List.getElem_mem hkl)
              have hwd : ws[k] ∉ ws.drop (k + 1) := fun hmem => by
                obtain ⟨q, hq, e⟩ := List.getElem_of_mem hmem
                rw [List.getElem_drop] at e
                have := (List.getElem_inj HWn.out).1 e
                omega
              obtain ⟨h', ok⟩ := HOk.out (k + 1)
              obtain ⟨-, c0, -⟩ := hP2.dom.cells hwt
              rw [(hP2.fit _ hwt).par] at c0
              have HStp : Hid (((prS t x (ws.drop (k + 1))).F.cut ws[k]).put x 0 ws[k] = (prS t x (ws.drop (ws.length - (m + 1)))).F) := by rw [Hid, hdr]; exact prS_step t x ws[k] hwd
              have hcn : ((prS t x (ws.drop (k + 1))).F.cut ws[k]).par ws[k] = none := if_pos rfl
              have HPc : Hid (∀ w4 st4, Prog ((prS t x (ws.drop (k + 1))).F.cut ws[k]) (fun i => i < t.length) (ndT t) B bl st4 w4 → Calls Try.prog 63 #[.pointer (some ⟨bl x, 0, none⟩), .pointer (some ⟨bl ws[k], 0, none⟩)] w4 (TurnPost (((prS t x (ws.drop (k + 1))).F.cut ws[k]).put x 0 ws[k]) (fun i => i < t.length) (ndT t) B bl w4)) := fun w4 st4 h4 => pre_cl (ok.cut ws[k]) w4 B bl st4 h4 x ws[k] hxn hwt hcn hwx
              cases hp0 : (prS t x (ws.drop (k + 1))).F.par ws[k] with
              | none =>
                rw [hp0] at c0
                simp only [ptrTo, Option.map_none] at c0
                have hC4 := HPc.out W2 st' (by rw [Fo.cut_none ok hp0]; exact hP2)
                rw [HStp.out] at hC4
                have HC4 := Lib.hid hC4
                have HT2 := Lib.hid hT2
                obtain ⟨y, hy⟩ : ∃ y, y = bl ws[k] := ⟨_, rfl⟩
                rw [← hy] at g1 HC4 c0
                clear hy hdr hwt hwx hwd ok hcn hp0 hP2 hT2 hC4 HPc HStp hk hkm
                go_wp2_with fail
                refine HC4.out.mono ?_
                rintro e w5 ⟨rfl, ⟨st5, hP5⟩, hO5⟩
                have HP5 := Lib.hid hP5
                have HT5 := Lib.hid (HT2.out.trans (KTurn.of_only hO5))
                clear hP5 hO5
                go_wp2_with fail
                go_roundw
                case rel => exact ⟨m + 1, st5, hlm, by go_num, HT5.out, HP5.out⟩
                case measure => simp [intOf]; omega
              | some q =>
                rw [hp0] at c0
                simp only [ptrTo, Option.map_some] at c0
                have HRem := Lib.hid (removeP_any ok W2 B bl st' hP2 q ws[k] hp0)
                have HT2 := Lib.hid hT2
                have HPc2 : Hid (∀ w4 st4, Prog ((prS t x (ws.drop (k + 1))).F.cut ws[k]) (fun i => i < t.length) (ndT t) B bl st4 w4 → Calls Try.prog 63 #[.pointer (some ⟨bl x, 0, none⟩), .pointer (some ⟨bl ws[k], 0, none⟩)] w4 (TurnPost ((prS t x (ws.drop (ws.length - (m + 1)))).F) (fun i => i < t.length) (ndT t) B bl w4)) := fun w4 st4 h4 => by have := HPc.out w4 st4 h4; rw [HStp.out] at this; exact this
                obtain ⟨y, hy⟩ : ∃ y, y = bl ws[k] := ⟨_, rfl⟩
                rw [← hy] at g1 HRem c0 HPc2
                clear hy hdr hwt hwx hwd ok hcn hp0 hP2 hT2 HPc HStp hk hkm
                go_wp2_with fail
                refine HRem.out.mono ?_
                rintro e w4 ⟨rfl, ⟨st4, hP4⟩, hO4⟩
                have HC4 := Lib.hid (HPc2.out w4 st4 hP4)
                have HT4 := Lib.hid (HT2.out.trans (KTurn.of_only hO4))
                clear hP4 hO4 g1 c0
                go_wp2_with fail
                refine HC4.out.mono ?_
                rintro e w5 ⟨rfl, ⟨st5, hP5⟩, hO5⟩
                have HP5 := Lib.hid hP5
                have HT5 := Lib.hid (HT4.out.trans (KTurn.of_only hO5))
                clear hP5 hO5
                go_wp2_with fail
                go_roundw
                case rel => exact ⟨m + 1, st5, hlm, by go_num, HT5.out, HP5.out⟩
                case measure => simp [intOf]; omega
            · have e : ws.length - m = 0 := by omega
              rw [e, List.drop_zero] at hP2
              have HP2 := Lib.hid hP2
              have HT2 := Lib.hid hT2
              clear hP2 hT2 e
              go_wp2_with fail
              go_roundw
              case rel => exact .inr ⟨by go_num, st', HT2.out, HP2.out⟩
              case measure => simp [intOf]
        · have HF := Lib.hid (HFin.out wr st' hT2 hP2)
          clear hT2 hP2
          go_wp2_with fail
          go_ret
          exact HF.out
end Go.Proofs.Ytmhhfljbocbolaa

namespace Go.Proofs.Ytmhhfljbocbolaa
open Go.RowKit
set_option linter.unusedVariables false

set_option maxRecDepth 100000 in
set_option maxHeartbeats 2000000 in
theorem prepend_nodes {t : List Nd} {x : Nat} {ws : List Nat} {B C2 : Nat} {bl : Nat → Nat} (w : World) (g : Nat) (a : Option Addr) (m c : Nat) (h : Calls Try.prog 58 #[.pointer (some ⟨g, 0, none⟩), .slice a m c, .bool true, .func (.func 63) #[] #[]] w (PrePost t x ws B bl g C2 w)) :
    Calls Try.prog 43 #[.pointer (some ⟨g, 0, none⟩), .slice a m c] w (PrePost t x ws B bl g C2 w) := by
  have H := Lib.hid h
  clear h
  go_enter Try.func43, Try.ntmps43
  go_wp2_with fail
  refine H.out.mono ?_
  rintro e w2 ⟨rfl, h2⟩
  have H2 := Lib.hid h2
  clear h2
  go_wp2_with fail
  go_ret
  exact ⟨rfl, H2.out⟩

set_option maxRecDepth 100000 in
set_option maxHeartbeats 4000000 in
theorem of2_2 (a : Option Addr) (c : Nat) (t : List Nd) (hR : RightP t) (ad : Option Addr) (c2 : Nat) (l : List Int) (ad3 : Option Addr) (c3 : Nat) (l2 : List Int) (x : Nat) (ws : List Nat) (hIP : InsP t.length (fo0 t) (ndT t) 2 l l2 [x] ws) (hop : (insE 2 t [x] ws).op = false) {h' : Nat → Nat} (ok : (insE 2 t [x] ws).F.Ok (fun i => i < (insE 2 t [x] ws).N) h')
    (hl : l.length ≤ 2147483647) (hl2 : l2.length ≤ 2147483647) (w : World) (h : NSl w w.heap.size a t) (hi : ISl w w.heap.size ad l) (hi2 : ISl w w.heap.size ad3 l2) :
    Calls Try.prog 25 #[.slice a t.length c, .slice ad l.length c2, .slice ad3 l2.length c3] w (Of2Post (insE 2 t [x] ws).F h' (insE 2 t [x] ws).nd t.length w) := by
  have HSl := Lib.hid (selected_any a c t hR ad c2 l [x] hIP.ord.1 hl w h hi)
  have HR := Lib.hid hR
  have HOk := Lib.hid ok
  have HNb : Hid (∀ i, i < t.length → NdB (ndT t i)) := fun i hi => by
    unfold ndT; rw [getD_at hi]
    exact (h.2.1 _ (List.getElem_mem hi)).ndb
  obtain ⟨-, -, k1, k2, k3⟩ := ins_final hR (.inr (.inl rfl)) hIP
  have HK3 := Lib.hid k3
  have hpos := hR.pos
  have hle := hR.le
  have HThese : Hid (∀ W L bl st, Below w.heap.size w W → L < W.heap.size → Tree t W w.heap.size L bl st → Calls Try.prog 38 #[.slice (some ⟨L, 0, none⟩) t.length t.length, .slice ad3 l2.length c3] W (ThesePost bl ws W)) := fun W L bl st hb hL hT => these_any t hR.le _ L bl st ad3 c3 l2 ws hIP.ord.2 hl2 W hL hT (hi2.up hb)
  have HMan : Hid (∀ W bl st g doc prev a1 c1 C C2 a4 c4, Prog (fo0 t) (fun i => i < t.length) (ndT t) w.heap.size bl st W → SelB W g a1 1 c1 doc prev → W.ownsRow C 69 1 (.slice a1 1 c1) 1 (ptrs bl [x]) → (∀ b, (Value.slice a1 1 c1).ownBlock = some b → b < C2) → W.ownsRow C2 69 1 (.slice a4 ws.length c4) ws.length (ptrs bl ws) → Calls Try.prog 43 #[.pointer (some ⟨g, 0, none⟩), .slice a4 ws.length c4] W (PrePost t x ws w.heap.size bl g C2 W)) := fun W bl st g doc prev a1 c1 C C2 a4 c4 hP hsb ho hd ho2 =>
    prepend_nodes W g a4 ws.length c4 (man_2 hR hIP hP g doc prev a1 c1 C C2 hsb ho hd a4 c4 ho2)
  clear hR h hi hi2 hIP ok k3
  go_enter Try.func25, Try.ntmps25
  go_wp2_with fail
  refine HSl.out.mono ?_
  rintro e w1 ⟨L, bl, st, gw, g0, g, doc, rfl, hL, hT, hW, hsel, hgw, hb1⟩
  have HT := Lib.hid hT
  have HW := Lib.hid hW
  have HB1 := Lib.hid hb1
  have HSel := Lib.hid hsel
  have hgl : gw < w1.heap.size := (Array.getElem?_eq_some_iff.1 hW).1
  have z0 : w1.cell? ⟨gw, 0, none⟩ = some (.slice (some ⟨L, 0, none⟩) t.length t.length) := cell_of_row w1 gw 0 _ _ _ hW
  have HTh := Lib.hid (HThese.out w1 L bl st hb1 hL hT)
  clear hT hW hb1 hsel
  go_wp2_with fail
  refine HTh.out.mono ?_
  rintro e w2 ⟨a1, c1, rfl, hown, hb2⟩
  have HB2 := Lib.hid (bnext HB1.out hb2)
  have HT2 := Lib.hid (HT.out.kept hb2)
  have HW2 : Hid (WorldB w2 gw L t.length g0) := (hb2.block gw hgl).trans HW.out
  have HMn : Hid (Calls Try.prog 43 #[.pointer (some ⟨g, 0, none⟩), .slice a1 ws.length c1] w2 (PrePost t x ws w.heap.size bl g w1.heap.size w2)) := by
    obtain ⟨q1, q2, q3, q4, q5, q6, q7⟩ := HSel.out
    exact HMan.out w2 bl st g doc q3 q1 q2 _ w1.heap.size a1 c1 (HT2.out.prog HR.out) (q4.below hb2 q4.lt) (own_kept q6 (fun b _ h2 => hb2.block b h2)) (fun b hb => (q6.lt b hb).2) hown
  clear hown hb2 z0
  go_wp2_with fail
  refine HMn.out.mono ?_
  rintro e w3 ⟨rfl, ⟨st2, hP3⟩, hT3⟩
  have hLl := hL
  have hW3 : WorldB w3 gw L t.length g0 := (hT3.block gw hgl (fun i hi e => by
    obtain ⟨_, _, _, hh, _⟩ := HT2.out.dom.node i hi
    exact types_ne HW2.out hh (by decide) e)).trans HW2.out
  have hL3 : ∀ j, j < t.length → w3.cell? ⟨L, j, none⟩ = some (.pointer (some ⟨bl j, 0, none⟩)) := fun j hj => by
    obtain ⟨cur, h1, h2, h3⟩ := HT2.out.row
    have h4 := hT3.block L hLl (fun i hi e => by
      obtain ⟨_, _, _, hh, _⟩ := HT2.out.dom.node i hi
      exact types_ne h1 hh (by decide) e)
    rw [cell_of_row w3 L j _ _ _ (h4.trans h1), h3 j hj]; rfl
  have HB3 : Hid (Below w.heap.size w w3) := by
    have h5 := hT3.below (C := w.heap.size) HB1.out.size (fun i hi => (HT2.out.dom.node i hi).1)
    exact HB2.out.trans h5
  obtain ⟨e1, e2, e3, e4⟩ := prS_parts t x ws
  have hP3' : Prog (insE 2 t [x] ws).F (fun i => i < (insE 2 t [x] ws).N) (insE 2 t [x] ws).nd w.heap.size bl st2 w3 := by
    have hE : insE 2 t [x] ws = prS t x ws := rfl
    rw [hE, e2, e3]; exact hP3
  replace hP3 := hP3'
  have hlen : ((insE 2 t [x] ws).F.all h' 0).length ≤ 100000 := by
    have := all_bound HOk.out (n := (insE 2 t [x] ws).N) (x := 0) (fun i hi => hi) (by omega)
    omega
  have HEn := Lib.hid (ends2_any HOk.out (fun i hi => by obtain ⟨z, hz, e⟩ := HK3.out i hi; rw [e]; exact ndG_of HR.out hz) (fun i hi => by obtain ⟨z, hz, e⟩ := HK3.out i hi; rw [e]; exact HNb.out z hz) hpos hle (fun i hi => by omega) hlen w3 hP3 gw L g0 hW3 hL3)
  clear hP3 hP3' hW3 hL3 hT3 hlen e1 e2 e3 e4
  go_wp2_with fail
  refine HEn.out.mono ?_
  rintro e w4 ⟨a3, m3, c3', a4, m4, c4, rfl, hOut, hcap, hb3⟩
  have HFin : Hid (Of2Post (insE 2 t [x] ws).F h' (insE 2 t [x] ws).nd t.length w (.returned (.tuple #[.slice a3 m3 c3', .slice a4 m4 c4, .bool true])) w4) :=
    ⟨_, _, _, _, _, _, rfl, hOut, hcap, bnext HB3.out hb3⟩
  clear hOut hb3 hcap
  go_wp2_with fail
  go_ret3
  exact HFin.out

end Go.Proofs.Ytmhhfljbocbolaa

namespace Go.Proofs.Ytmhhfljbocbolaa
open Go.RowKit
set_option linter.unusedVariables false

section
variable {F : Fo} {S : Nat → Prop} {h : Nat → Nat} {nd : Nat → Nd} {A : List Nd} {x a : Nat}

/-- What is listed beneath a node: sizes. -/
theorem lst_sz (o : F.Ok S h) (hs : A.map strip = outL F h nd 0) {i z : Nat} (hz : (F.all h 0)[i]? = some z) : i < A.length ∧ (A.getD i default).size = ((F.all h z).length : Int) ∧ sz A i = (F.all h z).length := by
  have hl : A.length = (F.all h 0).length := by have := congrArg List.length hs; unfold outL at this; simpa using this
  have hi : i < A.length := by rw [hl]; exact (List.getElem?_eq_some_iff.1 hz).1
  have h1 := congrArg (fun l => l[i]?) hs
  unfold outL at h1
  simp only [List.getElem?_map, hz, Option.map_some, List.getElem?_eq_getElem hi, Option.some.injEq] at h1
  have e1 : (A.getD i default).size = ((F.all h z).length : Int) := by
    rw [List.getD_eq_getElem?_getD, List.getElem?_eq_getElem hi, Option.getD_some]
    exact show (strip A[i]).size = _ by rw [h1]; rfl
  exact ⟨hi, e1, by unfold sz; rw [e1]; rfl⟩

theorem lst_lam (o : F.Ok S h) (hs : A.map strip = outL F h nd 0) (hx : (F.all h 0)[a]? = some x) : Lam A a (a + (F.all h x).length) := by
  intro i h1 h2
  obtain ⟨q, rfl⟩ : ∃ q, i = a + q := ⟨i - a, by omega⟩
  have hq : q < (F.all h x).length := by omega
  have hz : (F.all h x)[q]? = some (F.all h x)[q] := List.getElem?_eq_getElem hq
  have hz0 := all_sub_at o _ 0 a x (Nat.lt_succ_self _) hx q _ hz
  obtain ⟨k1, k2, k3⟩ := lst_sz o hs hz0
  have hf := all_fits o hz
  refine ⟨by rw [k2, k3], by rw [k3]; exact hf.1, by rw [k3]; omega, fun j h3 h4 => ?_⟩
  rw [k3] at h4 ⊢
  obtain ⟨r, rfl⟩ : ∃ r, j = a + q + r := ⟨j - (a + q), by omega⟩
  have hr : r < (F.all h (F.all h x)[q]).length := by omega
  have hy : (F.all h (F.all h x)[q])[r]? = some (F.all h (F.all h x)[q])[r] := List.getElem?_eq_getElem hr
  have hy0 := all_sub_at o _ 0 (a + q) _ (Nat.lt_succ_self _) hz0 r _ hy
  obtain ⟨-, -, m3⟩ := lst_sz o hs hy0
  have hg := all_fits o hy
  rw [m3]; omega

/-- Where a kid is listed. -/
theorem kid_at (o : F.Ok S h) (hx : (F.all h 0)[a]? = some x) {j : Nat} (hj : j < (F.kids x).length) : (F.all h 0)[a + 1 + (soFar F h x j).length]? = some (F.kids x)[j] := by
  have e : F.all h x = (x :: soFar F h x j) ++ (F.all h (F.kids x)[j] ++ ((F.kids x).drop (j + 1)).flatMap (F.all h)) := by
    rw [F.all_eq o x]
    unfold soFar
    conv => lhs; rw [← List.take_append_drop j (F.kids x), List.drop_eq_getElem_cons hj, List.flatMap_append, List.flatMap_cons]
    rfl
  have h1 : (F.all h x)[1 + (soFar F h x j).length]? = some (F.kids x)[j] := by
    rw [e, List.getElem?_append_right (by simp; omega), List.length_cons]
    have e2 : 1 + (soFar F h x j).length - ((soFar F h x j).length + 1) = 0 := by omega
    rw [e2, F.all_eq o (F.kids x)[j]]; rfl
  have := all_sub_at o _ 0 a x (Nat.lt_succ_self _) hx _ _ h1
  rw [Nat.add_assoc]; exact this

theorem kids_lst (o : F.Ok S h) (hs : A.map strip = outL F h nd 0) (hx : (F.all h 0)[a]? = some x) : kidsL A a = (List.range (F.kids x).length).map fun j => a + 1 + (soFar F h x j).length := by
  have hl := lst_lam o hs hx
  obtain ⟨-, -, k3⟩ := lst_sz o hs hx
  have hp := kids_len o x
  have hend := congrArg List.length (soFar_end o x)
  rw [List.length_cons] at hend
  rw [← k3] at hl
  rw [kidsL_eq hl (by omega), k3]
  rw [k3] at hl
  have key : ∀ k j, j + k = (F.kids x).length → kidsFrom A (a + (F.all h x).length - (a + 1 + (soFar F h x j).length)) (a + 1 + (soFar F h x j).length) (a + (F.all h x).length) = ((List.range (F.kids x).length).drop j).map fun j => a + 1 + (soFar F h x j).length := by
    intro k
    induction k with
    | zero =>
      intro j hj
      have e : j = (F.kids x).length := by omega
      subst e
      have e2 : a + (F.all h x).length - (a + 1 + (soFar F h x (F.kids x).length).length) = 0 := by omega
      rw [e2, List.drop_of_length_le (by simp)]; rfl
    | succ k ih =>
      intro j hj
      have hlt : j < (F.kids x).length := by omega
      have h1 := soFar_len o x (j + 1)
      rw [soFar_succ F h x j hlt, List.length_append] at h1
      have h2 := kids_len o (F.kids x)[j]
      have hk : a + 1 + (soFar F h x j).length < a + (F.all h x).length := by omega
      obtain ⟨-, -, m3⟩ := lst_sz o hs (kid_at o hx hlt)
      have h3 := ih (j + 1) (by omega)
      rw [kidsFrom_step (hl.from_ (by omega)) hk, m3]
      have e1 : a + 1 + (soFar F h x j).length + (F.all h (F.kids x)[j]).length = a + 1 + (soFar F h x (j + 1)).length := by rw [soFar_succ F h x j hlt, List.length_append]; omega
      rw [e1, h3, List.drop_eq_getElem_cons (show j < (List.range (F.kids x).length).length by simpa using hlt)]
      simp
  have := key (F.kids x).length 0 (by omega)
  simpa [soFar] using this
end

set_option maxRecDepth 100000 in
set_option maxHeartbeats 2000000 in
theorem inRow7_yes (kl ws : List Nat) (P : List Int) (hk : ws.length ≤ kl.length) (hl : kl.length ≤ 100000) (hP : ∀ i (hi : i < ws.length), ∃ h : ws[i] < P.length, P[ws[i]] = (kl[i]'(by omega) : Int)) (ak : Option Addr) (ck : Nat) (aw : Option Addr) (cw : Nat) (a2 : Option Addr) (n c2 : Nat) (hn : n = P.length) (w : World) (h1 : RSl w w.heap.size ak (ints kl)) (h2 : RSl w w.heap.size aw (ivs (toI ws))) (h3 : RSl w w.heap.size a2 (ivs P)) :
    Calls Try.prog 26 #[.slice ak kl.length ck, .int .i64 0, .slice aw ws.length cw, .slice a2 n c2] w (fun e w' => e = .returned (.bool true) ∧ Below w.heap.size w w') := by
  have HP := Lib.hid hP
  have H1 := Lib.hid h1
  have H2 := Lib.hid h2
  have H3 := Lib.hid h3
  have HN := Lib.hid hn
  clear hP h1 h2 h3 hn
  go_enter Try.func26, Try.ntmps26
  go_wp2_with fail
  go_loopw [9] (fun v wr => ∃ i : Nat, i ≤ ws.length ∧ v = .int .i64 i ∧ Below w.heap.size w wr) (fun v _ => ws.length - (intOf v).toNat)
  case atStart => exact ⟨0, by omega, rfl, Below.refl _ _⟩
  case round =>
    obtain ⟨i, hi, rfl, hb⟩ := hrel
    obtain ⟨W, rfl⟩ : ∃ W : World, W = wr := ⟨_, rfl⟩
    have HB := Lib.hid hb
    clear hb
    by_cases hlt : i < ws.length
    · obtain ⟨hwp, he⟩ := HP.out i hlt
      have hik : i < kl.length := by omega
      obtain ⟨b1, o1, rfl, -, hc1⟩ := (H1.out.up HB.out).at_ (by rw [ints_length]; omega)
      have g1 := hc1 i (by rw [ints_length]; exact hik)
      have e1 : (ints kl)[i]'(by rw [ints_length]; exact hik) = .int .i64 (kl[i] : Int) := by simp [ints]
      replace g1 := g1.trans (congrArg some e1)
      obtain ⟨b2, o2, rfl, -, hc2⟩ := (H2.out.up HB.out).at_ (by rw [ivs_length, toI_length]; omega)
      have g2 := hc2 i (by rw [ivs_length, toI_length]; exact hlt)
      have e2 : (ivs (toI ws))[i]'(by rw [ivs_length, toI_length]; exact hlt) = .int .i64 (ws[i] : Int) := by rw [ivs_at (by rw [toI_length]; exact hlt), toI_at hlt]
      replace g2 := g2.trans (congrArg some e2)
      obtain ⟨b3, o3, rfl, -, hc3⟩ := (H3.out.up HB.out).at_ (by rw [ivs_length]; omega)
      have g3 := hc3 ws[i] (by rw [ivs_length]; exact hwp)
      rw [ivs_at hwp, he] at g3
      have hwn : ws[i] < n := by rw [HN.out]; exact hwp
      obtain ⟨y, hy⟩ : ∃ y, y = ws[i] := ⟨_, rfl⟩
      obtain ⟨k, hk2⟩ : ∃ k, k = kl[i] := ⟨_, rfl⟩
      rw [← hy] at g2 g3 hwn
      rw [← hk2] at g1 g3
      have f1 : ¬ ((i : Int) < 0) := by omega
      have f0 : decide ((i : Int) < 0) = false := decide_eq_false f1
      have f2 : decide ((kl.length : Int) ≤ (i : Int)) = false := decide_eq_false (by omega)
      have f3 : ((k : Int) != (k : Int)) = false := by simp
      clear hc1 hc2 hc3 e1 e2 hy hk2 hwp he
      go_wp2_with fail
      go_quiet (fail)
      go_wp2_with fail
      go_roundw
      case rel => exact ⟨i + 1, by omega, by go_num, below_drewN HB.out _⟩
      case measure => simp [intOf]; omega
    · go_wp2_with fail
      go_ret
      exact ⟨rfl, HB.out⟩
end Go.Proofs.Ytmhhfljbocbolaa

namespace Go.Proofs.Ytmhhfljbocbolaa
open Go.RowKit
set_option linter.unusedVariables false

set_option maxRecDepth 100000 in
set_option maxHeartbeats 8000000 in
theorem FnPrepended_walk (ad : Option Addr) (len c : Nat) (t : List Nd) (I : Int) (a3 : Option Addr) (len3 c3 : Nat) (l2 : List Int) (w : World) (h : NSl w w.heap.size ad t ∧ len = t.length ∧ len ≤ c) (hI : (Lit.int .i64 I).wf = true) (hj : ISl w w.heap.size a3 l2 ∧ len3 = l2.length) :
    Calls Try.prog 9 #[.slice ad len c, .int .i64 I, .slice a3 len3 c3] w fun e w' => e = .returned (.bool true) ∧ Below w.heap.size w w' := by
  obtain ⟨h, rfl, hcap⟩ := h
  obtain ⟨hj, rfl⟩ := hj
  have hIb := wf_bounds hI
  have HH := Lib.hid h
  have hll2 := hj.len
  have HJ := Lib.hid hj
  have HCap := Lib.hid hcap
  unfold maxLen at hll2
  clear h hj hI hcap
  go_enter Try.func9, Try.ntmps9
  go_wp2_with fail
  refine (zzFits1_any _ _ t _ HH.out).mono ?_
  rintro e w1 ⟨rfl, hb1⟩
  have HB1 := Lib.hid hb1
  clear hb1
  cases hf : fits1 t
  · go_wp2_with fail
    go_ret
    exact ⟨rfl, HB1.out⟩
  by_cases k2 : 2147483647 < l2.length
  · go_wp2_with fail
    go_ret
    exact ⟨rfl, HB1.out⟩
  have hl2 : l2.length ≤ 2147483647 := by omega
  have hl1 : [I].length ≤ 2147483647 := by simp
  obtain ⟨W1, hW1⟩ : ∃ W1, W1 = w1.alloc (.cells #[.int .i64 I] 3) := ⟨_, rfl⟩
  have hbA : Below w1.heap.size w1 W1 := by rw [hW1]; exact (Below.refl _ _).alloc (Nat.le_refl _) _
  have HBA := Lib.hid (bnext HB1.out hbA)
  have HOn : Hid (ISl W1 W1.heap.size (some ⟨w1.heap.size, 0, none⟩) [I]) := by rw [hW1]; exact isl_single w1 I hIb
  have HC : Hid (ChC t ad c (InsG t 2 [I] l2) 2 (some ⟨w1.heap.size, 0, none⟩) 1 1 a3 l2.length c3 W1) := fun W sb hb hs => changedIns_any 2 (.inr (.inl rfl)) ad c t hf W (HH.out.up (bnext HBA.out hb)) sb (some ⟨w1.heap.size, 0, none⟩) 1 [I] hl1 (HOn.out.up hb) a3 c3 l2 hl2 (HJ.out.up (bnext HBA.out hb)) hs
  have HSt := Lib.hid (step7_any 2 (some ⟨w1.heap.size, 0, none⟩) 1 1 a3 l2.length c3 W1)
  clear hbA
  subst hW1
  go_wp2_with fail
  refine HSt.out.mono ?_
  rintro e w2 ⟨rfl, hb2⟩
  have HB2 := Lib.hid (bnext HBA.out hb2)
  have HCW := Lib.hid (HC.out.up hb2)
  clear hb2
  go_wp2_with fail
  refine (sure7_any HCW.out).mono ?_
  rintro e w3 ⟨b, rfl, hy, hb3⟩
  have HB3 := Lib.hid (bnext HB2.out hb3)
  cases b
  · clear hy hb3
    go_wp2_with fail
    go_ret
    exact ⟨rfl, HB3.out⟩
  obtain ⟨hR, F, S, hh, nd, xs, ws, hIP, -, -, -, -⟩ := hy rfl
  obtain ⟨x, rfl, hIx⟩ := cho_one hIP.1
  obtain ⟨⟨hG, M0⟩, hN, hnd, hop, hfx, hf0, hleaf⟩ := ins_mv hR (.inr (.inl rfl)) hIP
  have M : Mv t.length (fo0 t) (insE 2 t [x] ws).F (sz t) (fun y => ((insE 2 t [x] ws).F.all hG y).length) ws := ⟨M0.ok, len_ok M0.okG, M0.lt, M0.sub, M0.kids, M0.top, M0.pos⟩
  have hlen0 := M0.len
  obtain ⟨hG2, hGd⟩ : ∃ hG2, hG2 = (fun y => ((insE 2 t [x] ws).F.all hG y).length) := ⟨_, rfl⟩
  have h20 : hG2 0 = t.length := by rw [hGd]; exact hlen0
  rw [← hGd] at M
  have ok2 : (insE 2 t [x] ws).F.Ok (fun i => i < (insE 2 t [x] ws).N) hG2 := by rw [hN]; exact M.okG
  have hkind : 2 ≠ (4 : Int) → (ndT t x).kind = 3 := fun e => hIP.2.2.2.2.2.1 e x (by simp)
  have hww : ws.length ≤ 200 := by have := nodup_len hIP.2.2.1.nodup (fun y hy => (hIP.2.2.1.rng y hy).2); have := hR.le; omega
  have hl2w : l2 = toI ws := hIP.2.2.1.eq
  obtain ⟨W3, hW3⟩ : ∃ W3, W3 = w3.alloc (.cells #[.int .i64 I] 3) := ⟨_, rfl⟩
  have hbD : Below w3.heap.size w3 W3 := by rw [hW3]; exact (Below.refl _ _).alloc (Nat.le_refl _) _
  have HB4 := Lib.hid (bnext HB3.out hbD)
  have HE : Hid (Calls Try.prog 25 #[.slice ad t.length c, .slice (some ⟨w3.heap.size, 0, none⟩) 1 1, .slice a3 l2.length c3] W3 (Of2Post (insE 2 t [x] ws).F hG2 (insE 2 t [x] ws).nd t.length W3)) := of2_2 ad c t hR (some ⟨w3.heap.size, 0, none⟩) 1 [I] a3 c3 l2 x ws hIP hop ok2 hl1 hl2 W3 (HH.out.up HB4.out) (by rw [hW3]; exact isl_single w3 I hIb) (HJ.out.up HB4.out)
  have HR := Lib.hid hR
  have HM := Lib.hid M
  have HL2 : Hid (l2.length = ws.length) := by rw [Hid, hl2w, toI_length]
  have HRow : Hid (∀ W, Below w.heap.size w W → RSl W W.heap.size a3 (ivs (toI ws))) := fun W hb => by have := (HJ.out.up hb).row; rw [hl2w] at this; exact this
  have hxt : x < t.length := (hIP.1.rng x (by simp)).2
  have hkx : ∃ R, (insE 2 t [x] ws).F.kids x = ws ++ R := by
    have hE : insE 2 t [x] ws = prS t x ws := rfl
    rw [hE, (prS_parts t x ws).1]
    refine ⟨(cutAll (fo0 t) ws).kids x, ?_⟩
    show (if x = x then List.take 0 ((cutAll (fo0 t) ws).kids x) ++ ws ++ List.drop 0 ((cutAll (fo0 t) ws).kids x) else _) = _
    rw [if_pos rfl]; simp
  have HFin : Hid (∀ w4, Below W3.heap.size W3 w4 → ∀ a m c' a2 m2 c2, OutP (insE 2 t [x] ws).F hG2 (insE 2 t [x] ws).nd t.length a m a2 m2 w4 → m ≤ c' → m = t.length ∧ m2 = t.length ∧ Calls Try.prog 20 #[.slice ad t.length c, .slice a t.length c', .slice a2 t.length c2, .bool true] w4 (fun e w' => e = .returned (.bool true) ∧ Below w4.heap.size w4 w') ∧
      ∃ (b o p : Nat) (A : List Nd), a2 = some ⟨b, o, none⟩ ∧ (∀ W, Below w4.heap.size w4 W → W.cell? ⟨b, o + x, none⟩ = some (.int .i64 (p : Int))) ∧ (∀ W, Below w4.heap.size w4 W → Calls Try.prog 17 #[.slice a t.length c', .int .i64 (p : Int)] W (KidsPost A p W)) ∧
        ∀ W, Below w4.heap.size w4 W → ∀ ak ck, RSl W W.heap.size ak (ints (kidsL A p)) → Calls Try.prog 26 #[.slice ak (kidsL A p).length ck, .int .i64 0, .slice a3 l2.length c3, .slice a2 t.length c2] W (fun e w' => e = .returned (.bool true) ∧ Below W.heap.size W w')) := by
    intro w4 hb4 a m c' a2 m2 c2 hO hmc
    obtain ⟨⟨A, rfl, hA, hs⟩, rfl, hpl⟩ := hO
    rw [hnd] at hs
    have hAl : A.length = t.length := by have := congrArg List.length hs; unfold outL at this; rw [List.length_map, List.length_map, M.len] at this; exact this
    have hpos := hR.pos
    have hle := hR.le
    have hmem : ∀ y ∈ (insE 2 t [x] ws).F.all hG2 0, y < t.length := fun y hy => M.mem.1 hy
    have hshp : Shp A := shp_of M.okG hs hR.root (fun y hy => ndT_kind hR (hmem y hy)) (fun y hy hk => by
      rcases hleaf y hk with h1 | ⟨h1, h2⟩
      · exact ndT_leaf hR (hmem y hy) h1
      · rw [h1]; exact .inr (hkind h2))
    have hSh := shaped_yes M.okG A (by omega) hs (by rw [h20]; omega) hshp a c' w4 hA
    rw [hAl] at hSh hmc ⊢
    have hTold := told7_yes ad t.length c a t.length c' a2 c2 w4 hSh
    obtain ⟨-, p, p1, p2, p3⟩ := M.at_ hxt
    have hpl2 : (placeL (insE 2 t [x] ws).F hG2 t.length).length = t.length := by simp [placeL]
    obtain ⟨b, o, rfl, hbB, hc⟩ := hpl.at_ (by rw [ivs_length, hpl2]; omega)
    obtain ⟨R, hkR⟩ := hkx
    refine ⟨rfl, rfl, hTold, b, o, p, A, rfl, fun W hb => ?_, fun W hb => ?_, fun W hb ak ck hr => ?_⟩
    · have g1 := hc x (by rw [ivs_length, hpl2]; exact hxt)
      have e1 : (ivs (placeL (insE 2 t [x] ws).F hG2 t.length))[x]'(by rw [ivs_length, hpl2]; exact hxt) = .int .i64 (p : Int) := by
        rw [ivs_at (by rw [hpl2]; exact hxt)]
        rw [List.getElem?_eq_getElem (by rw [hpl2]; exact hxt), Option.some.injEq] at p3
        rw [p3]
      rw [hb.cell (p := ⟨b, _, none⟩) hbB]
      exact g1.trans (congrArg some e1)
    · obtain ⟨k1, k2, k3⟩ := lst_sz M.okG hs p2
      have hf := all_fits M.okG p2
      have hl := lst_lam M.okG hs p2
      rw [← k3] at hl
      have := kids_any a c' A (by omega) p (p : Int) rfl W (hA.up hb) k1 hl (by rw [k3, hAl, ← M.len]; exact hf.2) (by rw [k3]; exact hf.1)
      rw [hAl] at this; exact this
    · rw [HL2.out]
      have hkl := kids_lst M.okG hs p2
      have hkll : (kidsL A p).length = ((insE 2 t [x] ws).F.kids x).length := by rw [hkl]; simp
      have hwk : ws.length ≤ ((insE 2 t [x] ws).F.kids x).length := by rw [hkR, List.length_append]; omega
      have hks := M.okG.kids_le (fun i hi => hi) x
      refine inRow7_yes (kidsL A p) ws (placeL (insE 2 t [x] ws).F hG2 t.length) (by omega) (by omega) (fun i hi => ?_) ak ck a3 c3 (some ⟨b, o, none⟩) t.length c2 hpl2.symm W hr (HRow.out W (bnext (bnext HB4.out hb4) hb)) (hpl.up hb)
      have hwt := M.lt ws[i] (List.getElem_mem hi)
      obtain ⟨-, q, q1, q2, q3⟩ := M.at_ hwt
      have hik : i < ((insE 2 t [x] ws).F.kids x).length := by omega
      have h1 := kid_at M.okG p2 hik
      have h2 : ((insE 2 t [x] ws).F.kids x)[i] = ws[i] := by simp only [hkR]; rw [List.getElem_append_left hi]
      rw [h2] at h1
      have hn := (insE 2 t [x] ws).F.all_nodup M.okG _ 0 (Nat.le_refl _)
      have h3 := (List.getElem?_inj (by exact (List.getElem?_eq_some_iff.1 q2).1) hn).1 (q2.trans h1.symm)
      refine ⟨by rw [hpl2]; exact hwt, ?_⟩
      rw [List.getElem?_eq_getElem (by rw [hpl2]; exact hwt), Option.some.injEq] at q3
      rw [q3, h3]
      simp only [hkl, List.getElem_map, List.getElem_range]
  clear hy hb3 hR hIP M0 M hN hnd hop hfx hf0 hleaf hlen0 hGd h20 ok2 hkind hww hl2w hbD hkx
  subst hW3
  subst hIx
  have hxn200 : x < t.length := hxt
  have en : ((t.length : Int) == (t.length : Int)) = true := by simp
  go_wp2_with fail
  refine HE.out.mono ?_
  rintro e w4 ⟨a5, m5, d5, a6, m6, d6, rfl, hO, hcp, hb4⟩
  obtain ⟨rfl, rfl, hTold, b, o, p, A, rfl, hCell, hKids, hRow7⟩ := HFin.out w4 hb4 a5 m5 d5 a6 m6 d6 hO hcp
  have HTo := Lib.hid hTold
  have HCe := Lib.hid hCell
  have HKi := Lib.hid hKids
  have HRo := Lib.hid hRow7
  have HB5 := Lib.hid (bnext HB4.out hb4)
  clear hO hcp hb4 hTold hCell hKids hRow7
  go_wp2_with fail
  refine HTo.out.mono ?_
  rintro e w5 ⟨rfl, hb5⟩
  have g1 := HCe.out w5 hb5
  have HB55 := Lib.hid hb5
  have HK5 := Lib.hid (HKi.out w5 hb5)
  clear hb5
  go_wp2_with fail
  refine HK5.out.mono ?_
  rintro e w6 ⟨ak, ck, rfl, hr6, hb6⟩
  have HB66 := Lib.hid (bnext HB55.out hb6)
  have HR6 := Lib.hid (HRo.out w6 HB66.out ak ck hr6)
  clear hb6 hr6
  go_wp2_with fail
  refine HR6.out.mono ?_
  rintro e w7 ⟨rfl, hb7⟩
  have HB7 := Lib.hid (bnext HB5.out (bnext HB66.out hb7))
  clear hb7
  go_wp2_with fail
  go_ret
  exact ⟨by trivial, HB7.out⟩
end Go.Proofs.Ytmhhfljbocbolaa
