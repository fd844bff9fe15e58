/- FnCloneApart, where what it reads is of bulk at most 1048576: the law answers true, and its arguments read afterwards as before. (The frame round the walk: after the guide's own frame.) -/
import Derived.Test.YtgajepeipddacaaGreatJ7
import Derived.ProofKit
import Derived.OpenShut
import Derived.JoinedCond
import Derived.ChangeOld
import Derived.Below
open Go.ChangeShapes Go.WideShapes Go.ChangeAt Go.RowKit
namespace Go.Proofs.YtgajepeipddacaaGreat.fnCloneApart
set_option linter.unusedVariables false
theorem own : ownKnob Tryz.prog.godebug = none := by kernel_rfl
theorem laidOut : laidOutB Tryz.prog = true := by kernel_rfl
open Go.Deep in
theorem open_nodes_c {H : Type} {enc : TypeId × Value → H} {w : World} {base : Nat} {spare : Nat → Bool} {held : Bool} {a : Option Addr} {len cap : Nat} {d : DataW H} {p : List MemPlace} (h : DataW.Trod enc Tryz.prog w base spare held 22 (.slice a len cap) d p) :
    ∃ l : List Nd, Gp w w.heap.size a l ∧ len = l.length ∧ len ≤ cap := by
  obtain ⟨l, h1, h2⟩ := open_nodes h
  refine ⟨l, h1, h2, ?_⟩
  obtain ⟨fuel, h⟩ := h
  rcases open_slice_fields Tryz.underlying22 Tryz.underlying41 (by kernel_rfl) (by kernel_rfl) h with ⟨hcs, _⟩ | ⟨a', len', cap', m, D, Pl, hcs, _, hl, _⟩
  · simp [Value.cells] at hcs
    omega
  · simp [Value.cells] at hcs
    obtain ⟨_, h3, h4⟩ := hcs
    omega
theorem open_ints_b {H : Type} {enc : TypeId × Value → H} {w : World} {base : Nat} {spare : Nat → Bool} {held : Bool} {a : Option Addr} {len cap : Nat} {d : DataW H} {p : List MemPlace} (h : DataW.Trod enc Tryz.prog w base spare held 23 (.slice a len cap) d p) :
    ∃ l : List Int, (Kj w w.heap.size a l ∧ len = l.length ∧ len ≤ cap) ∧ l.length ≤ Rows.uptoBulk d := by
  obtain ⟨l, h1, h2, h3⟩ := open_ints_c h
  obtain ⟨fuel, hf⟩ := h
  obtain ⟨aa, ac, l', e, -, b⟩ := open_intsF (v := .slice a len cap) hf
  cases e
  exact ⟨l, ⟨h1, h2, h3⟩, by rw [← h2]; exact b⟩
set_option maxRecDepth 100000 in
theorem lifted (os : Os) (started : os.Started) (H : Type) (enc : TypeId × Value → H) (F : Stop.Interp) :
    ReturnsInHanded {} Tryz.checked os 3 .any ((Rows.OpenSpec.upto Rows.fnCloneApartSpec).pre6 enc Tryz.prog Tryz.f3 Rows.fnCloneApartUptoRow.domain false) (((Rows.OpenSpec.upto Rows.fnCloneApartSpec).at F).post enc Tryz.prog Tryz.f3 false true false false) := by
  refine returnsInHanded_of_cond (C := Tryz.checked) (s := Rows.OpenSpec.upto Rows.fnCloneApartSpec) (k := Rows.uptoSmall) rfl own started (by kernel_rfl) Tryz.func3
    (OpenSpec.witness (enc := enc) (C := Tryz.checked) (s := Rows.OpenSpec.upto Rows.fnCloneApartSpec) (k := Rows.uptoSmall) rfl false ⟨#[], #[.slice none 0 0, .slice none 0 0, .slice none 0 0, .slice none 0 0], []⟩ 8 (by kernel_rfl) (by kernel_rfl) (by kernel_rfl)
      (x := ([.nil, .nil, .nil, .nil], [], [])) (by kernel_rfl) rfl (by kernel_rfl)) ?_
  intro W base args ds gs before hval0 hW _ hk _
  have hval : ∀ (j : Nat) t v, Tryz.f3.params[j]? = some t → args[j]? = some v → Value.okWide Tryz.prog W .any base t v := hval0
  have hW' := hW
  obtain ⟨p, q, hA0, hV, rfl, hfz, hnd⟩ := hW
  have hA : DataW.TrodAll enc Tryz.prog W 0 (fun _ => true) true Tryz.f3.params.toList args.toList ds p := hA0
  rw [Tryz.params3] at hA hval
  obtain ⟨v0, vs0, d0, ds0, p0, q0, hargs, rfl, rfl, h0, r0⟩ := trodAll_cons hA
  obtain ⟨v1, vs1, d1, ds1, p1, q1, rfl, rfl, rfl, h1, r1⟩ := trodAll_cons r0
  obtain ⟨v2, vs2, d2, ds2, p2, q2, rfl, rfl, rfl, h2, r2⟩ := trodAll_cons r1
  obtain ⟨v3, vs3, d3, ds3, p3, q3, rfl, rfl, rfl, h3, r3⟩ := trodAll_cons r2
  obtain ⟨rfl, rfl, rfl⟩ := trodAll_nil r3
  obtain rfl : args = #[v0, v1, v2, v3] := by cases args; simp_all
  obtain ⟨rfl, rfl⟩ := trodVars_none hV
  have hb : Rows.uptoBulkAll ([d0, d1, d2, d3] ++ []) ≤ 1048576 := of_decide_eq_true hk
  simp only [List.append_nil, Rows.uptoBulkAll] at hb
  obtain ⟨a0, len0, cap0, rfl⟩ := okWide_slice Tryz.underlying22 (hval 0 22 v0 rfl rfl)
  have k0 := h0
  have lt0 : ∀ x ∈ p0, x.block < W.heap.size := by obtain ⟨m, hm⟩ := k0; exact DataW.trod_lt m _ _ _ hm
  obtain ⟨z0, w0⟩ : ∃ l : List Nd, Gp W W.heap.size a0 l ∧ len0 = l.length ∧ len0 ≤ cap0 := open_nodes_c h0
  obtain ⟨a1, len1, cap1, rfl⟩ := okWide_slice Tryz.underlying23 (hval 1 23 v1 rfl rfl)
  have k1 := h1
  have lt1 : ∀ x ∈ p1, x.block < W.heap.size := by obtain ⟨m, hm⟩ := k1; exact DataW.trod_lt m _ _ _ hm
  obtain ⟨z1, w1, w1b⟩ := open_ints_b h1
  obtain ⟨a2, len2, cap2, rfl⟩ := okWide_slice Tryz.underlying24 (hval 2 24 v2 rfl rfl)
  have k2 := h2
  have lt2 : ∀ x ∈ p2, x.block < W.heap.size := by obtain ⟨m, hm⟩ := k2; exact DataW.trod_lt m _ _ _ hm
  obtain ⟨z2, w2⟩ := open_steps h2 (by omega)
  obtain ⟨a3, len3, cap3, rfl⟩ := okWide_slice Tryz.underlying24 (hval 3 24 v3 rfl rfl)
  have k3 := h3
  have lt3 : ∀ x ∈ p3, x.block < W.heap.size := by obtain ⟨m, hm⟩ := k3; exact DataW.trod_lt m _ _ _ hm
  obtain ⟨z3, w3⟩ := open_steps h3 (by omega)
  clear hA0 hval0
  refine (FnCloneApart_walk a0 len0 cap0 z0 a1 len1 cap1 z1 a2 len2 cap2 z2 a3 len3 cap3 z3 W w0 w1 (by omega) w2 w3).mono fun e W' ⟨he, bel⟩ => ?_
  subst he
  exact ⟨_, rfl, _, _, _, [], _, [], hW', trodAll_mk1 (shut_bool Tryz.underlying4 _), (trodAll_cons_mk (Below.trod laidOut (by kernel_rfl) (of_decide_eq_true (by kernel_rfl)) k0 bel lt0) (trodAll_cons_mk (Below.trod laidOut (by kernel_rfl) (of_decide_eq_true (by kernel_rfl)) k1 bel lt1) (trodAll_cons_mk (Below.trod laidOut (by kernel_rfl) (of_decide_eq_true (by kernel_rfl)) k2 bel lt2) (trodAll_cons_mk (Below.trod laidOut (by kernel_rfl) (of_decide_eq_true (by kernel_rfl)) k3 bel lt3) trodAll_mk0)))), rfl, bel.frame _, fun h => by cases h⟩
set_option maxHeartbeats 8000000 in
theorem closed : joinedFacts Tryz.pinned.checked.prog 3 Tryz.f3 (Rows.OpenSpec.upto Rows.fnCloneApartSpec).bare Rows.fnCloneApartUptoRow = true := by
  unfold joinedFacts
  simp only [Bool.and_eq_true]
  repeat' (refine And.intro ?_ ?_)
  all_goals first | (with_reducible exact True.intro) | (as_aux_lemma => kernel_rfl)
theorem named : Tryz.pinned.checked.prog.funcNamed Rows.fnCloneApartUptoRow.func = some 3 := by kernel_rfl
set_option maxRecDepth 100000 in
theorem proved : Rows.FnCloneApartUptoSaid :=
  OpenClaim.holds_of_cond 3 Tryz.f3 rfl rfl rfl rfl rfl rfl rfl ⟨rfl, rfl, rfl, rfl, rfl⟩ rfl rfl rfl rfl rfl named Tryz.func3 closed
    (of_decide_eq_true (by kernel_rfl)) (by unfold Func.isWrapper; first | (rw [if_pos (by decide +kernel)]; kernel_rfl) | (rw [if_neg (by decide +kernel)]; exact ⟨rfl, rfl⟩))
    (fun os started H enc _ F => lifted os started H enc F)
#print axioms proved
end Go.Proofs.YtgajepeipddacaaGreat.fnCloneApart
