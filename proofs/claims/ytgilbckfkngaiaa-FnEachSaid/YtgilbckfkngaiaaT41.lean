/- AddNodes: the reference's list. -/
import Derived.Test.YtgilbckfkngaiaaT39
import Derived.Deep.RegionLaw
namespace Go.Proofs.Ytgilbckfkngaiaa
open Go.RowKit
set_option linter.unusedVariables false

theorem own_empty (w : World) (t : TypeId) : (w.alloc (.cells #[] t)).drew.ownsRow w.heap.size t 1 (.slice (some ⟨w.heap.size, 0, none⟩) 0 0) 0 [] := by
  refine ⟨by simp, .inr ⟨w.heap.size, 0, #[], rfl, Nat.le_refl _, ?_, by omega, by simp [maxLen], rfl, rfl⟩⟩
  exact heap_alloc_new w _

theorem ivs_append (l m : List Int) : ivs (l ++ m) = ivs l ++ ivs m := by simp [ivs]

section
variable (w : World)
theorem wp_append_ints {o : Oper} {a : Act} {K : Act → World → Prop} {Q : Exit → Act → World → Prop} (s x : Operand)
    (ho : o.op = .call { callee := .builtin .append, args := #[s, x], argTypes := #[37, 37] })
    (base : Nat) (v : Value) (xs : List Int) (hs : a.eval s = v) (hown : w.ownsRow base 3 1 v xs.length (ivs xs))
    (A : Option Addr) (c : Nat) (ys : List Int) (hx : a.eval x = .slice A ys.length c) (hr : RSl w w.heap.size A (ivs ys)) (hlen : xs.length + ys.length ≤ 1000000) (hbase : base ≤ w.heap.size)
    (h : ∀ a' c' w', w'.ownsRow base 3 1 (.slice a' (xs ++ ys).length c') (xs ++ ys).length (ivs (xs ++ ys)) → w.grownBy w' v.ownBlock → ((Value.slice a' (xs ++ ys).length c').ownBlock = v.ownBlock ∨ (Value.slice a' (xs ++ ys).length c').ownBlock = some w.heap.size) → K (a.put o.dst (.slice a' (xs ++ ys).length c')) w') :
    Oper.wp Try.prog o a w K Q := by
  obtain ⟨i0, hinf, hz0, hz1, hz2⟩ := info_parts Try.info3
  have hR := hr.reads
  rw [ivs_length] at hR
  refine wp_append_any w s x 37 ho base 3 i0 (.int .i64 0) 1 8 Try.underlying37 hinf hz0 hz1 hz2 rfl (by decide) v xs.length (ivs xs) hs hown w.heap.size A ys.length c (ivs ys) hx hR (one_ivs ys) (by unfold maxLen; omega) (by omega) hbase ?_
  intro v' w' h1 h2 h3
  rw [← ivs_append, ← List.length_append] at h1
  obtain ⟨a', c', rfl⟩ := own_slice h1
  exact h a' c' w' h1 h2 h3

theorem step_append_ints {ops : Array Oper} {o : Oper} {a : Act} {K : Act → World → Prop} {Q : Exit → Act → World → Prop} {E : Prop} (hgd : o.guard = none) (s x : Operand)
    (ho : o.op = .call { callee := .builtin .append, args := #[s, x], argTypes := #[37, 37] })
    (base : Nat) (v : Value) (xs : List Int) (hs : a.eval s = v) (hown : w.ownsRow base 3 1 v xs.length (ivs xs))
    (A : Option Addr) (c : Nat) (ys : List Int) (hx : a.eval x = .slice A ys.length c) (hr : RSl w w.heap.size A (ivs ys)) (hlen : xs.length + ys.length ≤ 1000000) (hbase : base ≤ w.heap.size)
    (h : ∀ a' c' w', w'.ownsRow base 3 1 (.slice a' (xs ++ ys).length c') (xs ++ ys).length (ivs (xs ++ ys)) → w.grownBy w' v.ownBlock → ((Value.slice a' (xs ++ ys).length c').ownBlock = v.ownBlock ∨ (Value.slice a' (xs ++ ys).length c').ownBlock = some w.heap.size) → K (a.put o.dst (.slice a' (xs ++ ys).length c')) w') :
    if Region.wanted o (yielded ops a.tmps) = true then Oper.wp Try.prog o a w K Q else E := by
  have hw : Region.wanted o (yielded ops a.tmps) = true := by simp [Region.wanted, hgd]
  rw [if_pos hw]
  exact wp_append_ints w s x ho base v xs hs hown A c ys hx hr hlen hbase h

theorem wpList_append_ints {ops : Array Oper} {rest : List Oper} {o : Oper} {a : Act} {Q : Exit → Act → World → Prop} (hgd : o.guard = none) (s x : Operand)
    (ho : o.op = .call { callee := .builtin .append, args := #[s, x], argTypes := #[37, 37] })
    (base : Nat) (v : Value) (xs : List Int) (hs : a.eval s = v) (hown : w.ownsRow base 3 1 v xs.length (ivs xs))
    (A : Option Addr) (c : Nat) (ys : List Int) (hx : a.eval x = .slice A ys.length c) (hr : RSl w w.heap.size A (ivs ys)) (hlen : xs.length + ys.length ≤ 1000000) (hbase : base ≤ w.heap.size)
    (h : ∀ a' c' w', w'.ownsRow base 3 1 (.slice a' (xs ++ ys).length c') (xs ++ ys).length (ivs (xs ++ ys)) → w.grownBy w' v.ownBlock → ((Value.slice a' (xs ++ ys).length c').ownBlock = v.ownBlock ∨ (Value.slice a' (xs ++ ys).length c').ownBlock = some w.heap.size) → wpList Try.prog ops Q rest (a.put o.dst (.slice a' (xs ++ ys).length c')) w') :
    wpList Try.prog ops Q (o :: rest) a w :=
  wpList_plain hgd fun _ hK => wp_append_ints w s x ho base v xs hs hown A c ys hx hr hlen hbase fun a' c' w' h2 h3 h4 => hK _ _ (h a' c' w' h2 h3 h4)
end

set_option maxRecDepth 100000 in
set_option maxHeartbeats 4000000 in
theorem relAdd_any (ad : Option Addr) (n c : Nat) (a2 : Option Addr) (c2 : Nat) (l : List Int) (hl : l.length ≤ 1000) (a3 : Option Addr) (c3 : Nat) (m : List Int) (hm : m.length ≤ 1000) (w : World) (h2 : RSl w w.heap.size a2 (ivs l)) (h3 : RSl w w.heap.size a3 (ivs m)) :
    Calls Try.prog 47 #[.slice ad n c, .slice a2 l.length c2, .agg #[.int .i64 37, .string ⟨#[]⟩, .slice a3 m.length c3, .int .i64 0, .int .i64 0]] w (ListPost (onceL (l ++ m)) w) := by
  have hb0 : Below w.heap.size w (w.alloc (.cells #[.int .i64 37, .string ⟨#[]⟩, .slice a3 m.length c3, .int .i64 0, .int .i64 0] 62)) := (Below.refl _ _).alloc (Nat.le_refl _) _
  have HB0 := Lib.hid hb0
  have H2 := Lib.hid (h2.up hb0)
  have H3 := Lib.hid (h3.up hb0)
  clear h2 h3 hb0
  go_enter Try.func47, Try.ntmps47
  go_wp2_with fail
  have hbox : (w.alloc (.cells #[.int .i64 37, .string ⟨#[]⟩, .slice a3 m.length c3, .int .i64 0, .int .i64 0] 62)).cell? ⟨w.heap.size, 2, none⟩ = some (.slice a3 m.length c3) := by rw [World.cell?_alloc_mark]; rfl
  have hbl : w.heap.size < (w.alloc (.cells #[.int .i64 37, .string ⟨#[]⟩, .slice a3 m.length c3, .int .i64 0, .int .i64 0] 62)).heap.size := by simp
  obtain ⟨W, hW⟩ : ∃ W, W = (w.alloc (.cells #[.int .i64 37, .string ⟨#[]⟩, .slice a3 m.length c3, .int .i64 0, .int .i64 0] 62)) := ⟨_, rfl⟩
  rw [← hW] at HB0 H2 H3 hbox hbl ⊢
  clear hW
  have HE := Lib.hid (own_empty W 3)
  have hb1 : Below W.heap.size W (W.alloc (.cells #[] 3)).drew := ((Below.refl _ _).alloc (Nat.le_refl _) _).drew
  have HB1 := Lib.hid hb1
  have g1 : (W.alloc (.cells #[] 3)).drew.cell? ⟨w.heap.size, 2, none⟩ = some (.slice a3 m.length c3) := (hb1.cell (p := ⟨w.heap.size, 2, none⟩) hbl).trans hbox
  have hs1 := hb1.size
  clear hb1
  go_region_law (first
    | (refine step_append_ints _ rfl (.tmp 32) (.tmp 33) rfl W.heap.size (.slice (some ⟨W.heap.size, 0, none⟩) 0 0) [] rfl HE.out a2 c2 l rfl (H2.out.up HB1.out) (by simp; omega) hs1 ?_
       intro p1 q1 w1 hown1 hg1 hat1
       have hb2 : Below W.heap.size W w1 := HB1.out.grown hg1 hs1 (fun q hq => (HE.out.lt q hq).1)
       have g2 := (hb2.cell (p := ⟨w.heap.size, 2, none⟩) hbl).trans hbox
       have hs2 := hb2.size
       have HB2 := Lib.hid hb2
       rw [List.nil_append] at hown1
       have HO1 := Lib.hid hown1
       clear hown1 hg1 hat1 hb2)
    | (refine step_append_ints _ rfl (.tmp 34) (.tmp 36) rfl W.heap.size (.slice p1 l.length q1) l rfl HO1.out a3 c3 m rfl (H3.out.up HB2.out) (by omega) hs2 ?_
       intro p2 q2 w2 hown2 hg2 hat2
       have hb3 : Below W.heap.size W w2 := HB2.out.grown hg2 hs2 (fun q hq => (HO1.out.lt q hq).1)
       have HB3 := Lib.hid hb3
       have HOnce : Hid (Calls Try.prog 88 #[.slice p2 (l.length + m.length) q2] w2 (OwnIPost (onceL (l ++ m)) w2)) := by
         obtain ⟨p3, q3, hv3, _, hrs3⟩ := RSl.own hown2
         cases hv3
         have := once_any p2 q2 (l ++ m) (by rw [List.length_append]; omega) w2 hrs3
         rw [List.length_append] at this
         exact this
       clear hown2 hg2 hat2 hb3)
    | (go_simp; go_at_call 88; refine HOnce.out.mono ?_; rintro e w3 ⟨v, rfl, hown3, hb4⟩; have HO3 := Lib.hid hown3; have HB4 := Lib.hid hb4; clear hown3 hb4))
  all_goals
    go_wp2_with fail
    go_ret2
    exact ⟨v, rfl, HO3.out.base (by have := HB0.out.size; have := HB3.out.size; omega), bnext HB0.out (bnext HB3.out HB4.out)⟩
end Go.Proofs.Ytgilbckfkngaiaa
