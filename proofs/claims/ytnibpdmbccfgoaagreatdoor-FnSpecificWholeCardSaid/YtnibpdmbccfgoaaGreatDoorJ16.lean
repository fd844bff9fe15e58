/- FnSpecificWhole: texts joined (joinf.py) -/
import Derived.Test.YtnibpdmbccfgoaaGreatDoorT662
import Derived.Laws.OwnMore
import Derived.Deep.AppendLies
import Derived.Test.YtnibpdmbccfgoaaGreatDoorJ15
import Derived.Laws.StructEq
import Derived.Deep.Quiet
namespace Go.Proofs.YtnibpdmbccfgoaaGreatDoor
open Go.RowKit
set_option linter.unusedVariables false

theorem written_any (a : Option Addr) (c : Nat) (L : List Sn) (hL : L.length ≤ 1000) (u : ST) (w : World) (ha : u.All NOk) (hsz : ∀ x ∈ u.flat, x.key.size ≤ 1000 ∧ x.val.size ≤ 1000) (hlen : (u.flat.map wtB).sum ≤ 100000)
    (h : SSl w w.heap.size a L) (hu : L = u.flat) (hok : u.Ok) : Calls Tryz.prog 7 #[.slice a L.length c] w (StrB (bOf u.wr) w) := by
  have HW : Hid (∀ V, Below w.heap.size w V → Calls Tryz.prog 14 #[.slice a L.length c, .int .i64 0] V (StrB (bOf u.wr) V)) := fun V hV =>
    writtenAt_any a c L hL u.flat.length 0 u V (Nat.le_refl _) ha hsz hlen ((h.below hV).more hV.size) ⟨[], by rw [List.append_nil, hu]; rfl⟩ hok
  have hp := u.len_pos
  have m0 : ((L.length : Int) == 0) = false := beq_eq_false_iff_ne.2 (by rw [hu]; omega)
  clear hu h
  go_enter Tryz.func7, Tryz.ntmps7
  go_wp2_with fail
  refine (HW.out _ (Below.refl _ _)).mono ?_
  rintro e1 w1 ⟨rfl, hb⟩
  have HB := Lib.hid hb
  clear hb
  go_wp2_with fail
  go_ret
  exact ⟨rfl, HB.out⟩
end Go.Proofs.YtnibpdmbccfgoaaGreatDoor

namespace Go.Proofs.YtnibpdmbccfgoaaGreatDoor
open Go.RowKit
set_option linter.unusedVariables false

def cells8 (x : Sn) : List Value := [.int .i64 x.kind, .int .i64 x.op, .string x.key, .string x.val, .int .i64 x.a, .int .i64 x.b, .int .i64 x.flag, .int .i64 x.size]
def cellsL (L : List Sn) : List Value := L.flatMap cells8
theorem cellsL_len : ∀ L : List Sn, (cellsL L).length = L.length * 8
  | [] => rfl
  | x :: L => by
    have := cellsL_len L
    unfold cellsL at this ⊢
    rw [List.flatMap_cons, List.length_append, this]
    simp [cells8]; omega
theorem cellsL_app (L M : List Sn) : cellsL (L ++ M) = cellsL L ++ cellsL M := by unfold cellsL; rw [List.flatMap_append]
theorem cellsL_at : ∀ (L : List Sn) (i j : Nat) (hi : i < L.length), j < 8 → (cellsL L)[i * 8 + j]? = (cells8 L[i])[j]?
  | [], i, j, hi, _ => absurd hi (Nat.not_lt_zero i)
  | x :: L, 0, j, _, hj => by
    show (cells8 x ++ cellsL L)[0 * 8 + j]? = _
    rw [Nat.zero_mul, Nat.zero_add, List.getElem?_append_left (by simp [cells8]; omega)]; rfl
  | x :: L, i + 1, j, hi, hj => by
    show (cells8 x ++ cellsL L)[(i + 1) * 8 + j]? = _
    rw [List.getElem?_append_right (by simp [cells8]; omega), show (i + 1) * 8 + j - (cells8 x).length = i * 8 + j by simp [cells8]; omega]
    exact cellsL_at L i j (by simpa using hi) hj
/-- The cells of a list in memory, one behind the other. -/
theorem ssl_cells {w : World} {b o : Nat} {L : List Sn} (h : ∀ i (hi : i < L.length), SnC w b (o + i * 8) L[i]) : ∀ j u, (cellsL L)[j]? = some u → w.cell? ((⟨b, o, none⟩ : Addr).add j) = some u := by
  intro j u hu
  have hj : j < (cellsL L).length := (List.getElem?_eq_some_iff.1 hu).1
  rw [cellsL_len] at hj
  have hi : j / 8 < L.length := by omega
  have e : j = j / 8 * 8 + j % 8 := by omega
  rw [e, cellsL_at L (j / 8) (j % 8) hi (by omega)] at hu
  have hadd : (⟨b, o, none⟩ : Addr).add j = ⟨b, o + j / 8 * 8 + j % 8, none⟩ := by
    rw [Addr.add_lit, show o + j = o + j / 8 * 8 + j % 8 by omega]
  rw [hadd]
  have hc := h _ hi
  have hm : j % 8 = 0 ∨ j % 8 = 1 ∨ j % 8 = 2 ∨ j % 8 = 3 ∨ j % 8 = 4 ∨ j % 8 = 5 ∨ j % 8 = 6 ∨ j % 8 = 7 := by omega
  rcases hm with q | q | q | q | q | q | q | q <;> rw [q] at hu ⊢ <;> cases hu
  · exact hc.c0
  · exact hc.c1
  · exact hc.c2
  · exact hc.c3
  · exact hc.c4
  · exact hc.c5
  · exact hc.c6
  · exact hc.c7
def zero8 : Value := .agg #[.int .i64 0, .int .i64 0, .string ⟨#[]⟩, .string ⟨#[]⟩, .int .i64 0, .int .i64 0, .int .i64 0, .int .i64 0]
theorem Tryz.infoSelS : (Tryz.prog.info? 25).map (fun i => (i.zero, i.size, i.bytes)) = some (some zero8, 8, 80) := by kernel_rfl
theorem cell8_one (x : Sn) : ∀ u ∈ cells8 x, u.oneCell' = true := by
  intro u hu
  unfold cells8 at hu
  simp at hu
  rcases hu with rfl | rfl | rfl | rfl | rfl | rfl | rfl | rfl <;> rfl
theorem cellsL_one (L : List Sn) : ∀ u ∈ cellsL L, u.oneCell' = true := by
  intro u hu
  obtain ⟨x, _, h⟩ := List.mem_flatMap.1 hu
  exact cell8_one x u h
theorem ssl_own {W : World} {B g cap : Nat} {L : List Sn} (hr : ∀ x ∈ L, SnR x) (hm : L.length ≤ maxLen) (h : W.ownsRow B 25 8 (.slice (some ⟨g, 0, none⟩) L.length cap) L.length (cellsL L)) : SSl W W.heap.size (some ⟨g, 0, none⟩) L := by
  refine ⟨hm, hr, .inr ⟨g, 0, rfl, (h.lt g rfl).2, fun i hi => ?_⟩⟩
  have key : ∀ j, j < 8 → W.cell? ⟨g, 0 + i * 8 + j, none⟩ = (cells8 L[i])[j]? := fun j hj => by
    rw [← cellsL_at L i j hi hj, Nat.zero_add]
    exact h.cellAt _ (by omega)
  exact ⟨key 0 (by omega), key 1 (by omega), key 2 (by omega), key 3 (by omega), key 4 (by omega), key 5 (by omega), key 6 (by omega), key 7 (by omega)⟩
/-- What spec.SelMade hands back. -/
def MadeP (x : Sn) (La Lb : List Sn) (w : World) (e : Ending) (w' : World) : Prop :=
  ∃ p cp, e = .returned (.slice p (1 + La.length + Lb.length) cp) ∧ Below w.heap.size w w' ∧ SSl w' w'.heap.size p ({ x with size := ((1 + La.length + Lb.length : Nat) : Int) } :: (La ++ Lb))

set_option maxRecDepth 100000 in
set_option maxHeartbeats 8000000 in
theorem selMade_any (x : Sn) (La Lb : List Sn) (a1 a2 : Option Addr) (c1 c2 : Nat) (kb ck : Nat) (hx : SnR x) (ha1 : La.length ≤ 60) (ha2 : Lb.length ≤ 60) (hp1 : 0 < La.length) (hp2 : 0 < Lb.length) (w : World) (h1 : SSl w w.heap.size a1 La) (h2 : SSl w w.heap.size a2 Lb)
    (hkb : kb < w.heap.size) (k0 : w.cell? ⟨kb, 0, none⟩ = some (.slice a1 La.length c1)) (k1 : w.cell? ⟨kb, 1, none⟩ = some (.slice a2 Lb.length c2)) :
    Calls Tryz.prog 8 #[x.val8, .slice (some ⟨kb, 0, none⟩) 2 ck] w (MadeP x La Lb w) := by
  have H1 := Lib.hid h1
  have H2 := Lib.hid h2
  obtain ⟨b1, o1, rfl, hb1, hc1⟩ := h1.at_ hp1
  obtain ⟨b2, o2, rfl, hb2, hc2⟩ := h2.at_ hp2
  have HC1 : Hid (∀ V, Below w.heap.size w V → ∀ j u, (cellsL La)[j]? = some u → V.cell? ((⟨b1, o1, none⟩ : Addr).add j) = some u) := fun V hV => ssl_cells (fun i hi => (hc1 i hi).1.below hV hb1)
  have HC2 : Hid (∀ V, Below w.heap.size w V → ∀ j u, (cellsL Lb)[j]? = some u → V.cell? ((⟨b2, o2, none⟩ : Addr).add j) = some u) := fun V hV => ssl_cells (fun i hi => (hc2 i hi).1.below hV hb2)
  have HKc : Hid (∀ V, Below w.heap.size w V → V.cell? ⟨kb, 0, none⟩ = some (.slice (some ⟨b1, o1, none⟩) La.length c1) ∧ V.cell? ⟨kb, 1, none⟩ = some (.slice (some ⟨b2, o2, none⟩) Lb.length c2)) := fun V hV => ⟨(hV.cell (p := ⟨kb, 0, none⟩) hkb).trans k0, (hV.cell (p := ⟨kb, 1, none⟩) hkb).trans k1⟩
  clear h1 h2 hc1 hc2 k0 k1
  unfold Sn.val8
  go_enter Tryz.func8, Tryz.ntmps8
  go_wp2_with fail
  refine wp_gen (R := fun U => U.ownsRow w.heap.size 25 8 (.slice (some ⟨w.heap.size + 1, 0, none⟩) 1 1) 1 (cellsL [x]) ∧ Below w.heap.size w U) ⟨?_, ((Below.refl _ _).alloc (Nat.le_refl _) _).alloc (by simp) _⟩ ?_
  · have := World.ownsRow_lit (base := w.heap.size) (e := 25) (size := 8) (w.alloc (.cells #[.int .i64 x.kind, .int .i64 x.op, .string x.key, .string x.val, .int .i64 x.a, .int .i64 x.b, .int .i64 x.flag, .int .i64 x.size] 25)) #[.int .i64 x.kind, .int .i64 x.op, .string x.key, .string x.val, .int .i64 x.a, .int .i64 x.b, .int .i64 x.flag, .int .i64 x.size] 1 (by simp) (by unfold maxLen; omega) rfl
    rw [show (w.alloc (.cells #[.int .i64 x.kind, .int .i64 x.op, .string x.key, .string x.val, .int .i64 x.a, .int .i64 x.b, .int .i64 x.flag, .int .i64 x.size] 25)).heap.size = w.heap.size + 1 by simp] at this
    exact this
  rintro U ⟨hown, hbU⟩
  have HOwn := Lib.hid hown
  have HBU := Lib.hid hbU
  have hsU := hbU.size
  obtain ⟨k0, k1⟩ := HKc.out U hbU
  clear hown hbU k1
  obtain ⟨i0, hinf, hz0, hz1, hz2⟩ := info_parts Tryz.infoSelS
  refine wp_loop_rounds 3 ?_
  rw [rounds_succ]
  go_wp2_with (at_builtin; go_must (refine wpList_append_own_at _ rfl _ _ 22 rfl w.heap.size 25 i0 zero8 8 80 Tryz.underlying22 hinf hz0 hz1 hz2 rfl (by decide) _ _ _ rfl HOwn.out ⟨b1, o1, none⟩ La.length c1 (cellsL La) rfl (cellsL_len La) (HC1.out _ HBU.out) (cellsL_one La) (by unfold maxLen; omega) (by omega) hsU ?_))
  intro v1 w2 hown2 hgrow2 hne2 hat2
  have HOwn2 := Lib.hid hown2
  have HB2 : Hid (Below w.heap.size w w2) := HBU.out.grown hgrow2 hsU (fun b hb => by have := HOwn.out.lt b hb; omega)
  have hs2 := HB2.out.size
  obtain ⟨k0', k1⟩ := HKc.out w2 HB2.out
  clear hown2 hgrow2 hat2 hne2 k0 k0'
  go_wp2_with fail
  rw [rounds_succ]
  go_wp2_with (at_builtin; go_must (refine wpList_append_own_at _ rfl _ _ 22 rfl w.heap.size 25 i0 zero8 8 80 Tryz.underlying22 hinf hz0 hz1 hz2 rfl (by decide) _ _ _ rfl HOwn2.out ⟨b2, o2, none⟩ Lb.length c2 (cellsL Lb) rfl (cellsL_len Lb) (HC2.out _ HB2.out) (cellsL_one Lb) (by unfold maxLen; omega) (by omega) hs2 ?_))
  intro v2 w3 hown3 hgrow3 hne3 hat3
  have HOwn3 := Lib.hid hown3
  have HB3 : Hid (Below w.heap.size w w3) := HB2.out.grown hgrow3 hs2 (fun b hb => by have := HOwn2.out.lt b hb; omega)
  obtain ⟨g, cap, rfl⟩ : ∃ g cap, v2 = .slice (some ⟨g, 0, none⟩) (1 + La.length + Lb.length) cap := by
    rcases hown3.2 with ⟨_, e2⟩ | ⟨g1, cap, cur, e1, _⟩
    · omega
    · exact ⟨g1, cap, e1⟩
  have hgb := HOwn3.out.lt g rfl
  have fz := HOwn3.out.frozenAt 7
  have c7 := HOwn3.out.cellAt 7 (by omega)
  have hst := HOwn3.out.stored 7 (.int .i64 ((1 + La.length + Lb.length : Nat) : Int))
  have HSt := Lib.hid hst
  clear hown3 hgrow3 hne3 hat3 hst k1
  go_wp2_with fail
  rw [rounds_succ]
  go_wp2_with fail
  go_ret
  have hL : (1 + La.length + Lb.length) = ({ x with size := ((1 + La.length + Lb.length : Nat) : Int) } :: (La ++ Lb)).length := by rw [List.length_cons, List.length_append]; omega
  have hcs : (cellsL [x] ++ (cellsL La ++ cellsL Lb)).set 7 (.int .i64 ((1 + La.length + Lb.length : Nat) : Int)) = cellsL ({ x with size := ((1 + La.length + Lb.length : Nat) : Int) } :: (La ++ Lb)) := by
    show _ = cells8 _ ++ cellsL (La ++ Lb)
    rw [cellsL_app]
    rfl
  have ho := HSt.out.1
  rw [hcs] at ho
  refine ⟨some ⟨g, 0, none⟩, cap, rfl, HB3.out.setCell (p := ⟨g, 7, none⟩) hgb.1 _, ?_⟩
  refine ssl_own (cap := cap) (B := w.heap.size) (fun y hy => ?_) (by unfold maxLen; rw [← hL]; omega) (by rw [← hL]; exact ho)
  rcases List.mem_cons.1 hy with rfl | hy
  · exact ⟨hx.kind, hx.op, hx.key, hx.val, hx.a, hx.b, hx.flag, ⟨by show _ ≤ ((1 + La.length + Lb.length : Nat) : Int); omega, by show ((1 + La.length + Lb.length : Nat) : Int) ≤ _; omega⟩⟩
  · rcases List.mem_append.1 hy with q | q
    · exact H1.out.2.1 y q
    · exact H2.out.2.1 y q
end Go.Proofs.YtnibpdmbccfgoaaGreatDoor

namespace Go.Proofs.YtnibpdmbccfgoaaGreatDoor
open Go.RowKit
set_option linter.unusedVariables false

theorem wrq_pos {L : List Sn} (h : WrQ L) : 0 < L.length := by
  obtain ⟨_, _, t, _, hf, _⟩ := h
  rw [hf]
  exact t.len_pos

/-- A row of numbers equals itself. -/
theorem equalIn_self (P : Program) (w : World) (d : Nat) (t e : TypeId) (n : Nat) (ht : P.underlying t = some (.array n e)) (he : P.underlying e = some (.int .i64)) (hsz : ∀ w, (sizeOf e).run P w = .ok 1 w)
    (xs : List Int) (hx : xs.length = n) : (Op.equalIn (d + 2) t (.agg (xs.map (Value.int .i64)).toArray) (.agg (xs.map (Value.int .i64)).toArray)).run P w = .ok true w := by
  rw [Op.equalIn]
  simp only [Sem.run_bind, run_underlying ht, Result.andThen_ok, hsz, Std.Legacy.Range.forIn_eq_forIn_range', Std.Legacy.Range.size, Nat.sub_zero, Nat.add_sub_cancel, Nat.div_one]
  have hl : ∀ i ∈ List.range' 0 n 1, i < n := fun i hi => by simpa using (List.mem_range'_1.1 hi).2
  generalize List.range' 0 n 1 = l at hl ⊢
  induction l with
  | nil => simp
  | cons i l ih =>
    have hi : i < n := hl i (by simp)
    have px : (part e (xs.map (Value.int .i64)).toArray (i * 1)).run P w = .ok (Value.int .i64 (xs.getD i 0)) w := by
      simp [part, isAgg, run_underlying he, List.getD, List.getElem?_eq_getElem (show i < xs.length by omega)]
    have pe : (Op.equalIn (d + 1) e (Value.int .i64 (xs.getD i 0)) (Value.int .i64 (xs.getD i 0))).run P w = .ok true w := by
      rw [run_equalIn_int w d e .i64 .i64 _ _ he, beq_self_eq_true]
    simp only [List.forIn_cons, Sem.run_bind, px, pe, Result.andThen_ok]
    simp only [Bool.not_true, Bool.false_eq_true, if_false, Sem.run_pure, Result.andThen_ok]
    exact ih fun j hj => hl j (by simp [hj])
theorem eql_self3 (w : World) (a b c : Int) : (binOp .eql 26 (.agg #[.int .i64 a, .int .i64 b, .int .i64 c]) (.agg #[.int .i64 a, .int .i64 b, .int .i64 c])).run Tryz.prog w = .ok (.bool true) w := by
  rw [run_eql_struct]
  have := equalIn_self Tryz.prog w 9998 26 3 3 Tryz.underlying26 Tryz.underlying3 (fun w => by kernel_rfl) [a, b, c] rfl
  rw [show (Op.equalIn 10000 26 (.agg #[.int .i64 a, .int .i64 b, .int .i64 c]) (.agg #[.int .i64 a, .int .i64 b, .int .i64 c])).run Tryz.prog w = .ok true w from this]
  rfl

/-- Three numbers in a block. -/
def B3 (g x y z : Nat) (w : World) : Prop := w.heap[g]? = some (.cells #[.int .i64 (x : Int), .int .i64 (y : Int), .int .i64 (z : Int)] 26 (0, 0))
theorem B3.next {g x y z : Nat} {w w' : World} (h : B3 g x y z w) (hb : Below w.heap.size w w') : B3 g x y z w' := (hb.block g (Array.getElem?_eq_some_iff.1 h).1).trans h
theorem B3.cell {g x y z : Nat} {w : World} (h : B3 g x y z w) (j : Nat) : w.cell? ⟨g, j, none⟩ = #[.int .i64 (x : Int), .int .i64 (y : Int), .int .i64 (z : Int)][j]? := cell_of_row w g j _ _ _ h

/-- The three sums lie in memory. -/
structure C9 (g1 g2 g3 x1 x2 x3 y1 y2 y3 : Nat) (W w : World) : Prop where
  a : B3 g1 x1 x2 x3 w
  b : B3 g2 y1 y2 y3 w
  c : w.heap[g3]? = some (.cells #[.int .i64 ((x1 : Int) + (y1 : Int)), .int .i64 ((x2 : Int) + (y2 : Int)), .int .i64 ((x3 : Int) + (y3 : Int))] 26 (0, 0))
  old : Below W.heap.size W w
theorem C9.cell {g1 g2 g3 x1 x2 x3 y1 y2 y3 : Nat} {W w : World} (h : C9 g1 g2 g3 x1 x2 x3 y1 y2 y3 W w) (j : Nat) : w.cell? ⟨g3, j, none⟩ = #[.int .i64 ((x1 : Int) + (y1 : Int)), .int .i64 ((x2 : Int) + (y2 : Int)), .int .i64 ((x3 : Int) + (y3 : Int))][j]? := cell_of_row w g3 j _ _ _ h.c
theorem C9.next {g1 g2 g3 x1 x2 x3 y1 y2 y3 : Nat} {W w w' : World} (h : C9 g1 g2 g3 x1 x2 x3 y1 y2 y3 W w) (hb : Below w.heap.size w w') : C9 g1 g2 g3 x1 x2 x3 y1 y2 y3 W w' :=
  ⟨h.a.next hb, h.b.next hb, (hb.block g3 (Array.getElem?_eq_some_iff.1 h.c).1).trans h.c, bnext h.old hb⟩
theorem C9.drew {g1 g2 g3 x1 x2 x3 y1 y2 y3 : Nat} {W w : World} (h : C9 g1 g2 g3 x1 x2 x3 y1 y2 y3 W w) : C9 g1 g2 g3 x1 x2 x3 y1 y2 y3 W w.drew := ⟨h.a, h.b, h.c, h.old.drew⟩

/-- What is known of the parts of the law. -/
structure Parts9 (w : World) (p1 p2 : Option Addr) (La Lb : List Sn) (ca cb : Nat) (ta tb : ST) (op1 : Int) (x1 x2 x3 y1 y2 y3 : Nat) : Prop where
  w1 : ∀ V, Below w.heap.size w V → Calls Tryz.prog 7 #[.slice p1 La.length ca] V (StrB (bOf ta.wr) V)
  w2 : ∀ V, Below w.heap.size w V → Calls Tryz.prog 7 #[.slice p2 Lb.length cb] V (StrB (bOf tb.wr) V)
  made : ∀ V kb, Below w.heap.size w V → kb < V.heap.size → V.cell? ⟨kb, 0, none⟩ = some (.slice p1 La.length ca) → V.cell? ⟨kb, 1, none⟩ = some (.slice p2 Lb.length cb) →
    Calls Tryz.prog 8 #[.agg #[.int .i64 22, .int .i64 op1, .string ⟨#[]⟩, .string ⟨#[]⟩, .int .i64 0, .int .i64 0, .int .i64 0, .int .i64 0], .slice (some ⟨kb, 0, none⟩) 2 2] V (MadeP ⟨22, op1, ⟨#[]⟩, ⟨#[]⟩, 0, 0, 0, 0⟩ La Lb V)
  w3 : ∀ V p cp, SSl V V.heap.size p (⟨22, op1, ⟨#[]⟩, ⟨#[]⟩, 0, 0, 0, ((1 + La.length + Lb.length : Nat) : Int)⟩ :: (La ++ Lb)) → Calls Tryz.prog 7 #[.slice p (1 + La.length + Lb.length) cp] V (StrB (bOf (both op1 ta tb).wr) V)
  s1 : ∀ V, Calls Tryz.prog 6 #[.string (bOf ta.wr)] V (SpcP (x1, x2, x3) V)
  s2 : ∀ V, Calls Tryz.prog 6 #[.string (bOf tb.wr)] V (SpcP (y1, y2, y3) V)
  s3 : ∀ V, Calls Tryz.prog 6 #[.string (bOf (both op1 ta tb).wr)] V (SpcP (x1 + y1, x2 + y2, x3 + y3) V)
  add : ∀ V, Calls Tryz.prog 9 #[.agg #[.int .i64 x1, .int .i64 x2, .int .i64 x3], .agg #[.int .i64 y1, .int .i64 y2, .int .i64 y3]] V (SpP (x1 + y1, x2 + y2, x3 + y3) V)
theorem i64_of (n : Int) (h1 : -9223372036854775808 ≤ n) (h2 : n ≤ 9223372036854775807) : i64r n := ⟨h1, h2⟩
theorem snR22 {op1 : Int} (h : 1 ≤ op1 ∧ op1 ≤ 4) : SnR ⟨22, op1, ⟨#[]⟩, ⟨#[]⟩, 0, 0, 0, 0⟩ :=
  ⟨i64_of 22 (by decide) (by decide), i64_of op1 (by omega) (by omega), Nat.zero_le _, Nat.zero_le _, i64_of 0 (by decide) (by decide), i64_of 0 (by decide) (by decide), i64_of 0 (by decide) (by decide), i64_of 0 (by decide) (by decide)⟩
theorem spec_parts {La Lb : List Sn} {ta tb : ST} (hTa : Arg9 La ta) (hTb : Arg9 Lb tb) {x1 x2 x3 y1 y2 y3 : Nat} (hx : ta.sp = (x1, x2, x3)) (hy : tb.sp = (y1, y2, y3)) {op1 : Int} (ho : 1 ≤ op1 ∧ op1 ≤ 4) (w : World) {p1 p2 : Option Addr} {ca cb : Nat}
    (HA : SSl w w.heap.size p1 La) (HB : SSl w w.heap.size p2 Lb) (ha : La.length ≤ 60) (hb : Lb.length ≤ 60) (hpa : 0 < La.length) (hpb : 0 < Lb.length) : Parts9 w p1 p2 La Lb ca cb ta tb op1 x1 x2 x3 y1 y2 y3 := by
  have sa := hTa.sum
  have sb := hTb.sum
  have la := hTa.len
  have lb := hTb.len
  have l1 : S3.lim (x1, x2, x3) := hx ▸ ST.sp_lim (t := ta) (by omega)
  have l2 : S3.lim (y1, y2, y3) := hy ▸ ST.sp_lim (t := tb) (by omega)
  have hbs := both_sum (op := op1) sa sb
  have hbl : (both op1 ta tb).flat.length = 1 + ta.flat.length + tb.flat.length := by rw [both_flat, List.length_cons, List.length_append]; omega
  have hbn := both_nok ho.1 ho.2 hTa.nok hTb.nok hTa.k21 hTb.k21
  have hbsp : (both op1 ta tb).sp = (x1 + y1, x2 + y2, x3 + y3) := by rw [both_sp, hx, hy]; rfl
  have hfl : (⟨22, op1, ⟨#[]⟩, ⟨#[]⟩, 0, 0, 0, ((1 + La.length + Lb.length : Nat) : Int)⟩ :: (La ++ Lb)) = (both op1 ta tb).flat := by rw [both_flat, ← hTa.flat, ← hTb.flat]
  refine ⟨fun V hV => ?_, fun V hV => ?_, fun V kb hV hkb k0 k1 => ?_, fun V p cp hp => ?_, fun V => ?_, fun V => ?_, fun V => ?_, fun V => ?_⟩
  · exact written_any p1 ca La (by omega) ta V hTa.nok (fun x hx => by have := hTa.szs x hx; omega) (by omega) ((HA.below hV).more hV.size) hTa.flat hTa.ok
  · exact written_any p2 cb Lb (by omega) tb V hTb.nok (fun x hx => by have := hTb.szs x hx; omega) (by omega) ((HB.below hV).more hV.size) hTb.flat hTb.ok
  · refine selMade_any ⟨22, op1, ⟨#[]⟩, ⟨#[]⟩, 0, 0, 0, 0⟩ La Lb p1 p2 ca cb kb 2 (snR22 ho) ha hb hpa hpb V ((HA.below hV).more hV.size) ((HB.below hV).more hV.size) hkb k0 k1
  · have e : 1 + La.length + Lb.length = (⟨22, op1, ⟨#[]⟩, ⟨#[]⟩, 0, 0, 0, ((1 + La.length + Lb.length : Nat) : Int)⟩ :: (La ++ Lb)).length := by rw [List.length_cons, List.length_append]; omega
    have := written_any p cp _ (by rw [← e]; omega) (both op1 ta tb) V hbn (fun x hx => by
      rw [both_flat] at hx
      rcases List.mem_cons.1 hx with rfl | q
      · exact ⟨by show (0 : Nat) ≤ _; omega, by show (0 : Nat) ≤ _; omega⟩
      · rcases List.mem_append.1 q with q | q
        · have := hTa.szs x q; omega
        · have := hTb.szs x q; omega) (by omega) hp hfl (both_ok hTa.ok hTb.ok)
    rw [← e] at this
    exact this
  · rw [← hx]; exact specific_to _ _ V (wr_size (by omega)) (whole_of ta hTa.nok (.inr (.inl hTa.k21)) (by omega) (wr_size (by omega)))
  · rw [← hy]; exact specific_to _ _ V (wr_size (by omega)) (whole_of tb hTb.nok (.inr (.inl hTb.k21)) (by omega) (wr_size (by omega)))
  · rw [← hbsp]; exact specific_to _ _ V (wr_size hbs) (whole_of (both op1 ta tb) hbn (.inr (.inr rfl)) (by omega) (wr_size hbs))
  · exact addSpecific_any x1 x2 x3 y1 y2 y3 l1.1 l1.2.1 l1.2.2 l2.1 l2.2.1 l2.2.2 V

set_option maxRecDepth 100000 in
set_option maxHeartbeats 8000000 in
theorem FnSpecificWhole_walk (aa : Option Addr) (la ca : Nat) (La : List Sn) (ab : Option Addr) (lb cb : Nat) (Lb : List Sn) (op : Int) (w : World) (ha : SSl w w.heap.size aa La ∧ la = La.length ∧ la ≤ ca) (hb : SSl w w.heap.size ab Lb ∧ lb = Lb.length ∧ lb ≤ cb)
    (hop : (Lit.int .u8 op).wf = true) :
    Calls Tryz.prog 3 #[.slice aa la ca, .slice ab lb cb, .int .u8 op] w fun e w' => e = .returned (.bool true) ∧ Below w.heap.size w w' := by
  obtain ⟨ha, rfl, hca⟩ := ha
  obtain ⟨hb, rfl, hcb⟩ := hb
  have hop2 : 0 ≤ op ∧ op ≤ 255 := by simpa [Lit.wf, IntKind.min, IntKind.max, IntKind.signed, IntKind.bits] using hop
  have HA := Lib.hid ha
  have HB := Lib.hid hb
  have HZ1 := Lib.hid (zzFits5_any aa ca La w ha)
  have HZ2 : Hid (∀ V, Below w.heap.size w V → Calls Tryz.prog 4 #[.slice ab Lb.length cb] V (TruB (∀ x ∈ Lb, Fit6 x) V)) := fun V hV => zzFits5_any ab cb Lb V ((hb.below hV).more hV.size)
  have HW1 : Hid (∀ V, Below w.heap.size w V → (∀ x ∈ La, Fit6 x) → Calls Tryz.prog 5 #[.slice aa La.length ca] V (TruB (WrQ La) V)) := fun V hV hf => written9_any aa ca La hca V ((ha.below hV).more hV.size) hf
  have HW2 : Hid (∀ V, Below w.heap.size w V → (∀ x ∈ Lb, Fit6 x) → Calls Tryz.prog 5 #[.slice ab Lb.length cb] V (TruB (WrQ Lb) V)) := fun V hV hf => written9_any ab cb Lb hcb V ((hb.below hV).more hV.size) hf
  clear ha hb hop
  go_enter Tryz.func3, Tryz.ntmps3
  go_wp2_with fail
  refine HZ1.out.mono ?_
  rintro e1 w1 ⟨q1, rfl, hq1, hb1⟩
  have HB1 := Lib.hid hb1
  have HQ1 := Lib.hid hq1
  clear hb1 hq1
  cases q1
  case false =>
    go_wp2_with fail
    go_ret
    exact ⟨rfl, HB1.out⟩
  go_wp2_with fail
  refine (HZ2.out _ HB1.out).mono ?_
  rintro e2 w2 ⟨q2, rfl, hq2, hb2⟩
  have HB2 : Hid (Below w.heap.size w w2) := bnext HB1.out hb2
  have HQ2 := Lib.hid hq2
  clear hb2 hq2
  cases q2
  case false =>
    go_wp2_with fail
    go_ret
    exact ⟨rfl, HB2.out⟩
  go_wp2_with fail
  refine (HW1.out _ HB2.out (HQ1.out (by trivial))).mono ?_
  rintro e3 w3 ⟨q3, rfl, hq3, hb3⟩
  have HB3 : Hid (Below w.heap.size w w3) := bnext HB2.out hb3
  have HQ3 := Lib.hid hq3
  clear hb3 hq3
  cases q3
  case false =>
    go_wp2_with fail
    go_ret
    exact ⟨rfl, HB3.out⟩
  go_wp2_with fail
  refine (HW2.out _ HB3.out (HQ2.out (by trivial))).mono ?_
  rintro e4 w4 ⟨q4, rfl, hq4, hb4⟩
  have HB4 : Hid (Below w.heap.size w w4) := bnext HB3.out hb4
  have HQ4 := Lib.hid hq4
  clear hb4 hq4
  cases q4
  case false =>
    go_wp2_with fail
    go_ret
    exact ⟨rfl, HB4.out⟩
  have HWa : Hid (WrQ La) := HQ3.out (by trivial)
  have HWb : Hid (WrQ Lb) := HQ4.out (by trivial)
  have hpa : 0 < La.length := wrq_pos HWa.out
  have hpb : 0 < Lb.length := wrq_pos HWb.out
  clear HQ1 HQ2 HQ3 HQ4 HZ1 HZ2 HW1 HW2 HB1 HB2 HB3
  obtain ⟨b1, o1, rfl, hb1, hc1⟩ := HA.out.at_ hpa
  obtain ⟨b2, o2, rfl, hb2, hc2⟩ := HB.out.at_ hpb
  have A0 := ((hc1 0 hpa).1.below HB4.out hb1).c0
  have A3 := ((hc1 0 hpa).1.below HB4.out hb1).c3
  have B0 := ((hc2 0 hpb).1.below HB4.out hb2).c0
  have B3 := ((hc2 0 hpb).1.below HB4.out hb2).c3
  rw [Nat.zero_mul, Nat.add_zero] at A0 A3 B0 B3
  clear hc1 hc2
  obtain ⟨ka, hka⟩ : ∃ k, La[0].kind = k := ⟨_, rfl⟩
  obtain ⟨va, hva⟩ : ∃ k, La[0].val = k := ⟨_, rfl⟩
  obtain ⟨kb, hkb⟩ : ∃ k, Lb[0].kind = k := ⟨_, rfl⟩
  obtain ⟨vb, hvb⟩ : ∃ k, Lb[0].val = k := ⟨_, rfl⟩
  rw [hka] at A0
  rw [hva] at A3
  rw [hkb] at B0
  rw [hvb] at B3
  have HK : Hid (La[0].kind = ka ∧ La[0].val = va ∧ Lb[0].kind = kb ∧ Lb[0].val = vb) := ⟨hka, hva, hkb, hvb⟩
  clear hka hva hkb hvb
  by_cases k1 : ka = 21
  rotate_left
  · have m1 : (ka != 21) = true := bne_iff_ne.2 k1
    go_wp2_with fail
    go_ret
    exact ⟨rfl, HB4.out⟩
  by_cases k2 : kb = 21
  rotate_left
  · have m1 : (ka != 21) = false := by rw [k1]; rfl
    have m2 : (kb != 21) = true := bne_iff_ne.2 k2
    go_wp2_with fail
    go_ret
    exact ⟨rfl, HB4.out⟩
  have m1 : (ka != 21) = false := by rw [k1]; rfl
  have m2 : (kb != 21) = false := by rw [k2]; rfl
  obtain ⟨ea, hea⟩ : ∃ q, va.toList.isEmpty = q := ⟨_, rfl⟩
  cases ea
  case false =>
    go_wp2_with fail
    go_ret
    exact ⟨rfl, HB4.out⟩
  obtain ⟨eb, heb⟩ : ∃ q, vb.toList.isEmpty = q := ⟨_, rfl⟩
  cases eb
  case false =>
    go_wp2_with fail
    go_ret
    exact ⟨rfl, HB4.out⟩
  have hva0 : va = ⟨#[]⟩ := str_empty.1 (by rw [List.isEmpty_iff.1 hea]; rfl)
  have hvb0 : vb = ⟨#[]⟩ := str_empty.1 (by rw [List.isEmpty_iff.1 heb]; rfl)
  obtain ⟨ta, hTa⟩ := arg9_of HWa.out hpa (HK.out.1.trans k1) (HK.out.2.1.trans hva0)
  obtain ⟨tb, hTb⟩ := arg9_of HWb.out hpb (HK.out.2.2.1.trans k2) (HK.out.2.2.2.trans hvb0)
  obtain ⟨⟨x1, x2, x3⟩, hx⟩ : ∃ x : S3, ta.sp = x := ⟨_, rfl⟩
  obtain ⟨⟨y1, y2, y3⟩, hy⟩ : ∃ x : S3, tb.sp = x := ⟨_, rfl⟩
  obtain ⟨op1, hop1⟩ : ∃ o, o = 1 + op % 4 := ⟨_, rfl⟩
  have ho1 : 1 ≤ op1 ∧ op1 ≤ 4 := by omega
  have hl60 : La.length ≤ 60 := by rw [hTa.flat]; exact hTa.len
  have hl60b : Lb.length ≤ 60 := by rw [hTb.flat]; exact hTb.len
  have HP := spec_parts hTa hTb hx hy ho1 w HA.out HB.out (ca := ca) (cb := cb) hl60 hl60b hpa hpb
  have HP1 := Lib.hid HP.w1
  have HP2 := Lib.hid HP.w2
  have HP3 := Lib.hid HP.made
  have HP4 := Lib.hid HP.w3
  have HP5 := Lib.hid HP.s1
  have HP6 := Lib.hid HP.s2
  have HP7 := Lib.hid HP.s3
  have HP8 := Lib.hid HP.add
  have HO := Lib.hid hop1
  unfold SpcP sp3 at HP5 HP6 HP7
  unfold SpP sp3 at HP8
  clear HP hx hy hTa hTb HWa HWb HK hva0 hvb0 hop1 ho1 HA HB
  go_wp2_with fail
  refine (HP1.out _ HB4.out).mono ?_
  rintro e5 w5 ⟨rfl, hb5⟩
  have HB5 : Hid (Below w.heap.size w w5) := bnext HB4.out hb5
  clear hb5 A0 A3 B0 B3 HB4
  go_wp2_with fail
  refine (HP5.out _).mono ?_
  rintro e6 w6 ⟨rfl, hb6⟩
  have HB6 : Hid (Below w.heap.size w w6) := bnext HB5.out hb6
  clear hb6 HB5
  dsimp only
  go_wp2_with fail
  refine calls_gen (R := fun U => B3 w6.heap.size x1 x2 x3 U ∧ Below w.heap.size w U) ⟨heap_alloc_new w6 _, HB6.out.alloc HB6.out.size _⟩ ?_
  rintro U7 ⟨k7, hb7⟩
  refine (HP2.out _ hb7).mono ?_
  rintro e7 w7 ⟨rfl, hb⟩
  have HB7 : Hid (Below w.heap.size w w7) := bnext hb7 hb
  have HK7 : Hid (B3 w6.heap.size x1 x2 x3 w7) := k7.next hb
  clear k7 hb7 hb HB6
  go_wp2_with fail
  refine (HP6.out _).mono ?_
  rintro e8 w8 ⟨rfl, hb⟩
  have HB8 : Hid (Below w.heap.size w w8) := bnext HB7.out hb
  have HK8 : Hid (B3 w6.heap.size x1 x2 x3 w8) := HK7.out.next hb
  clear hb HB7 HK7
  dsimp only
  go_wp2_with fail
  have e1 := HO.out
  rw [← e1]
  clear e1
  have h2 := heap_alloc_new (w8.alloc (.cells #[.int .i64 (y1 : Int), .int .i64 (y2 : Int), .int .i64 (y3 : Int)] 26)) (.cells #[.slice (some ⟨b1, o1, none⟩) La.length ca, .slice (some ⟨b2, o2, none⟩) Lb.length cb] 22)
  rw [show (w8.alloc (.cells #[.int .i64 (y1 : Int), .int .i64 (y2 : Int), .int .i64 (y3 : Int)] 26)).heap.size = w8.heap.size + 1 by simp] at h2
  refine calls_gen (R := fun U => B3 w6.heap.size x1 x2 x3 U ∧ B3 w8.heap.size y1 y2 y3 U ∧ U.heap[w8.heap.size + 1]? = some (.cells #[.slice (some ⟨b1, o1, none⟩) La.length ca, .slice (some ⟨b2, o2, none⟩) Lb.length cb] 22 (0, 0)) ∧ Below w.heap.size w U)
    ⟨(HK8.out.next ((Below.refl _ _).alloc (Nat.le_refl _) _)).next ((Below.refl _ _).alloc (Nat.le_refl _) _), B3.next (heap_alloc_new w8 _) ((Below.refl _ _).alloc (Nat.le_refl _) _), h2, (HB8.out.alloc HB8.out.size _).alloc (by simp; have := HB8.out.size; omega) _⟩ ?_
  rintro U9 ⟨k7, k8, k9, hb9⟩
  have HM := HP3.out U9 (w8.heap.size + 1) hb9 (Array.getElem?_eq_some_iff.1 k9).1 (cell_of_row U9 _ 0 _ _ _ k9) (cell_of_row U9 _ 1 _ _ _ k9)
  refine HM.mono ?_
  rintro e9 w9 ⟨p, cp, rfl, hb, hss⟩
  have HB9 : Hid (Below w.heap.size w w9) := bnext hb9 hb
  have HK7 : Hid (B3 w6.heap.size x1 x2 x3 w9) := k7.next hb
  have HK9 : Hid (B3 w8.heap.size y1 y2 y3 w9) := k8.next hb
  have HW3 := Lib.hid (HP4.out w9 p cp hss)
  clear k7 k8 k9 hb9 HM hb hss HB8 HK8 h2
  go_wp2_with fail
  refine HW3.out.mono ?_
  rintro e10 w10 ⟨rfl, hb⟩
  have HB10 : Hid (Below w.heap.size w w10) := bnext HB9.out hb
  have HK10 : Hid (B3 w6.heap.size x1 x2 x3 w10) := HK7.out.next hb
  have HL10 : Hid (B3 w8.heap.size y1 y2 y3 w10) := HK9.out.next hb
  clear hb HB9 HK7 HK9 HW3
  go_wp2_with fail
  refine (HP7.out _).mono ?_
  rintro e11 w11 ⟨rfl, hb⟩
  have HB11 : Hid (Below w.heap.size w w11) := bnext HB10.out hb
  have HK11 : Hid (B3 w6.heap.size x1 x2 x3 w11) := HK10.out.next hb
  have HL11 : Hid (B3 w8.heap.size y1 y2 y3 w11) := HL10.out.next hb
  clear hb HB10 HK10 HL10
  dsimp only
  go_wp2_with fail
  have hC0 : C9 w6.heap.size w8.heap.size w11.heap.size x1 x2 x3 y1 y2 y3 w (w11.alloc (.cells #[.int .i64 ((x1 : Int) + (y1 : Int)), .int .i64 ((x2 : Int) + (y2 : Int)), .int .i64 ((x3 : Int) + (y3 : Int))] 26)) :=
    ⟨HK11.out.next ((Below.refl _ _).alloc (Nat.le_refl _) _), HL11.out.next ((Below.refl _ _).alloc (Nat.le_refl _) _), heap_alloc_new w11 _, HB11.out.alloc HB11.out.size _⟩
  clear HK11 HL11 HB11
  simp only [Int.natCast_add] at HP8
  refine wp_gen (R := fun U => C9 w6.heap.size w8.heap.size w11.heap.size x1 x2 x3 y1 y2 y3 w U) hC0 ?_
  intro U hU
  clear hC0
  have HEq := fun V => eql_self3 V ((x1 : Int) + (y1 : Int)) ((x2 : Int) + (y2 : Int)) ((x3 : Int) + (y3 : Int))
  refine wp_region_quiet (C := fun w' => C9 w6.heap.size w8.heap.size w11.heap.size x1 x2 x3 y1 y2 y3 w w') (by kernel_rfl) (by kernel_rfl) (hU.drew) ?_
  dsimp only
  repeat
    (first
      | go_big_quiet_skip
      | (go_big_quiet_want; go_big_quiet_op; go_big_quiet_on)
      | (go_big_quiet_want
         apply Exists.intro
         refine ⟨fun w' hC => ?_, ?_⟩
         · have a0 := hC.a.cell 0
           have a1 := hC.a.cell 1
           have a2 := hC.a.cell 2
           have b0 := hC.b.cell 0
           have b1 := hC.b.cell 1
           have b2 := hC.b.cell 2
           have c0 := hC.cell 0
           have c1 := hC.cell 1
           have c2 := hC.cell 2
           clear hC
           go_simp
           first
             | done
             | rfl
             | exact ⟨rfl, rfl⟩
         go_big_quiet_on
         (try simp only [Act.put, List.setIfInBounds_toArray, List.set_cons_zero, List.set_cons_succ]))
      | (go_big_quiet_want
         refine ⟨.agg #[.int .i64 ((x1 : Int) + (y1 : Int)), .int .i64 ((x2 : Int) + (y2 : Int)), .int .i64 ((x3 : Int) + (y3 : Int))], fun w' hC => ?_, ?_⟩
         · go_simp
           with_reducible refine (HP8.out w').mono ?_
           exact (fun _ _ hh => ⟨hh.1, hC.next hh.2⟩)
         go_big_quiet_on
         (try simp only [Act.put, List.setIfInBounds_toArray, List.set_cons_zero, List.set_cons_succ])))
  refine wpQuiet_nil ?_
  intro w' hC
  (try go_wp2_with fail)
  go_ret
  exact ⟨rfl, hC.old⟩
end Go.Proofs.YtnibpdmbccfgoaaGreatDoor
