/- FnParentsUntilParts: the walk. -/
import Derived.Test.YtgilbckfkngaiaaT121
import Derived.Test.YtgilbckfkngaiaaT18
namespace Go.Proofs.Ytgilbckfkngaiaa
open Go.RowKit
set_option linter.unusedVariables false

/-- A list of one number, that has just been laid. -/
theorem isl_one (w : World) (x : Int) (hx : -9223372036854775808 ≤ x ∧ x ≤ 9223372036854775807) (t : TypeId) : ISl (w.alloc (.cells #[.int .i64 x] t)) (w.alloc (.cells #[.int .i64 x] t)).heap.size (some ⟨w.heap.size, 0, none⟩) [x] := by
  refine ⟨.inr ⟨w.heap.size, 0, rfl, by simp, fun i hi => ?_⟩, by simp [maxLen], ?_⟩
  · have : i = 0 := by simp [ivs] at hi; omega
    subst this
    rw [World.cell?_alloc_at _ _ _ _ (by simp)]; rfl
  · intro y hy
    simp at hy
    subst hy; exact hx
theorem isl_one' (w : World) (n : Nat) (hn : n = w.heap.size) (x : Int) (hx : -9223372036854775808 ≤ x ∧ x ≤ 9223372036854775807) (t : TypeId) : ISl (w.alloc (.cells #[.int .i64 x] t)) (w.alloc (.cells #[.int .i64 x] t)).heap.size (some ⟨n, 0, none⟩) [x] := by
  subst hn; exact isl_one w x hx t
theorem one_sel {t : List Nd} {x : Int} {ns : List Nat} (h : SelP t [x] ns) : ∃ i : Nat, ns = [i] ∧ x = i ∧ i < t.length ∧ isEl t i = true := by
  have e := h.ord.eq
  match ns, e with
  | [i], e =>
    simp at e
    refine ⟨i, rfl, e, h.ord.lt i (by simp), ?_⟩
    unfold isEl
    rw [decide_eq_true_eq]; exact h.kind i (by simp)
theorem ord_one {t : List Nd} {i : Nat} (hi : i < t.length) : OrdP t.length [(i : Int)] [i] := ⟨rfl, by simpa using hi, by simp⟩
theorem mapN_one (i : Nat) (fs : Nat → List Nat) : mapN [i] fs = fs i := by
  show addN [] (fs i) = _
  simp [addN]

section
variable (w : World)
/-- An append, behind a guard that says yes or behind none; the list that it makes has a name of its own. -/
theorem wpList_append_ints_z {ops : Array Oper} {rest : List Oper} {o : Oper} {a : Act} {Q : Exit → Act → World → Prop} (hgd : Region.wanted o (yielded ops a.tmps) = true) (s x : Operand)
    (ho : o.op = .call { callee := .builtin .append, args := #[s, x], argTypes := #[37, 37] })
    (base : Nat) (v : Value) (xs : List Int) (hs : a.eval s = v) (hown : w.ownsRow base 3 1 v xs.length (ivs xs))
    (A : Option Addr) (c : Nat) (ys : List Int) (hx : a.eval x = .slice A ys.length c) (hr : RSl w w.heap.size A (ivs ys)) (hlen : xs.length + ys.length ≤ 1000000) (hbase : base ≤ w.heap.size) (zs : List Int) (hz : zs = xs ++ ys)
    (h : ∀ a' c' w', w'.ownsRow base 3 1 (.slice a' zs.length c') zs.length (ivs zs) → w.grownBy w' v.ownBlock → wpList Try.prog ops Q rest (a.put o.dst (.slice a' zs.length c')) w') :
    wpList Try.prog ops Q (o :: rest) a w := by
  subst hz
  exact BigFrame.wpList_want hgd fun _ hK => wp_append_ints w s x ho base v xs hs hown A c ys hx hr hlen hbase fun a' c' w' h2 h3 h4 => hK _ _ (h a' c' w' h2 h3)
end
theorem own_empty0 (w : World) (t : TypeId) : (w.alloc (.cells #[] t)).ownsRow w.heap.size t 1 (.slice (some ⟨w.heap.size, 0, none⟩) 0 0) 0 [] := by
  refine ⟨by simp, .inr ⟨w.heap.size, 0, #[], rfl, Nat.le_refl _, ?_, by omega, by simp [maxLen], rfl, rfl⟩⟩
  exact heap_alloc_new w _

set_option maxRecDepth 100000 in
set_option maxHeartbeats 4000000 in
theorem FnParentsUntilParts_walk (ad : Option Addr) (len c : Nat) (t : List Nd) (x y : Int) (w : World) (h : NSl w w.heap.size ad t ∧ len = t.length) (hx : (Lit.int .i64 x).wf = true) (hy : (Lit.int .i64 y).wf = true) :
    Calls Try.prog 10 #[.slice ad len c, .int .i64 x, .int .i64 y] w fun e w' => e = .returned (.bool true) ∧ Below w.heap.size w w' := by
  obtain ⟨h, rfl⟩ := h
  have HH := Lib.hid h
  have HX := Lib.hid (wf_bounds hx)
  have HY := Lib.hid (wf_bounds hy)
  clear h hx hy
  go_enter Try.func10, Try.ntmps10
  go_wp2_with fail
  refine (zzFits1_any _ _ t _ HH.out).mono ?_
  rintro e w1 ⟨rfl, hb1⟩
  have HB1 := Lib.hid hb1
  clear hb1
  cases hf : fits1 t
  · go_wp2_with fail
    go_ret
    exact ⟨rfl, HB1.out⟩
  · have HF := Lib.hid hf
    clear hf
    go_wp2_with fail
    have HBa := Lib.hid (HB1.out.alloc HB1.out.size (.cells #[.int .i64 x] 3))
    refine (rising_any _ _ t HF.out _ _ [x] (by simp) (by simp) _ (HH.out.up HBa.out) (isl_one _ _ HX.out _)).mono ?_
    rintro e w2 ⟨b, rfl, hS, hb2⟩
    have HB2 := Lib.hid (bnext HBa.out hb2)
    have HS0 := Lib.hid hS
    clear hb2 hS
    cases b
    · go_wp2_with fail
      go_ret
      exact ⟨rfl, HB2.out⟩
    go_wp2_with fail
    have HBb := Lib.hid (HB2.out.alloc HB2.out.size (.cells #[.int .i64 y] 3))
    refine (rising_any _ _ t HF.out _ _ [y] (by simp) (by simp) _ (HH.out.up HBb.out) (isl_one _ _ HY.out _)).mono ?_
    rintro e w3 ⟨b, rfl, hS, hb3⟩
    have HB3 := Lib.hid (bnext HBb.out hb3)
    have HS00 := Lib.hid hS
    clear hb3 hS
    cases b
    · go_wp2_with fail
      go_ret
      exact ⟨rfl, HB3.out⟩
    obtain ⟨ns, hS1⟩ := HS0.out (by trivial)
    obtain ⟨ms, hS2⟩ := HS00.out (by trivial)
    have HR := Lib.hid hS1.right
    obtain ⟨i, rfl, rfl, hi, hei⟩ := one_sel hS1
    obtain ⟨u, rfl, rfl, hu, heu⟩ := one_sel hS2
    have hle := HR.out.le
    have HEu := Lib.hid heu
    clear hS1 hS2 HS0 HS00 hei heu
    by_cases c1 : i ≤ u
    · have d1 : decide (i ≤ u) = true := decide_eq_true c1
      clear c1
      go_wp2_with fail
      go_ret
      exact ⟨rfl, HB3.out⟩
    have d1 : decide (i ≤ u) = false := decide_eq_false c1
    obtain ⟨b, o, rfl, hbB, hc⟩ := (HH.out.up HB3.out).at_ (by omega)
    have g1 := (hc u hu).2.2.2.2.1
    rw [size_at hu (HR.out.lam u (Nat.zero_le _) hu).1] at g1
    have HU := Lib.hid (HR.out.lam u (Nat.zero_le _) hu)
    have hsz := HU.out.2.2.1
    clear hc
    obtain ⟨s, hs⟩ : ∃ s, s = sz t u := ⟨_, rfl⟩
    rw [← hs] at g1 hsz
    have HS := Lib.hid hs
    clear hs
    by_cases c2 : u + s ≤ i
    · have d2 : decide (u + s ≤ i) = true := decide_eq_true c2
      have d3 : decide ((u : Int) + (s : Int) ≤ (i : Int)) = true := decide_eq_true (by omega)
      clear c1 c2
      go_wp2_with fail
      go_ret
      exact ⟨rfl, HB3.out⟩
    have d2 : decide (u + s ≤ i) = false := decide_eq_false c2
    have d3 : decide ((u : Int) + (s : Int) ≤ (i : Int)) = false := decide_eq_false (by omega)
    have HAnc : Hid (u ∈ anc t i) := (anc_und HR.out u hu i i (Nat.le_refl _) hi).2 (by unfold und; rw [decide_eq_true_eq, ← HS.out]; omega)
    clear c1 c2
    have hone : ∀ (z : Nat), z < t.length → ((z : Int) ≤ 9223372036854775807 ∧ -9223372036854775808 ≤ (z : Int)) := fun z hz => by omega
    have HB4 := Lib.hid (HB3.out.alloc HB3.out.size (.cells #[.int .i64 (i : Int)] 3))
    have HC1 := Lib.hid (door_par _ c t HR.out _ 1 [(i : Int)] [i] (ord_one hi) (by simp) _ (HH.out.up HB4.out) (isl_one w3 (i : Int) HX.out 3))
    rw [mapN_one] at HC1
    have HF1 := Lib.hid (par_facts HR.out i hi)
    have HF2 := Lib.hid (pars_facts HR.out [u] i hi)
    have HF3 := Lib.hid (par_facts HR.out u hu)
    have HParts : Hid (elsOf t (anc t i) = elsOf t (till [u] (anc t i)) ++ u :: elsOf t (anc t u)) := by
      have := anc_parts u i i (Nat.le_refl _) HAnc.out
      rw [Hid]
      conv => lhs; rw [this]
      unfold elsOf
      rw [List.filter_append, List.filter_cons, if_pos HEu.out]
    obtain ⟨A, hA⟩ : ∃ A, A = elsOf t (anc t i) := ⟨_, rfl⟩
    obtain ⟨A1, hA1⟩ : ∃ A1, A1 = elsOf t (till [u] (anc t i)) := ⟨_, rfl⟩
    obtain ⟨A2, hA2⟩ : ∃ A2, A2 = elsOf t (anc t u) := ⟨_, rfl⟩
    have HA1 := Lib.hid hA1
    have HA2 := Lib.hid hA2
    rw [← hA] at HC1 HF1 HParts
    rw [← hA1] at HF2 HParts
    rw [← hA2] at HF3 HParts
    clear hA hA1 hA2 hone
    go_wp2_with fail
    clear g1
    refine HC1.out.mono ?_
    rintro e w5 ⟨v1, rfl, hown1, hb5⟩
    have HB5 := Lib.hid (bnext HB4.out hb5)
    obtain ⟨av1, cv1, rfl, hr1⟩ := hown1.row
    rw [toI_length]
    have HR1 := Lib.hid hr1
    clear hown1 hr1 hb5
    have HB6 := Lib.hid (HB5.out.alloc HB5.out.size (.cells #[.int .i64 (i : Int)] 3))
    have HB7 := Lib.hid (HB6.out.alloc HB6.out.size (.cells #[.int .i64 (u : Int)] 3))
    have hI1 : ISl (w5.alloc (.cells #[.int .i64 (i : Int)] 3)) (w5.alloc (.cells #[.int .i64 (i : Int)] 3)).heap.size (some ⟨w5.heap.size, 0, none⟩) [(i : Int)] := isl_one w5 (i : Int) HX.out 3
    have hI2 : ISl ((w5.alloc (.cells #[.int .i64 (i : Int)] 3)).alloc (.cells #[.int .i64 (u : Int)] 3)) ((w5.alloc (.cells #[.int .i64 (i : Int)] 3)).alloc (.cells #[.int .i64 (u : Int)] 3)).heap.size (some ⟨w5.heap.size, 0, none⟩) [(i : Int)] := hI1.up ((Below.refl _ _).alloc (Nat.le_refl _) _)
    have hI3 : ISl ((w5.alloc (.cells #[.int .i64 (i : Int)] 3)).alloc (.cells #[.int .i64 (u : Int)] 3)) ((w5.alloc (.cells #[.int .i64 (i : Int)] 3)).alloc (.cells #[.int .i64 (u : Int)] 3)).heap.size (some ⟨w5.heap.size + 1, 0, none⟩) [(u : Int)] := isl_one' _ _ (by simp) (u : Int) HY.out 3
    have hc2 := parUntilOf_any (some ⟨b, o, none⟩) c t HR.out (some ⟨w5.heap.size, 0, none⟩) 1 [(i : Int)] [i] (ord_one hi) (by simp) (some ⟨w5.heap.size + 1, 0, none⟩) 1 [(u : Int)] [u] (ord_one hu) (by simp) ((w5.alloc (.cells #[.int .i64 (i : Int)] 3)).alloc (.cells #[.int .i64 (u : Int)] 3)) (HH.out.up HB7.out) hI2 hI3
    have HC2 := Lib.hid hc2
    clear hI1 hI2 hI3 hc2
    rw [mapN_one, ← HA1.out] at HC2
    go_wp2_with fail
    refine HC2.out.mono ?_
    rintro e w8 ⟨v2, rfl, hown2, hb8⟩
    have HB8 := Lib.hid (bnext HB7.out hb8)
    obtain ⟨av2, cv2, rfl, hr2⟩ := hown2.row
    rw [toI_length]
    have HR2 := Lib.hid hr2
    clear hown2 hr2
    have HB9 := Lib.hid (HB8.out.alloc HB8.out.size (.cells #[.int .i64 (u : Int)] 3))
    have HC3 := Lib.hid (door_par _ c t HR.out _ 1 [(u : Int)] [u] (ord_one hu) (by simp) _ (HH.out.up HB9.out) (isl_one w8 (u : Int) HY.out 3))
    rw [mapN_one, ← HA2.out] at HC3
    go_wp2_with fail
    refine HC3.out.mono ?_
    rintro e w10 ⟨v3, rfl, hown3, hb10⟩
    have HB10 := Lib.hid (bnext HB9.out hb10)
    obtain ⟨av3, cv3, rfl, hr3⟩ := hown3.row
    rw [toI_length]
    have HR3 := Lib.hid hr3
    have HR1 := Lib.hid (HR1.out.up (bnext ((Below.refl _ _).alloc (Nat.le_refl _) (.cells #[.int .i64 (i : Int)] 3)) (bnext ((Below.refl _ _).alloc (Nat.le_refl _) (.cells #[.int .i64 (u : Int)] 3)) (bnext hb8 (bnext ((Below.refl _ _).alloc (Nat.le_refl _) (.cells #[.int .i64 (u : Int)] 3)) hb10)))))
    have HR2 := Lib.hid (HR2.out.up (bnext ((Below.refl _ _).alloc (Nat.le_refl _) (.cells #[.int .i64 (u : Int)] 3)) hb10))
    clear hown3 hr3 hb8 hb10
    have HB11 := Lib.hid (HB10.out.alloc HB10.out.size (.cells #[] 3))
    have HE := Lib.hid (own_empty0 w10 3)
    have hA1 := HF2.out.2.2
    have hA2 := HF3.out.2.2
    have hR2' : RSl (w10.alloc (.cells #[] 3)) (w10.alloc (.cells #[] 3)).heap.size av2 (ivs (toI A1)) := HR2.out.up ((Below.refl _ _).alloc (Nat.le_refl _) _)
    have HR2' := Lib.hid hR2'
    clear hR2'
    rw [← toI_length A1, ← toI_length A2, ← toI_length A]
    obtain ⟨Z1, hZ1⟩ : ∃ Z1, Z1 = toI A1 ++ [(u : Int)] := ⟨_, rfl⟩
    obtain ⟨Z2, hZ2⟩ : ∃ Z2, Z2 = Z1 ++ toI A2 := ⟨_, rfl⟩
    have HZ1 := Lib.hid hZ1
    have HZ2 := Lib.hid hZ2
    have hz1 : Z1.length ≤ 201 := by rw [hZ1, List.length_append, toI_length]; simp; omega
    have hz2 : Z2.length ≤ 401 := by rw [hZ2, List.length_append, toI_length]; omega
    clear hZ1 hZ2
    go_wp2_with (refine wpList_append_ints_z _ rfl (.tmp 76) (.tmp 77) rfl w10.heap.size (.slice (some ⟨w10.heap.size, 0, none⟩) 0 0) [] rfl HE.out av2 cv2 (toI A1) rfl HR2'.out (by rw [toI_length]; simp; omega) (by simp) (toI A1) rfl ?_)
    intro p1 q1 w11 hown hg
    have hb11 : Below w10.heap.size w10 w11 := ((Below.refl _ _).alloc (Nat.le_refl _) _).grown hg (by simp) (fun q hq => by have := (HE.out.lt q hq).1; exact this)
    have HO1 := Lib.hid hown
    have HBx := Lib.hid hb11
    have hs11 := hb11.size
    clear hown hg hb11
    go_wp2_with (refine wpList_append_ints_z _ rfl (.tmp 78) (.tmp 80) rfl w10.heap.size (.slice p1 (toI A1).length q1) (toI A1) rfl (HO1.out.alloc _) (some ⟨w11.heap.size, 0, none⟩) 1 [(u : Int)] rfl (isl_one w11 (u : Int) HY.out 3).row (by rw [toI_length]; simp; omega) (by simp; omega) Z1 HZ1.out ?_)
    intro p2 q2 w12 hown hg
    have hb12 : Below w10.heap.size w10 w12 := (HBx.out.alloc hs11 _).grown hg (by simp; omega) (fun q hq => by have := (HO1.out.lt q hq).1; exact this)
    have HO2 := Lib.hid hown
    have HBy := Lib.hid hb12
    have hs12 := hb12.size
    have hR3' := Lib.hid (HR3.out.up hb12)
    clear hown hg hb12
    go_wp2_with (refine wpList_append_ints_z _ rfl (.tmp 81) (.tmp 82) rfl w10.heap.size (.slice p2 Z1.length q2) Z1 rfl HO2.out av3 cv3 (toI A2) rfl hR3'.out (by rw [toI_length]; omega) hs12 Z2 HZ2.out ?_)
    intro p3 q3 w13 hown hg
    have hb13 : Below w10.heap.size w10 w13 := HBy.out.grown hg hs12 (fun q hq => by have := (HO2.out.lt q hq).1; exact this)
    have hrow : RSl w13 w13.heap.size p3 (ivs Z2) := by
      obtain ⟨a3, c3, hv, _, hrs⟩ := RSl.own hown
      cases hv
      exact hrs
    have hAe : toI A = Z2 := by rw [HParts.out, HZ2.out, HZ1.out]; simp [toI]
    have HSame := Lib.hid (sameOnce_any av1 cv1 (toI A) p3 q3 Z2 (by rw [toI_length]; have := HF1.out.2.2; omega) (by omega) (by
      unfold toI List.Nodup
      rw [List.pairwise_map]
      exact HF1.out.2.1.imp (fun h e => h (by omega))) (by rw [hAe]) (by rw [hAe]; exact fun x hx => hx) w13 (HR1.out.up hb13) hrow)
    have HB13 := Lib.hid (bnext HB10.out hb13)
    clear hown hg hb13 hrow hAe
    go_wp2_with fail
    refine HSame.out.mono ?_
    rintro e w14 ⟨rfl, hb14⟩
    have HB14 := Lib.hid (bnext HB13.out hb14)
    clear hb14
    go_wp2_with fail
    go_ret
    exact ⟨rfl, HB14.out⟩
end Go.Proofs.Ytgilbckfkngaiaa
