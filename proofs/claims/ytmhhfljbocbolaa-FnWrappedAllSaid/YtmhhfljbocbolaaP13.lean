/- FnWrappedAll: the walk (joined by join.py) -/
import Derived.Test.YtmhhfljbocbolaaP12
import Derived.Test.YtmhhfljbocbolaaP14
namespace Go.Proofs.Ytmhhfljbocbolaa
open Go.RowKit
set_option linter.unusedVariables false

section
variable {F : Fo} {S : Nat → Prop} {h : Nat → Nat} {nd : Nat → Nd} {A : List Nd} {x a : Nat}

theorem all_place (o : F.Ok S h) {y i z u : Nat} (hz : (F.all h y)[i]? = some z) (hu : F.Up z u) : ∃ q, q < (F.all h z).length ∧ (F.all h z)[q]? = some u ∧ (F.all h y)[i + q]? = some u := by
  have hm := (F.all_up o _ z (Nat.le_refl _) u).2 hu
  obtain ⟨q, hq, e⟩ := List.getElem_of_mem hm
  have h1 : (F.all h z)[q]? = some u := by rw [List.getElem?_eq_getElem hq, e]
  exact ⟨q, hq, h1, all_sub_at o _ y i z (Nat.lt_succ_self _) hz q u h1⟩

theorem all_inj (o : F.Ok S h) {y i j z : Nat} (h1 : (F.all h y)[i]? = some z) (h2 : (F.all h y)[j]? = some z) : i = j :=
  (List.getElem?_inj (List.getElem?_eq_some_iff.1 h1).1 (F.all_nodup o _ y (Nat.le_refl _))).1 (h1.trans h2.symm)

/-- Where the parent of a node is listed. -/
theorem par_lst (o : F.Ok S h) (hs : A.map strip = outL F h nd 0) (hx : (F.all h 0)[a]? = some x) {p q : Nat} (hp : F.par x = some p) (hq : (F.all h 0)[q]? = some p) : q < a ∧ parI A a a = (q : Int) := by
  obtain ⟨i, hi, h1, h2⟩ := all_place o hq (Fo.Up.step hp .self)
  have ha : a = q + i := all_inj o hx h2
  have hi0 : i ≠ 0 := fun e => by
    subst e
    rw [F.all_eq o p] at h1
    have : p = x := by simpa using h1
    subst this
    have := o.ht _ _ hp
    omega
  have hqa : q < a := by omega
  refine ⟨hqa, ?_⟩
  have key : ∀ k, q < k → k ≤ a → parI A a k = (q : Int) := by
    intro k
    induction k with
    | zero => intro h3; omega
    | succ j ih =>
      intro h3 h4
      simp only [parI]
      by_cases e : j = q
      · subst e
        obtain ⟨-, -, k3⟩ := lst_sz o hs hq
        rw [if_pos (by rw [k3]; omega)]
      · have hja : j < a := by omega
        have hlt := (List.getElem?_eq_some_iff.1 hx).1
        have hz : (F.all h 0)[j]? = some ((F.all h 0)[j]'(by omega)) := List.getElem?_eq_getElem _
        obtain ⟨z, hz2⟩ : ∃ z, z = (F.all h 0)[j]'(by omega) := ⟨_, rfl⟩
        rw [← hz2] at hz
        obtain ⟨-, -, k3⟩ := lst_sz o hs hz
        rw [if_neg, ih (by omega) (by omega)]
        intro h5
        rw [k3] at h5
        obtain ⟨d, hd⟩ : ∃ d, a = j + d := ⟨a - j, by omega⟩
        have hd2 : d < (F.all h z).length := by omega
        have h6 : (F.all h z)[d]? = some (F.all h z)[d] := List.getElem?_eq_getElem hd2
        have h7 := all_sub_at o _ 0 j z (Nat.lt_succ_self _) hz d _ h6
        rw [← hd, hx, Option.some.injEq] at h7
        have hu : F.Up z x := (F.all_up o _ z (Nat.le_refl _) x).1 (by rw [h7]; exact List.getElem_mem hd2)
        cases hu with
        | self => have := all_inj o hx hz; omega
        | step h8 h9 =>
          rw [hp] at h8; cases h8
          obtain ⟨r, -, -, h10⟩ := all_place o hz h9
          have := all_inj o hq h10
          omega
  exact key a hqa (Nat.le_refl _)
end

theorem top_of {F : Fo} {N : Nat} {h : Nat → Nat} (o : F.Ok (fun i => i < N) h) (hp : ∀ y, y < N → y ≠ 0 → F.par y ≠ none) : ∀ y, y < N → F.Up 0 y := by
  obtain ⟨M, hM⟩ := hmax h N
  have key : ∀ (d y : Nat), y < N → M ≤ h y + d → F.Up 0 y := by
    intro d
    induction d with
    | zero =>
      intro y hy hd
      by_cases e : y = 0
      · rw [e]; exact .self
      · obtain ⟨p, e2⟩ := Option.ne_none_iff_exists'.1 (hp y hy e)
        have h1 := o.ht _ _ e2
        have h2 := hM p (o.dom _ _ e2).1
        omega
    | succ d ih =>
      intro y hy hd
      by_cases e : y = 0
      · rw [e]; exact .self
      · obtain ⟨p, e2⟩ := Option.ne_none_iff_exists'.1 (hp y hy e)
        exact .step e2 (ih p (o.dom _ _ e2).1 (by have := o.ht _ _ e2; omega))
  exact fun y hy => key M y hy (by omega)

structure WrL (t : List Nd) (on : List Nat) (w p : Nat) (G : Fo) (nd : Nat → Nd) : Prop where
  N : (wrE t on w).N = t.length + 1
  op : (wrS t (on.headD 0) w).op = false
  nd : nd = fun i => if i = t.length then ndT t w else ndT t i
  kids : G.kids t.length = on
  parr : G.par t.length = some p
  par : ∀ y, y ≠ t.length → G.par y = if y ∈ on then some t.length else (fo0 t).par y

theorem wr_leaf {t : List Nd} (hR : RightP t) {l l2 : List Int} {on : List Nat} {w : Nat} (P : WrP t l l2 on w) (hk : (fo0 t).kids w = []) {p : Nat} (hp : (fo0 t).par (on.headD 0) = some p) : WrL t on w p (wrE t on w).F (wrE t on w).nd := by
  have o0 := fo0_ok hR
  have hm := headD_mem P.ne
  have hle := hR.le
  obtain ⟨q1, q2, q3, q4, q5⟩ := wr_parts hR P hm hp
  have hc : cpy 200 ⟨fo0 t, t.length, ndT t, false⟩ w = (⟨fo0 t, t.length, ndT t, false⟩ : FoS).fresh w := by
    have h1 := cpK_end 199 ⟨fo0 t, t.length, ndT t, false⟩ w (show ¬ 600 ≤ t.length by omega)
    have h2 : ((⟨fo0 t, t.length, ndT t, false⟩ : FoS).F.kids w).length = 0 := by show ((fo0 t).kids w).length = 0; rw [hk]; rfl
    rw [h2, cpK_zero] at h1
    exact h1.symm
  have hS : ∀ f, wrS t f w = ((⟨fo0 t, t.length, ndT t, false⟩ : FoS).fresh w).row (kpar 4 (fo0 t) f) (kpos 4 (fo0 t) f (kpar 4 (fo0 t) f)) [t.length] := by
    intro f
    show (innS false _ [w]).row (kpar 4 (innS false _ [w]).F f) (kpos 4 (innS false _ [w]).F f (kpar 4 (innS false _ [w]).F f)) (innL false _ [w]) = _
    have e1 : innS false ⟨fo0 t, t.length, ndT t, false⟩ [w] = cpy 200 ⟨fo0 t, t.length, ndT t, false⟩ w := rfl
    rw [e1, hc]; rfl
  have hN : (wrS t (on.headD 0) w).N = t.length + 1 := by rw [hS]; rfl
  have hop : (wrS t (on.headD 0) w).op = false := by rw [hS]; rfl
  have hnd : (wrS t (on.headD 0) w).nd = fun i => if i = t.length then ndT t w else ndT t i := by rw [hS]; rfl
  obtain ⟨h1, T⟩ := wr_two hR P hm hp hop
  have hkp : kpar 4 (fo0 t) (on.headD 0) = p := by unfold kpar; rw [if_pos rfl, hp]; rfl
  have hpn := (o0.dom _ _ hp).1
  have hkr : (wrS t (on.headD 0) w).F.kids t.length = [] := by
    rw [hS, hkp]
    show (if t.length = p then _ else (fo0 t).kids t.length) = []
    rw [if_neg (by omega)]
    exact (fresh_none (s := ⟨fo0 t, t.length, ndT t, false⟩) o0 (Nat.le_refl _)).2
  have hto : wrTo t (on.headD 0) w = t.length := by
    unfold wrTo
    rw [inm_leaf (show elK _ _ _ = [] by unfold elK; rw [hkr]; rfl)]; rfl
  obtain ⟨TN, Tnd, Top, Tpar, Tkids⟩ : (innS true (wrS t (on.headD 0) w) on).N = t.length + 1 ∧ (innS true (wrS t (on.headD 0) w) on).nd = (wrS t (on.headD 0) w).nd ∧ True ∧ (∀ y, (innS true (wrS t (on.headD 0) w) on).F.par y = if y ∈ on then none else (wrS t (on.headD 0) w).F.par y) ∧ (∀ y, (innS true (wrS t (on.headD 0) w) on).F.kids y = ((wrS t (on.headD 0) w).F.kids y).filter fun c => !decide (c ∈ on)) := by
    have T := innT T.inv.ok on
    exact ⟨T.N.trans hN, T.nd, trivial, T.par, T.kids⟩
  have hE : wrE t on w = (innS true (wrS t (on.headD 0) w) on).row t.length (kpos 1 (innS true (wrS t (on.headD 0) w) on).F t.length t.length) on := by
    unfold wrE; rw [hto]; rfl
  refine ⟨by rw [hE]; exact TN, hop, by rw [hE]; exact Tnd.trans hnd, ?_, ?_, fun y hy => ?_⟩
  · rw [hE]
    show (if t.length = t.length then _ else _) = on
    rw [if_pos rfl, Tkids, hkr]; simp
  · rw [hE]
    show (if t.length ∈ on then _ else (innS true (wrS t (on.headD 0) w) on).F.par t.length) = some p
    have hn : t.length ∉ on := fun hm => by have := (P.cho.rng _ hm).2; omega
    rw [if_neg hn, Tpar, if_neg hn, q3]
  · rw [hE]
    show (if y ∈ on then some t.length else (innS true (wrS t (on.headD 0) w) on).F.par y) = _
    by_cases e : y ∈ on
    · rw [if_pos e, if_pos e]
    · rw [if_neg e, if_neg e, Tpar, if_neg e, hS]
      show (if y ∈ [t.length] then _ else (fo0 t).par y) = _
      rw [if_neg (by simpa using hy)]
end Go.Proofs.Ytmhhfljbocbolaa

namespace Go.Proofs.Ytmhhfljbocbolaa
open Go.RowKit
set_option linter.unusedVariables false

set_option maxRecDepth 100000 in
set_option maxHeartbeats 1000000 in
theorem kids2_any (a : Option Addr) (c : Nat) (t : List Nd) (ht : t.length ≤ 1000) (i : Nat) (I : Int) (hI : I = i) (w : World) (h : NSl w w.heap.size a t) (hi : i < t.length) (hl : Lam t i (i + sz t i)) (hen : i + sz t i ≤ t.length) (h1 : 1 ≤ sz t i) :
    Calls Try.prog 17 #[.slice a t.length c, .int .i64 I] w (KidsPost t i w) := by
  subst hI
  obtain ⟨i0, hinf, hz0, hz1, hz2⟩ := info_parts Try.info3
  obtain ⟨b, o, rfl, hbB, hc⟩ := h.at_ (by omega)
  have hsi := (hc i hi).2.2.2.2.1
  rw [size_at hi (hl i (Nat.le_refl _) (by omega)).1] at hsi
  have HC := Lib.hid hc
  have HL := Lib.hid hl
  have HK := Lib.hid (kidsL_eq hl h1)
  clear hc hl h
  go_enter Try.func17, Try.ntmps17
  go_wp2_with fail
  go_loopw [5, 6] (fun v x wr => KidsRel t i w v x wr) (fun _ x _ => i + sz t i - (intOf x).toNat)
  case atStart => exact ⟨i + 1, [], by omega, by omega, by go_num, by rw [HK.out]; rfl, by simp, World.ownsRow_nil _ _ _ _, Below.refl _ _⟩
  case round =>
    obtain ⟨k, acc, hk1, hk2, rfl, hacc, hal, hown, hb⟩ := hrel
    have HA := Lib.hid hacc
    clear hacc
    have g0 := (hb.cell (p := ⟨b, o + i * 5 + 4, none⟩) hbB).trans hsi
    by_cases hlt : k < i + sz t i
    · have hkt : k < t.length := by omega
      have hlk := HL.out k (by omega) hlt
      have g1 := (hb.cell (p := ⟨b, o + k * 5 + 4, none⟩) hbB).trans (HC.out k hkt).2.2.2.2.1
      rw [size_at hkt hlk.1] at g1
      have hk3 := hlk.2.1
      have hk4 := hlk.2.2.1
      clear hlk
      go_wp2_with (at_builtin; refine wpList_append_own _ rfl _ _ 23 rfl w.heap.size 3 i0 (.int .i64 0) 1 8 Try.underlying23 hinf hz0 hz1 hz2 rfl (by decide) _ _ _ rfl (hown.alloc _) ⟨wr.heap.size, 0, none⟩ 1 1 [.int .i64 (k : Int)] rfl rfl ?c1 ?c2 ?c3 ?c4 ?c5 ?_)
      case c1 =>
        intro j u hj
        match j, hj with
        | 0, hj => simp at hj; subst hj; simp [Addr.add]
      case c2 => intro u hu; simp at hu; subst hu; rfl
      case c3 => unfold maxLen; omega
      case c4 => omega
      case c5 => have := hb.size; simp; omega
      · intro v' w1 hown' hgrow _
        have hsz := hb.size
        have hb1 : Below w.heap.size w w1 := (hb.alloc hb.size _).grown hgrow (by simp; omega) (fun q hq => (hown.lt q hq).1)
        have g2 := (hb1.cell (p := ⟨b, o + i * 5 + 4, none⟩) hbB).trans hsi
        have g3 := (hb1.cell (p := ⟨b, o + k * 5 + 4, none⟩) hbB).trans (HC.out k hkt).2.2.2.2.1
        rw [size_at hkt (HL.out k (by omega) hlt).1] at g3
        have HO : Hid (w1.ownsRow w.heap.size 3 1 v' (acc ++ [k]).length (ints (acc ++ [k]))) := by
          simpa [Hid, ints] using hown'
        have HR : Hid ((acc ++ [k]) ++ kidsFrom t (i + sz t i - (k + sz t k)) (k + sz t k) (i + sz t i) = kidsL t i) := by
          rw [Hid, ← HA.out, kidsFrom_step (HL.out.from_ (by omega)) hlt]; simp
        clear hown' hgrow hown
        go_wp2_with fail
        go_roundw
        case rel => exact ⟨k + sz t k, acc ++ [k], by omega, by omega, by go_num, HR.out, by simp; omega, HO.out, hb1⟩
        case measure => simp [intOf]; omega
    · obtain ⟨av, cv, rfl, hlen, hrs⟩ := RSl.own hown
      go_wp2_with fail
      go_ret
      have e : acc = kidsL t i := by
        have := HA.out
        have hk : i + sz t i - k = 0 := by omega
        rw [hk] at this
        simpa [kidsFrom] using this
      unfold KidsPost
      rw [← e]
      exact ⟨av, cv, rfl, hrs, hb⟩

set_option maxRecDepth 100000 in
set_option maxHeartbeats 1000000 in
theorem parent2_any (a : Option Addr) (c : Nat) (t : List Nd) (ht : t.length ≤ 1000) (i : Nat) (I : Int) (hI : I = i) (w : World) (h : NSl w w.heap.size a t) (hi : i < t.length) (hl : Lam t 0 t.length) :
    Calls Try.prog 28 #[.slice a t.length c, .int .i64 I] w fun e w' => e = .returned (.int .i64 (parI t i i)) ∧ w = w' := by
  subst hI
  obtain ⟨b, o, rfl, hbB, hc⟩ := h.at_ (by omega)
  have HC := Lib.hid hc
  have HL := Lib.hid hl
  clear hc hl h
  go_enter Try.func28, Try.ntmps28
  go_wp2_with fail
  go_loopw [5] (fun x wr => ∃ k : Nat, k ≤ i ∧ x = .int .i64 ((k : Int) - 1) ∧ Hid (parI t i k = parI t i i) ∧ w = wr) (fun x _ => (intOf x + 1).toNat)
  case atStart => exact ⟨i, by omega, by go_num, rfl, rfl⟩
  case round =>
    obtain ⟨k, hk, rfl, hp, rfl⟩ := hrel
    cases k with
    | zero =>
      go_wp2_with fail
      go_ret
      exact ⟨ret_i hp.out.symm, rfl⟩
    | succ j =>
      have g1 := (HC.out j (by omega)).2.2.2.2.1
      have hlj := HL.out j (by omega) (by omega)
      rw [size_at (by omega) hlj.1] at g1
      have h3 := hlj.2.2.1
      clear hlj
      have ej : ((j + 1 : Nat) : Int) - 1 = (j : Int) := by omega
      rw [ej]
      clear ej
      by_cases hq : i < j + sz t j
      · have HP : Hid (parI t i i = (j : Int)) := by
          rw [Hid, ← hp.out]; simp only [parI]; rw [if_pos hq]
        clear hp
        go_wp2_with fail
        go_ret
        exact ⟨ret_i HP.out, rfl⟩
      · have HP : Hid (parI t i j = parI t i i) := by
          rw [Hid, ← hp.out]; simp only [parI]; rw [if_neg hq]
        clear hp
        go_wp2_with fail
        go_roundw
        case rel => exact ⟨j, by omega, by go_num, HP, by trivial⟩
        case measure => simp [intOf]

set_option maxRecDepth 100000 in
set_option maxHeartbeats 2000000 in
theorem inRow8_yes (kl ws : List Nat) (P : List Int) (hk : ws.length ≤ kl.length) (hl : kl.length ≤ 100000) (hP : ∀ i (hi : i < ws.length), ∃ h : ws[i] < P.length, P[ws[i]] = (kl[i]'(by omega) : Int)) (ak : Option Addr) (ck : Nat) (aw : Option Addr) (cw : Nat) (a2 : Option Addr) (n c2 : Nat) (hn : n = P.length) (w : World) (h1 : RSl w w.heap.size ak (ints kl)) (h2 : RSl w w.heap.size aw (ivs (toI ws))) (h3 : RSl w w.heap.size a2 (ivs P)) :
    Calls Try.prog 26 #[.slice ak kl.length ck, .int .i64 0, .slice aw ws.length cw, .slice a2 n c2] w (fun e w' => e = .returned (.bool true) ∧ ∃ k, w' = w.drewN k) := by
  have HP := Lib.hid hP
  have H1 := Lib.hid h1
  have H2 := Lib.hid h2
  have H3 := Lib.hid h3
  have HN := Lib.hid hn
  clear hP h1 h2 h3 hn
  go_enter Try.func26, Try.ntmps26
  go_wp2_with fail
  go_loopw [9] (fun v wr => ∃ i : Nat, i ≤ ws.length ∧ v = .int .i64 i ∧ ∃ k, wr = w.drewN k) (fun v _ => ws.length - (intOf v).toNat)
  case atStart => exact ⟨0, by omega, rfl, 0, rfl⟩
  case round =>
    obtain ⟨i, hi, rfl, kd, hkd⟩ := hrel
    have hb : Below w.heap.size w wr := by rw [hkd]; exact below_drewN (Below.refl _ _) _
    obtain ⟨W, rfl⟩ : ∃ W : World, W = wr := ⟨_, rfl⟩
    have HKD : Hid (∀ n, ∃ k, W.drewN n = w.drewN k) := fun n => ⟨kd + n, by rw [hkd, World.drewN_drewN]⟩
    have HKE := Lib.hid hkd
    clear hkd
    have HB := Lib.hid hb
    clear hb
    by_cases hlt : i < ws.length
    · obtain ⟨hwp, he⟩ := HP.out i hlt
      have hik : i < kl.length := by omega
      obtain ⟨b1, o1, rfl, -, hc1⟩ := (H1.out.up HB.out).at_ (by rw [ints_length]; omega)
      have g1 := hc1 i (by rw [ints_length]; exact hik)
      have e1 : (ints kl)[i]'(by rw [ints_length]; exact hik) = .int .i64 (kl[i] : Int) := by simp [ints]
      replace g1 := g1.trans (congrArg some e1)
      obtain ⟨b2, o2, rfl, -, hc2⟩ := (H2.out.up HB.out).at_ (by rw [ivs_length, toI_length]; omega)
      have g2 := hc2 i (by rw [ivs_length, toI_length]; exact hlt)
      have e2 : (ivs (toI ws))[i]'(by rw [ivs_length, toI_length]; exact hlt) = .int .i64 (ws[i] : Int) := by rw [ivs_at (by rw [toI_length]; exact hlt), toI_at hlt]
      replace g2 := g2.trans (congrArg some e2)
      obtain ⟨b3, o3, rfl, -, hc3⟩ := (H3.out.up HB.out).at_ (by rw [ivs_length]; omega)
      have g3 := hc3 ws[i] (by rw [ivs_length]; exact hwp)
      rw [ivs_at hwp, he] at g3
      have hwn : ws[i] < n := by rw [HN.out]; exact hwp
      obtain ⟨y, hy⟩ : ∃ y, y = ws[i] := ⟨_, rfl⟩
      obtain ⟨k, hk2⟩ : ∃ k, k = kl[i] := ⟨_, rfl⟩
      rw [← hy] at g2 g3 hwn
      rw [← hk2] at g1 g3
      have f1 : ¬ ((i : Int) < 0) := by omega
      have f0 : decide ((i : Int) < 0) = false := decide_eq_false f1
      have f2 : decide ((kl.length : Int) ≤ (i : Int)) = false := decide_eq_false (by omega)
      have f3 : ((k : Int) != (k : Int)) = false := by simp
      clear hc1 hc2 hc3 e1 e2 hy hk2 hwp he
      go_wp2_with fail
      go_quiet (fail)
      go_wp2_with fail
      go_roundw
      case rel => exact ⟨i + 1, by omega, by go_num, HKD.out _⟩
      case measure => simp [intOf]; omega
    · go_wp2_with fail
      go_ret
      exact ⟨rfl, kd, HKE.out⟩

theorem wrl_ok {t : List Nd} (hR : RightP t) {l l2 : List Int} {on : List Nat} {w p : Nat} (P : WrP t l l2 on w) {G : Fo} {nd : Nat → Nd} (L : WrL t on w p G nd) {h : Nat → Nat} (o : G.Ok (fun i => i < t.length + 1) h) : Mv (t.length + 1) G G h h [] := by
  refine ⟨o, o, fun _ hw => by simp at hw, fun _ hw => by simp at hw, fun _ => rfl, top_of o fun y hy h0 => ?_, by omega⟩
  by_cases e : y = t.length
  · rw [e, L.parr]; simp
  · rw [L.par y e]
    split
    · simp
    · have hu := up_zero hR (show y < t.length by omega)
      cases hu with
      | self => exact absurd rfl h0
      | step h1 _ => rw [h1]; simp

def WrFin (t : List Nd) (on : List Nat) (w p : Nat) (ad : Option Addr) (c : Nat) (a : Option Addr) (c1 : Nat) (a2 : Option Addr) (c2 : Nat) (A : List Nd) (w4 : World) : Prop :=
  Calls Try.prog 20 #[.slice ad t.length c, .slice a (t.length + 1) c1, .slice a2 t.length c2, .bool true] w4 (fun e w' => e = .returned (.bool true) ∧ Below w4.heap.size w4 w') ∧
  ∃ (b o ba oa pf pr pp : Nat), a2 = some ⟨b, o, none⟩ ∧ a = some ⟨ba, oa, none⟩ ∧ 1 ≤ pf ∧ pr < t.length + 1 ∧ (kidsL A pr).length = on.length ∧
    (∀ W, Below w4.heap.size w4 W → W.cell? ⟨b, o + on.headD 0, none⟩ = some (.int .i64 (pf : Int)) ∧ W.cell? ⟨b, o + p, none⟩ = some (.int .i64 (pp : Int)) ∧ W.cell? ⟨ba, oa + pr * 5 + 1, none⟩ = some (.string (ndT t w).tag) ∧
      Calls Try.prog 28 #[.slice a (t.length + 1) c1, .int .i64 (pf : Int)] W (fun e w' => e = .returned (.int .i64 (pr : Int)) ∧ w' = W) ∧
      Calls Try.prog 28 #[.slice a (t.length + 1) c1, .int .i64 (pr : Int)] W (fun e w' => e = .returned (.int .i64 (pp : Int)) ∧ w' = W) ∧
      Calls Try.prog 17 #[.slice a (t.length + 1) c1, .int .i64 (pr : Int)] W (KidsPost A pr W)) ∧
    ∀ W, Below w4.heap.size w4 W → ∀ ak ck ao co, RSl W W.heap.size ak (ints (kidsL A pr)) → RSl W W.heap.size ao (ivs (toI on)) → Calls Try.prog 26 #[.slice ak on.length ck, .int .i64 0, .slice ao on.length co, .slice a2 t.length c2] W (fun e w' => e = .returned (.bool true) ∧ ∃ k, w' = W.drewN k)

theorem wr_fin {t : List Nd} (hR : RightP t) {l l2 : List Int} {on : List Nat} {w p : Nat} (P : WrP t l l2 on w) (hp : (fo0 t).par (on.headD 0) = some p) {G : Fo} {nd : Nat → Nd} (L : WrL t on w p G nd) {h : Nat → Nat} (o : G.Ok (fun i => i < t.length + 1) h) (hh0 : h 0 < 2000) (ad : Option Addr) (c : Nat) (a : Option Addr) (m c1 : Nat) (a2 : Option Addr) (m2 c2 : Nat) (w4 : World) (hO : OutP G h nd t.length a m a2 m2 w4) :
    m = t.length + 1 ∧ m2 = t.length ∧ ∃ A, WrFin t on w p ad c a c1 a2 c2 A w4 := by
  have M := wrl_ok hR P L o
  have hm0 := headD_mem P.ne
  have o0 := fo0_ok hR
  have hfn : on.headD 0 < t.length := (P.cho.rng _ hm0).2
  have hf1 : 1 ≤ on.headD 0 := (P.cho.rng _ hm0).1
  have hpn : p < t.length := (o0.dom _ _ hp).1
  have hle := hR.le
  have hpos := hR.pos
  have hwn : w < t.length := (P.wi.rng w (by simp)).2
  obtain ⟨⟨A, rfl, hA, hs⟩, rfl, hpl⟩ := hO
  have hAl : A.length = t.length + 1 := by have := congrArg List.length hs; unfold outL at this; rw [List.length_map, List.length_map, M.len] at this; exact this
  have hmem : ∀ y ∈ G.all h 0, y < t.length + 1 := fun y hy => M.mem.1 hy
  have hndr : nd t.length = ndT t w := by rw [L.nd]; exact if_pos rfl
  have hndo : ∀ y, y ≠ t.length → nd y = ndT t y := fun y hy => by rw [L.nd]; exact if_neg hy
  have hshp : Shp A := shp_of o hs (by rw [hndo 0 (by omega)]; exact hR.root) (fun y hy => by
      by_cases e : y = t.length
      · rw [e, hndr, P.kind]; exact ⟨by decide, by decide, fun _ => by decide⟩
      · rw [hndo y e]; exact ndT_kind hR (by have := hmem y hy; omega)) (fun y hy hk => by
      by_cases e : y = t.length
      · rw [e, hndr, P.kind]; exact .inr rfl
      · rw [hndo y e]
        refine ndT_leaf hR (by have := hmem y hy; omega) ?_
        obtain ⟨z, hz⟩ := List.exists_mem_of_ne_nil _ hk
        have h1 := (o.mem y z).1 hz
        by_cases e2 : z = t.length
        · rw [e2, L.parr] at h1; cases h1
          exact List.ne_nil_of_mem ((o0.mem _ _).2 hp)
        · rw [L.par z e2] at h1
          split at h1
          · cases h1; exact absurd rfl e
          · exact List.ne_nil_of_mem ((o0.mem _ _).2 h1))
  have hSh := shaped_yes o A (by omega) hs hh0 hshp a c1 w4 hA
  rw [hAl] at hSh ⊢
  have hTold := told7_yes ad t.length c a (t.length + 1) c1 a2 c2 w4 hSh
  have hpl2 : (placeL G h t.length).length = t.length := by simp [placeL]
  -- where they are listed
  have hat : ∀ y, y < t.length + 1 → ∃ q, q < t.length + 1 ∧ (G.all h 0)[q]? = some y ∧ (y < t.length → (placeL G h t.length)[y]? = some (q : Int)) := fun y hy => by
    obtain ⟨-, q, q1, q2, -⟩ := M.at_ hy
    refine ⟨q, q1, q2, fun hyt => ?_⟩
    unfold placeL
    rw [List.getElem?_map, List.getElem?_range hyt]
    have e3 : (G.all h 0).idxOf y = q := by
      have hi := List.idxOf_lt_length_iff.2 (M.mem.2 hy)
      have h5 : (G.all h 0)[(G.all h 0).idxOf y]? = some y := by rw [List.getElem?_eq_getElem hi, List.getElem_idxOf]
      exact all_inj o h5 q2
    simp only [Option.map_some, atF, if_pos (M.mem.2 hy), Nat.zero_add, e3]
  obtain ⟨pf, f1, f2, f3⟩ := hat (on.headD 0) (by omega)
  obtain ⟨pr, r1, r2, -⟩ := hat t.length (by omega)
  obtain ⟨pp, g1, g2, g3⟩ := hat p (by omega)
  have hparf : G.par (on.headD 0) = some t.length := by rw [L.par _ (by omega), if_pos hm0]
  obtain ⟨u1, u2⟩ := par_lst o hs f2 hparf r2
  obtain ⟨v1, v2⟩ := par_lst o hs r2 L.parr g2
  obtain ⟨b, ob, rfl, hbB, hc⟩ := hpl.at_ (by rw [ivs_length, hpl2]; omega)
  obtain ⟨ba, oa, rfl, hbA, hcA⟩ := hA.at_ (by omega)
  have hkl := kids_lst o hs r2
  have hkll : (kidsL A pr).length = on.length := by rw [hkl]; simp [L.kids]
  have hcell : ∀ W, Below w4.heap.size w4 W → ∀ y q : Nat, y < t.length → (placeL G h t.length)[y]? = some (q : Int) → W.cell? ⟨b, ob + y, none⟩ = some (.int .i64 (q : Int)) := fun W hb y q hy hq => by
    have g1 := hc y (by rw [ivs_length, hpl2]; exact hy)
    have e1 : (ivs (placeL G h t.length))[y]'(by rw [ivs_length, hpl2]; exact hy) = .int .i64 (q : Int) := by
      rw [ivs_at (by rw [hpl2]; exact hy)]
      rw [List.getElem?_eq_getElem (by rw [hpl2]; exact hy), Option.some.injEq] at hq
      rw [hq]
    rw [hb.cell (p := ⟨b, _, none⟩) hbB]
    exact g1.trans (congrArg some e1)
  have hlam : Lam A 0 A.length := by
    have h0 : (G.all h 0)[0]? = some 0 := by rw [G.all_eq o 0]; rfl
    have := lst_lam o hs h0
    rw [Nat.zero_add, M.len, ← hAl] at this
    exact this
  refine ⟨rfl, rfl, A, hTold, b, ob, ba, oa, pf, pr, pp, rfl, rfl, by omega, r1, hkll, fun W hb => ⟨hcell W hb _ _ hfn (f3 hfn), hcell W hb _ _ hpn (g3 hpn), ?_, ?_, ?_, ?_⟩, fun W hb ak ck ao co hr hr2 => ?_⟩
  · have k1 := (hcA pr (by omega)).2.1
    have h2 := congrArg (fun l => l[pr]?) hs
    unfold outL at h2
    simp only [List.getElem?_map, r2, Option.map_some, List.getElem?_eq_getElem (show pr < A.length by omega), Option.some.injEq] at h2
    have h3 : A[pr].tag = (ndT t w).tag := by
      have := congrArg Nd.tag h2
      rw [← hndr]; exact this
    rw [hb.cell (p := ⟨ba, _, none⟩) hbA, k1, h3]
  · have := parent2_any (some ⟨ba, oa, none⟩) c1 A (by omega) pf (pf : Int) rfl W (hA.up hb) (by omega) hlam
    rw [hAl, u2] at this
    exact this.mono (fun e w' hh => ⟨hh.1, hh.2.symm⟩)
  · have := parent2_any (some ⟨ba, oa, none⟩) c1 A (by omega) pr (pr : Int) rfl W (hA.up hb) (by omega) hlam
    rw [hAl, v2] at this
    exact this.mono (fun e w' hh => ⟨hh.1, hh.2.symm⟩)
  · obtain ⟨k1, k2, k3⟩ := lst_sz o hs r2
    have hf := all_fits o r2
    have hl := lst_lam o hs r2
    rw [← k3] at hl
    have := kids2_any (some ⟨ba, oa, none⟩) c1 A (by omega) pr (pr : Int) rfl W (hA.up hb) k1 hl (by rw [k3, hAl, ← M.len]; exact hf.2) (by rw [k3]; exact hf.1)
    rw [hAl] at this; exact this
  · have hxl : on.length ≤ 200 := by have := nodup_len P.cho.nodup (fun y hy => (P.cho.rng y hy).2); omega
    have := inRow8_yes (kidsL A pr) on (placeL G h t.length) (by omega) (by omega) (fun i hi => ?_) ak ck ao co (some ⟨b, ob, none⟩) t.length c2 hpl2.symm W hr hr2 (hpl.up hb)
    · rw [hkll] at this; exact this
    have hwt := (P.cho.rng _ (List.getElem_mem hi)).2
    obtain ⟨q, q1, q2, q3⟩ := hat on[i] (by omega)
    have hik : i < (G.kids t.length).length := by rw [L.kids]; exact hi
    have h1 := kid_at o r2 hik
    have h2 : (G.kids t.length)[i] = on[i] := by simp only [L.kids]
    rw [h2] at h1
    have h3 := all_inj o q2 h1
    refine ⟨by rw [hpl2]; exact hwt, ?_⟩
    have q4 := q3 hwt
    rw [List.getElem?_eq_getElem (by rw [hpl2]; exact hwt), Option.some.injEq] at q4
    rw [q4, h3]
    simp only [hkl, List.getElem_map, List.getElem_range]
end Go.Proofs.Ytmhhfljbocbolaa

namespace Go.Proofs.Ytmhhfljbocbolaa
open Go.RowKit
set_option linter.unusedVariables false

set_option maxRecDepth 100000 in
set_option maxHeartbeats 8000000 in
theorem FnWrappedAll_walk (ad : Option Addr) (len c : Nat) (t : List Nd) (a2 : Option Addr) (len2 c2 : Nat) (l : List Int) (I : Int) (w : World) (h : NSl w w.heap.size ad t ∧ len = t.length) (hi : ISl w w.heap.size a2 l ∧ len2 = l.length) (hI : (Lit.int .i64 I).wf = true) :
    Calls Try.prog 11 #[.slice ad len c, .slice a2 len2 c2, .int .i64 I] w fun e w' => e = .returned (.bool true) ∧ Below w.heap.size w w' := by
  obtain ⟨h, rfl⟩ := h
  obtain ⟨hi, rfl⟩ := hi
  have hIb := wf_bounds hI
  have HH := Lib.hid h
  have hll := hi.len
  have HI := Lib.hid hi
  unfold maxLen at hll
  clear h hi hI
  go_enter Try.func11, Try.ntmps11
  go_wp2_with fail
  refine (zzFits1_any _ _ t _ HH.out).mono ?_
  rintro e w1 ⟨rfl, hb1⟩
  have HB1 := Lib.hid hb1
  clear hb1
  cases hf : fits1 t
  · go_wp2_with fail
    go_ret
    exact ⟨rfl, HB1.out⟩
  by_cases k1 : 2147483647 < l.length
  · go_wp2_with fail
    go_ret
    exact ⟨rfl, HB1.out⟩
  have hl : l.length ≤ 2147483647 := by omega
  by_cases q1 : I < 0
  · have e1 : decide (I < 0) = true := decide_eq_true q1
    go_wp2_with fail
    go_ret
    exact ⟨rfl, HB1.out⟩
  have e1 : decide (I < 0) = false := decide_eq_false q1
  by_cases q2 : (t.length : Int) ≤ I
  · have e2 : decide ((t.length : Int) ≤ I) = true := decide_eq_true q2
    go_wp2_with fail
    go_ret
    exact ⟨rfl, HB1.out⟩
  have e2 : decide ((t.length : Int) ≤ I) = false := decide_eq_false q2
  obtain ⟨wi, rfl⟩ : ∃ wi : Nat, I = wi := ⟨I.toNat, by omega⟩
  have hwt : wi < t.length := by omega
  obtain ⟨b, o, rfl, hbB, hc⟩ := HH.out.at_ (by omega)
  have HCt : Hid (∀ W, Below w.heap.size w W → W.cell? ⟨b, o + wi * 5 + 4, none⟩ = some (.int .i64 t[wi].size) ∧ W.cell? ⟨b, o + wi * 5 + 1, none⟩ = some (.string t[wi].tag)) := fun W hb => ⟨(hb.cell (p := ⟨b, _, none⟩) hbB).trans (hc wi hwt).2.2.2.2.1, (hb.cell (p := ⟨b, _, none⟩) hbB).trans (hc wi hwt).2.1⟩
  obtain ⟨c4, c1⟩ := HCt.out w1 HB1.out
  clear hc
  by_cases q3 : t[wi].size = 1
  case neg =>
    have e3 : (t[wi].size != 1) = true := by simpa using q3
    obtain ⟨sz1, hsz1⟩ : ∃ s, s = t[wi].size := ⟨_, rfl⟩
    rw [← hsz1] at c4 e3
    clear q3 hsz1
    go_wp2_with fail
    go_ret
    exact ⟨rfl, HB1.out⟩
  have HQ3 := Lib.hid q3
  rw [q3] at c4
  clear q3 c1
  obtain ⟨W1, hW1⟩ : ∃ W1, W1 = w1.alloc (.cells #[.int .i64 (wi : Int)] 3) := ⟨_, rfl⟩
  have hbA : Below w1.heap.size w1 W1 := by rw [hW1]; exact (Below.refl _ _).alloc (Nat.le_refl _) _
  have HBA := Lib.hid (bnext HB1.out hbA)
  have HOn : Hid (ISl W1 W1.heap.size (some ⟨w1.heap.size, 0, none⟩) [(wi : Int)]) := by rw [hW1]; exact isl_one w1 wi hIb
  have hl1 : [(wi : Int)].length ≤ 2147483647 := by simp
  have HC : Hid (ChC t (some ⟨b, o, none⟩) c (WrG t l [(wi : Int)]) 10 a2 l.length c2 (some ⟨w1.heap.size, 0, none⟩) 1 1 W1) := fun W sb hb hs => changedWr_any (some ⟨b, o, none⟩) c t hf W (HH.out.up (bnext HBA.out hb)) sb a2 c2 l hl (HI.out.up (bnext HBA.out hb)) (some ⟨w1.heap.size, 0, none⟩) 1 [(wi : Int)] hl1 (HOn.out.up hb) hs
  have HSt := Lib.hid (step7_any 10 a2 l.length c2 (some ⟨w1.heap.size, 0, none⟩) 1 1 W1)
  clear hbA
  subst hW1
  go_wp2_with fail
  refine HSt.out.mono ?_
  rintro e w2 ⟨rfl, hb2⟩
  have HB2 := Lib.hid (bnext HBA.out hb2)
  have HCW := Lib.hid (HC.out.up hb2)
  clear hb2
  go_wp2_with fail
  refine (sure7_any HCW.out).mono ?_
  rintro e w3 ⟨b3, rfl, hy, hb3⟩
  have HB3 := Lib.hid (bnext HB2.out hb3)
  cases b3
  · clear hy hb3
    go_wp2_with fail
    go_ret
    exact ⟨rfl, HB3.out⟩
  obtain ⟨hR, F, S, hh, nd, xs, wi', hIP, -, -, -, -⟩ := hy rfl
  have hIw : wi' = wi := by
    have h1 : (wi' : Int) = wi := by have := hIP.wi.eq; simpa [toI] using this.symm
    omega
  subst hIw
  have hsz : sz t wi' = 1 := by
    have := size_at hwt (hR.lam wi' (Nat.zero_le _) hwt).1
    have := HQ3.out
    omega
  have hk0 : (fo0 t).kids wi' = [] := by
    rw [fo0_kids hwt]
    unfold kidsL
    rw [hsz]
    simp only [kidsFrom]
    rw [if_neg (by omega)]
  have hm0 := headD_mem hIP.ne
  obtain ⟨p, hp⟩ := Option.ne_none_iff_exists'.1 (hIP.par _ hm0)
  have L := wr_leaf hR hIP hk0 hp
  obtain ⟨h', ok, -⟩ := wr_final hR hIP L.op
  have ok2 := len_ok ok
  have hle := hR.le
  obtain ⟨hG, hGd⟩ : ∃ hG, hG = (fun y => ((wrE t xs wi').F.all h' y).length) := ⟨_, rfl⟩
  rw [← hGd] at ok2
  have hG0 : hG 0 < 2000 := by
    rw [hGd]
    have := all_bound ok (n := (wrE t xs wi').N) (x := 0) (fun i hi => hi) (by rw [L.N]; omega)
    rw [L.N] at this
    show ((wrE t xs wi').F.all h' 0).length < 2000
    omega
  have okN := ok2
  rw [L.N] at okN
  have hlx : l = toI xs := hIP.cho.eq
  have hll2 : l.length = xs.length := by rw [hlx, toI_length]
  have hpl : 0 < xs.length := List.length_pos_iff.2 hIP.ne
  have HE := Lib.hid (of_10 (some ⟨b, o, none⟩) c t hR a2 c2 l [(wi' : Int)] xs wi' hIP L.op ok2 hl w3 (HH.out.up HB3.out) (HI.out.up HB3.out))
  have HFin : Hid (∀ w4 a m c1 a2 m2 c2, OutP (wrE t xs wi').F hG (wrE t xs wi').nd t.length a m a2 m2 w4 → m = t.length + 1 ∧ m2 = t.length ∧ ∃ A, WrFin t xs wi' p (some ⟨b, o, none⟩) c a c1 a2 c2 A w4) := fun w4 a m c1 a2 m2 c2' hO => wr_fin hR hIP hp L okN hG0 (some ⟨b, o, none⟩) c a m c1 a2 m2 c2' w4 hO
  have hfn : xs.headD 0 < t.length := (hIP.cho.rng _ hm0).2
  have hpn : p < t.length := ((fo0_ok hR).dom _ _ hp).1
  have HPar : Hid (∀ W, Below w.heap.size w W → Calls Try.prog 28 #[.slice (some ⟨b, o, none⟩) t.length c, .int .i64 (xs.headD 0 : Nat)] W (fun e w' => e = .returned (.int .i64 (p : Int)) ∧ w' = W)) := fun W hb => by
    have := parent_any (some ⟨b, o, none⟩) c t hle (xs.headD 0) (xs.headD 0 : Nat) rfl W (HH.out.up hb) hfn (by have := hR.lam; rw [Lam] at this ⊢; exact fun i h1 h2 => hR.lam i h1 h2)
    rw [parI_optY, ← fo0_par hfn, hp] at this
    exact this.mono (fun e w' hh => ⟨hh.1, hh.2.symm⟩)
  have HOnC : Hid (∀ W, Below w.heap.size w W → ∃ bo oo, a2 = some ⟨bo, oo, none⟩ ∧ W.cell? ⟨bo, oo, none⟩ = some (.int .i64 (xs.headD 0 : Nat)) ∧ RSl W W.heap.size a2 (ivs (toI xs))) := fun W hb => by
    have r := (HI.out.up hb).row
    rw [hlx] at r
    obtain ⟨bo, oo, e, -, hc⟩ := r.at_ (by rw [ivs_length, toI_length]; exact hpl)
    refine ⟨bo, oo, e, ?_, r⟩
    have g := hc 0 (by rw [ivs_length, toI_length]; exact hpl)
    rw [ivs_at (by rw [toI_length]; exact hpl), toI_at hpl, Nat.add_zero] at g
    have hx0 : xs[0]'hpl = xs.headD 0 := by
      cases xs with
      | nil => exact absurd rfl hIP.ne
      | cons a l => rfl
    rw [hx0] at g
    exact g
  have hndw : ndT t wi' = t[wi'] := getD_at hwt
  have HNd := Lib.hid hndw
  have HLl := Lib.hid hll2
  clear hy hb3 hIP hsz hk0 hm0 hp L ok ok2 okN hGd hG0 hlx hndw hll2
  go_wp2_with fail
  refine HE.out.mono ?_
  rintro e w4 ⟨b3, m3, d3, b4, m4, d4, rfl, hO, hb4⟩
  obtain ⟨rfl, rfl, A, hTold, b5, o5, ba, oa, pf, pr, pp, rfl, rfl, hpf, hpr, hkl, hW, hRow⟩ := HFin.out w4 b3 m3 d3 b4 m4 d4 hO
  obtain ⟨f, hff⟩ : ∃ f, f = xs.headD 0 := ⟨_, rfl⟩
  have HW := Lib.hid hW
  rw [← hff] at HW HOnC HPar hfn
  have HB4 := Lib.hid (bnext HB3.out hb4)
  have HTo := Lib.hid hTold
  have HRo : Hid (∀ W, Below w4.heap.size w4 W → ∀ ak ck, RSl W W.heap.size ak (ints (kidsL A pr)) → ∀ n, Calls Try.prog 26 #[.slice ak xs.length ck, .int .i64 0, .slice a2 l.length c2, .slice (some ⟨b5, o5, none⟩) t.length d4] (W.drewN n) (fun e w' => e = .returned (.bool true) ∧ ∃ k, w' = W.drewN k)) := fun W hb ak ck hr n => by
    have hbn := below_drewN hb n
    obtain ⟨_, _, _, -, r2⟩ := HOnC.out (W.drewN n) (bnext HB4.out hbn)
    have := hRow (W.drewN n) hbn ak ck a2 c2 (hr.below (below_drewN (Below.refl _ _) n)) r2
    rw [HLl.out]
    refine this.mono ?_
    rintro e w' ⟨h1, k, h2⟩
    exact ⟨h1, _, h2.trans (World.drewN_drewN ..)⟩
  have HKi : Hid (∀ W, Below w4.heap.size w4 W → Calls Try.prog 17 #[.slice (some ⟨ba, oa, none⟩) (t.length + 1) d3, .int .i64 (pr : Int)] W (fun e w' => ∃ a c, e = .returned (.slice a xs.length c) ∧ RSl w' w'.heap.size a (ints (kidsL A pr)) ∧ Below W.heap.size W w')) := fun W hb => by
    have := (HW.out W hb).2.2.2.2.2
    unfold KidsPost at this
    rw [hkl] at this
    exact this
  have en : (((t.length + 1 : Nat) : Int) != (t.length : Int) + 1) = false := by simp
  have ep : decide ((pf : Int) < 1) = false := decide_eq_false (by omega)
  have hlp : 0 < l.length := by have := HLl.out; omega
  have eL : ((xs.length : Int) == (l.length : Int)) = true := by have := HLl.out; simp [this]
  obtain ⟨T, hT⟩ : ∃ T, T = t[wi'].tag := ⟨_, rfl⟩
  have HCt2 : Hid (∀ W, Below w.heap.size w W → W.cell? ⟨b, o + wi' * 5 + 1, none⟩ = some (.string T)) := fun W hb => by rw [hT]; exact (HCt.out W hb).2
  have HTg : Hid (∀ W, Below w4.heap.size w4 W → W.cell? ⟨ba, oa + pr * 5 + 1, none⟩ = some (.string T)) := fun W hb => by rw [hT, ← HNd.out]; exact (HW.out W hb).2.2.1
  have eT : (T.toList == T.toList) = true := beq_self_eq_true _
  clear hO hb4 hTold hW hRow hkl hff hT hpl
  go_wp2_with fail
  refine HTo.out.mono ?_
  rintro e w5 ⟨rfl, hb5⟩
  obtain ⟨bo, oo, rfl, x0, -⟩ := HOnC.out w5 (bnext HB4.out hb5)
  obtain ⟨y0, -, -, y3, -, -⟩ := HW.out w5 hb5
  have HB5 := Lib.hid hb5
  have HY3 := Lib.hid y3
  have HK5 := Lib.hid (HKi.out w5 hb5)
  clear y3 hb5
  go_wp2_with fail
  refine HY3.out.mono ?_
  rintro e w6 ⟨rfl, rfl⟩
  go_wp2_with fail
  refine HK5.out.mono ?_
  rintro e w7 ⟨ak, ck, rfl, hr7, hb7⟩
  have HB7 := Lib.hid (bnext HB5.out hb7)
  have HR7 := Lib.hid (HRo.out w7 HB7.out ak ck hr7)
  obtain ⟨bo', oo', he, x1, -⟩ := HOnC.out w7 (bnext HB4.out HB7.out)
  cases he
  obtain ⟨-, y1, -⟩ := HW.out w7 HB7.out
  have y2 := HTg.out w7 HB7.out
  have y3 := HCt2.out w7 (bnext HB4.out HB7.out)
  have HP1 : Hid (∀ n, Calls Try.prog 28 #[.slice (some ⟨b, o, none⟩) t.length c, .int .i64 (f : Nat)] (w7.drewN n) (fun e w' => e = .returned (.int .i64 (p : Int)) ∧ w' = w7.drewN n)) := fun n => HPar.out _ (below_drewN (bnext HB4.out HB7.out) n)
  have HP2 : Hid (∀ n, Calls Try.prog 28 #[.slice (some ⟨ba, oa, none⟩) (t.length + 1) d3, .int .i64 (pr : Int)] (w7.drewN n) (fun e w' => e = .returned (.int .i64 (pp : Int)) ∧ w' = w7.drewN n)) := fun n => (HW.out _ (below_drewN HB7.out n)).2.2.2.2.1
  have eP : ((pp : Int) == (pp : Int)) = true := by simp
  clear hr7 hb7 x0 y0 c4
  go_wp2_with fail
  refine wp_region_quiet_lit (by kernel_rfl) (by kernel_rfl) ?_
  iterate 22 (go_big_quiet_step (fail))
  go_big_quiet_step (first | (go_at_call 26; exact (HR7.out _).mono (fun _ _ hh => hh)))
  iterate 7 (go_big_quiet_step (fail))
  go_big_quiet_step (first | (go_at_call 28; exact (HP1.out _).mono (fun _ _ hh => ⟨hh.1, _, hh.2⟩)))
  iterate 4 (go_big_quiet_step (fail))
  go_big_quiet_step (first | (go_at_call 28; exact (HP2.out _).mono (fun _ _ hh => ⟨hh.1, _, hh.2⟩)))
  iterate 3 (go_big_quiet_step (fail))
  refine wpQuiet_nil ?_
  intro _ hw'
  obtain ⟨nq, hw''⟩ := hw'
  subst hw''
  have HEnd : Hid (Below w.heap.size w (w7.drewN nq)) := below_drewN (bnext HB4.out HB7.out) nq
  go_wp2_with fail
  go_ret
  exact ⟨by trivial, HEnd.out⟩
end Go.Proofs.Ytmhhfljbocbolaa
