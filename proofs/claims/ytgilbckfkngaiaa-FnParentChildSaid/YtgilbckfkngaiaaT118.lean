/- The siblings of a node: gathered. (Turned by gen117.py out of T49 and T50.) -/
import Derived.Test.YtgilbckfkngaiaaT117
namespace Go.Proofs.Ytgilbckfkngaiaa
open Go.RowKit
set_option linter.unusedVariables false

set_option maxRecDepth 100000 in
set_option maxHeartbeats 4000000 in
theorem gather_nx (t : List Nd) (bl : Nat → Nat) (st : Nat → Dn) (p : Nat) (pa : Option Addr) (K : List Nat) (hlen : K.length ≤ 200) (w : World) (hp : bl p < w.heap.size) (hKl : ∀ k (h : k < K.length), bl K[k] < w.heap.size)
    (hfst : w.cell? ⟨bl p, 4, none⟩ = some (ptrK bl K 0)) (hnxt : ∀ k (h : k < K.length), w.cell? ⟨bl K[k], 4, none⟩ = some (ptrK bl K (k + 1)))
    (htyp : ∀ k (h : k < K.length), ∃ y, w.cell? ⟨bl K[k], 5, none⟩ = some (.int .u32 y) ∧ (y == 3) = isEl t K[k]) (hinj : ∀ i j (h1 : i < K.length) (h2 : j < K.length), bl K[i] = bl K[j] → i = j) :
    Calls Try.prog 158 #[.pointer pa, .int .i64 2, .pointer (some ⟨bl p, 0, none⟩), .nilFunc] w (OwnNPost bl (elsOf t K) w) := by
  have hmf : ∀ (fn : Fn) (first cap : Array Value) (w : World), (Instr.makeFunc fn first cap).run Try.prog w = .ok (.func fn first cap) w := fun _ _ _ _ => rfl
  obtain ⟨i0, hinf, hz0, hz1, hz2⟩ := info_parts Try.infoP
  have hmk := fun (n : Nat) (hn : n ≤ 200) => run_make_rowN (P := Try.prog) 86 75 i0 (.pointer none) Try.underlying86 hinf hz0 .i64 .i64 0 n (by omega) (by rw [hz2]; omega) (by omega)
  obtain ⟨W, hW⟩ : ∃ W, W = ((w.alloc (.cells #[.pointer pa] 75)).alloc (.cells #[.int .i64 2] 151)).alloc (.cells #[.pointer (some ⟨bl p, 0, none⟩)] 75) := ⟨_, rfl⟩
  have hb0 : Below w.heap.size w W := by rw [hW]; exact (((Below.refl _ _).alloc (Nat.le_refl _) _).alloc (by simp) _).alloc (by simp; omega) _
  have hsz : W.heap.size = w.heap.size + 3 := by rw [hW]; simp
  have hIt : It_nx t bl st p K (w.heap.size + 1) w.heap.size (w.heap.size + 2) W := by
    refine ⟨?_, trivial, ?_, (hb0.cell (p := ⟨bl p, 4, none⟩) hp).trans hfst, fun k h => (hb0.cell (p := ⟨bl K[k], 4, none⟩) (hKl k h)).trans (hnxt k h), fun k h => ?_, hinj⟩
    · rw [hW, World.cell?_alloc_lt _ _ _ (by simp), World.cell?_alloc_at _ _ _ _ (by simp)]; rfl
    · rw [hW, World.cell?_alloc_at _ _ _ _ (by simp)]; rfl
    · obtain ⟨y, q1, q2⟩ := htyp k h
      exact ⟨y, (hb0.cell (p := ⟨bl K[k], 5, none⟩) (hKl k h)).trans q1, q2⟩
  have HIt := Lib.hid hIt
  have HB0 := Lib.hid hb0
  have HMk := Lib.hid hmk
  have HInj := Lib.hid hinj
  have HKl := Lib.hid hKl
  have hbox := hIt.st_
  have HW := Lib.hid hW
  have hszW : w.heap.size ≤ W.heap.size := by omega
  have HSz := Lib.hid hsz
  have HIter : Hid (∀ W', Below W.heap.size W W' → ∀ k, k ≤ K.length → Calls Try.prog 184 #[CurK bl K k, .pointer (some ⟨w.heap.size + 1, 0, none⟩), .pointer (some ⟨w.heap.size, 0, none⟩), .pointer (some ⟨w.heap.size + 2, 0, none⟩)] W' fun e w' => e = .returned (ptrK bl K (nextE (isEl t) K k)) ∧ W' = w') :=
    fun W' hW' k hk => iter_nx t bl st p K _ _ _ W' (hIt.below hW' (by omega) (by omega) (by omega) (by omega) (fun k h => by have := hKl k h; omega)) k hk
  have hge3 : w.heap.size + 3 ≤ W.heap.size := by omega
  clear hmk hW hb0 hIt hinj hKl hfst hnxt htyp hsz
  go_enter Try.func158, Try.ntmps158
  go_wp2_with fail
  rw [← HW.out]
  refine (HIter.out W (Below.refl _ _) 0 (Nat.zero_le _)).mono ?_
  rintro e w1 ⟨rfl, rfl⟩
  go_wp2_with fail
  go_loopw [10, 11] (fun v x wr => CountRel t bl K W v x wr) (fun _ x _ => measE bl K x)
  case atStart => exact ⟨nextE (isEl t) K 0, ⟨nextE_le _ (Nat.zero_le _), fun h => nextE_el h⟩, by rw [elsOf_first]; rfl, rfl, rfl⟩
  case round =>
    obtain ⟨k, ⟨hk, hel⟩, rfl, rfl, rfl⟩ := hrel
    have hnl := elsOf_len t K k
    have HMe := Lib.hid (measE_at HInj.out hk)
    by_cases hlt : k < K.length
    · have HEl := Lib.hid (hel hlt)
      have HC := HIter.out W (Below.refl _ _) (k + 1) (by omega)
      have e1 : CurK bl K (k + 1) = .pointer (some ⟨bl K[k], 0, none⟩) := by
        unfold CurK
        rw [if_neg (by omega), Nat.add_sub_cancel, ptrK_at hlt]
      rw [e1] at HC
      have HC := Lib.hid HC
      rw [ptrK_at hlt]
      rw [ptrK_at hlt] at HMe
      obtain ⟨m, hm⟩ : ∃ m, m = (elsOf t (K.take k)).length := ⟨_, rfl⟩
      have HNx : Hid ((elsOf t (K.take (nextE (isEl t) K (k + 1)))).length = m + 1) := by
        rw [Hid, elsOf_next hlt HEl.out, List.length_append, hm]; rfl
      have HMn := Lib.hid (measE_at HInj.out (nextE_le (isEl t) (K := K) (k := k + 1) (by omega)))
      have hge := nextE_ge (isEl t) K (k + 1)
      have hle := nextE_le (isEl t) (K := K) (k := k + 1) (by omega)
      rw [← hm] at hnl ⊢
      obtain ⟨q, hq⟩ : ∃ q, q = K[k] := ⟨_, rfl⟩
      rw [← hq] at HC HMe ⊢
      clear hq hm e1 hel
      go_wp2_with fail
      refine HC.out.mono ?_
      rintro e w1 ⟨rfl, rfl⟩
      go_wp2_with fail
      go_roundw
      case rel => exact ⟨_, ⟨hle, fun h => nextE_el h⟩, by rw [HNx.out]; go_num, rfl, by trivial⟩
      case measure => rw [HMn.out, HMe.out]; omega
    · have hkl : k = K.length := by omega
      rw [ptrK_end (bl := bl) (K := K) (k := k) (by omega)]
      have HAll : Hid (elsOf t (K.take k) = elsOf t K) := by rw [Hid, hkl, List.take_length]
      rw [HAll.out] at hnl ⊢
      obtain ⟨n, hn⟩ : ∃ n, n = (elsOf t K).length := ⟨_, rfl⟩
      rw [← hn] at hnl ⊢
      have hmkn : ∀ w : World, (Instr.makeSlice 86 (.int .i64 0) (.int .i64 (n : Int))).run Try.prog w = .ok (.slice (some ⟨w.heap.size, 0, none⟩) 0 n) (w.alloc (.cells (madeCells #[.pointer none] n) 75)) := fun w => by
        have h := HMk.out n (by omega) w
        rw [hz1, Nat.mul_one] at h
        exact h
      have HN := Lib.hid hn
      clear hn hkl hel hlt HMe
      go_wp2_with fail
      have hb1 : Below W.heap.size W (W.alloc (.cells (madeCells #[.pointer none] n) 75)) := (Below.refl _ _).alloc (Nat.le_refl _) _
      refine (HIter.out _ hb1 0 (Nat.zero_le _)).mono ?_
      rintro e w1 ⟨rfl, rfl⟩
      have hrow0 : (W.alloc (.cells (madeCells #[.pointer none] n) 75)).ownsRow W.heap.size 75 1 (.slice (some ⟨W.heap.size, 0, none⟩) 0 n) 0 [] := by
        refine ⟨rfl, .inr ⟨W.heap.size, n, _, rfl, Nat.le_refl _, heap_alloc_new W _, Nat.zero_le _, by unfold maxLen; omega, ?_, rfl⟩⟩
        show (madeCells #[.pointer none] n).size = _
        rw [size_madeCells]; omega
      have HRow0 := Lib.hid hrow0
      have HB1 := Lib.hid hb1
      clear hrow0 hb1 hmkn
      go_wp2_with fail
      go_loopw [8, 12] (fun v x wr => GatherRel t bl K W.heap.size W v x wr) (fun _ x _ => measE bl K x)
      case atStart => exact ⟨nextE (isEl t) K 0, some ⟨W.heap.size, 0, none⟩, n, ⟨nextE_le _ (Nat.zero_le _), fun h => nextE_el h⟩, by rw [elsOf_first]; rfl, rfl, by rw [elsOf_first]; exact HRow0.out, HB1.out⟩
      case round =>
        obtain ⟨k2, a1, c1, ⟨hk2, hel⟩, rfl, rfl, hown, hb⟩ := hrel
        have hnl2 := elsOf_len t K k2
        have HMe := Lib.hid (measE_at HInj.out hk2)
        have gbox := (hb.cell (p := ⟨w.heap.size + 1, 0, none⟩) (show w.heap.size + 1 < W.heap.size by omega)).trans hbox
        by_cases hlt : k2 < K.length
        · have HEl := Lib.hid (hel hlt)
          have e1 : CurK bl K (k2 + 1) = .pointer (some ⟨bl K[k2], 0, none⟩) := by
            unfold CurK
            rw [if_neg (by omega), Nat.add_sub_cancel, ptrK_at hlt]
          have HC : Hid (∀ W', Below W.heap.size W W' → Calls Try.prog 184 #[.pointer (some ⟨bl K[k2], 0, none⟩), .pointer (some ⟨w.heap.size + 1, 0, none⟩), .pointer (some ⟨w.heap.size, 0, none⟩), .pointer (some ⟨w.heap.size + 2, 0, none⟩)] W' fun e w' => e = .returned (ptrK bl K (nextE (isEl t) K (k2 + 1))) ∧ W' = w') := by
            intro W' hW'
            have := HIter.out W' hW' (k2 + 1) (by omega)
            rw [e1] at this
            exact this
          rw [ptrK_at hlt]
          rw [ptrK_at hlt] at HMe
          have HNx : Hid (elsOf t (K.take (nextE (isEl t) K (k2 + 1))) = elsOf t (K.take k2) ++ [K[k2]]) := elsOf_next hlt HEl.out
          have HMn := Lib.hid (measE_at HInj.out (nextE_le (isEl t) (K := K) (k := k2 + 1) (by omega)))
          have hge := nextE_ge (isEl t) K (k2 + 1)
          have hle := nextE_le (isEl t) (K := K) (k := k2 + 1) (by omega)
          obtain ⟨L, hL⟩ : ∃ L, L = elsOf t (K.take k2) := ⟨_, rfl⟩
          rw [← hL] at hnl2 HNx hown ⊢
          obtain ⟨q, hq⟩ : ∃ q, q = K[k2] := ⟨_, rfl⟩
          rw [← hq] at HC HMe HNx ⊢
          have HWn := Lib.hid hown
          have hszr := hb.size
          clear hq hL e1 hel hown
          go_wp2_with (at_builtin; refine wpList_append_own _ rfl _ _ 86 rfl W.heap.size 75 i0 (.pointer none) 1 8 Try.underlying86 hinf hz0 hz1 hz2 rfl (by decide) _ _ _ rfl (HWn.out.alloc _) ⟨wr.heap.size, 0, none⟩ 1 1 [.pointer (some ⟨bl q, 0, none⟩)] rfl rfl (cell_one_new _ _ _) (by intro u hu; simp at hu; subst hu; rfl) (by unfold maxLen; omega) (by omega) (by simp; omega) ?_)
          intro v' w1 hown' hgrow _
          obtain ⟨a3, c3, hv2⟩ := own_slice hown'
          rw [hv2] at hown' ⊢
          have hb1 : Below W.heap.size W w1 := (hb.alloc hb.size _).grown hgrow (by simp; omega) (fun q hq => (HWn.out.lt q hq).1)
          have HO1 : Hid (w1.ownsRow W.heap.size 75 1 (.slice a3 (L.length + 1) c3) (L.length + 1) (ptrs bl (L ++ [q]))) := by
            rw [Hid, ptrs_snoc]; exact hown'
          have gbox1 := (hb1.cell (p := ⟨w.heap.size + 1, 0, none⟩) (show w.heap.size + 1 < W.heap.size by omega)).trans hbox
          have HC1 := Lib.hid (HC.out w1 hb1)
          have HB2 := Lib.hid hb1
          clear hown' hgrow hv2 gbox hb1
          go_wp2_with fail
          refine HC1.out.mono ?_
          rintro e w2 ⟨rfl, rfl⟩
          go_wp2_with fail
          go_roundw
          case rel => exact ⟨_, a3, c3, ⟨hle, fun h => nextE_el h⟩, by rw [HNx.out, List.length_append]; rfl, rfl, by rw [HNx.out, List.length_append]; exact HO1.out, HB2.out⟩
          case measure => rw [HMn.out, HMe.out]; omega
        · have hkl : k2 = K.length := by omega
          rw [ptrK_end (bl := bl) (K := K) (k := k2) (by omega)]
          have HAll2 : Hid (elsOf t (K.take k2) = elsOf t K) := by rw [Hid, hkl, List.take_length]
          rw [HAll2.out] at hown ⊢
          have HOw := Lib.hid hown
          clear hkl hel hlt HMe hown
          go_wp2_with fail
          go_ret
          exact ⟨_, rfl, ⟨a1, c1, rfl, own_base HOw.out hszW⟩, HB0.out.trans (hb.mono hszW)⟩

set_option maxRecDepth 100000 in
set_option maxHeartbeats 4000000 in
theorem gather_n1 (t : List Nd) (bl : Nat → Nat) (st : Nat → Dn) (p : Nat) (pa : Option Addr) (K : List Nat) (hlen : K.length ≤ 200) (w : World) (hp : bl p < w.heap.size) (hKl : ∀ k (h : k < K.length), bl K[k] < w.heap.size)
    (hfst : w.cell? ⟨bl p, 4, none⟩ = some (ptrK bl K 0)) (hnxt : ∀ k (h : k < K.length), w.cell? ⟨bl K[k], 4, none⟩ = some (ptrK bl K (k + 1)))
    (htyp : ∀ k (h : k < K.length), ∃ y, w.cell? ⟨bl K[k], 5, none⟩ = some (.int .u32 y) ∧ (y == 3) = isEl t K[k]) (hinj : ∀ i j (h1 : i < K.length) (h2 : j < K.length), bl K[i] = bl K[j] → i = j) :
    Calls Try.prog 158 #[.pointer pa, .int .i64 1, .pointer (some ⟨bl p, 0, none⟩), .nilFunc] w (OwnNPost bl ((elsOf t K).take 1) w) := by
  have hmf : ∀ (fn : Fn) (first cap : Array Value) (w : World), (Instr.makeFunc fn first cap).run Try.prog w = .ok (.func fn first cap) w := fun _ _ _ _ => rfl
  obtain ⟨i0, hinf, hz0, hz1, hz2⟩ := info_parts Try.infoP
  obtain ⟨W, hW⟩ : ∃ W, W = ((w.alloc (.cells #[.pointer pa] 75)).alloc (.cells #[.int .i64 1] 151)).alloc (.cells #[.pointer (some ⟨bl p, 0, none⟩)] 75) := ⟨_, rfl⟩
  have hb0 : Below w.heap.size w W := by rw [hW]; exact (((Below.refl _ _).alloc (Nat.le_refl _) _).alloc (by simp) _).alloc (by simp; omega) _
  have hsz : W.heap.size = w.heap.size + 3 := by rw [hW]; simp
  have hIt : It_n1 t bl st p K (w.heap.size + 1) w.heap.size (w.heap.size + 2) W := by
    refine ⟨?_, trivial, ?_, (hb0.cell (p := ⟨bl p, 4, none⟩) hp).trans hfst, fun k h => (hb0.cell (p := ⟨bl K[k], 4, none⟩) (hKl k h)).trans (hnxt k h), fun k h => ?_, hinj⟩
    · rw [hW, World.cell?_alloc_lt _ _ _ (by simp), World.cell?_alloc_at _ _ _ _ (by simp)]; rfl
    · rw [hW, World.cell?_alloc_at _ _ _ _ (by simp)]; rfl
    · obtain ⟨y, q1, q2⟩ := htyp k h
      exact ⟨y, (hb0.cell (p := ⟨bl K[k], 5, none⟩) (hKl k h)).trans q1, q2⟩
  have HB0 := Lib.hid hb0
  have hbox := hIt.st_
  have HW := Lib.hid hW
  have hszW : w.heap.size ≤ W.heap.size := by omega
  have HSz := Lib.hid hsz
  have HIter := Lib.hid (iter_n1 t bl st p K _ _ _ W hIt 0 (Nat.zero_le _))
  have HEl : Hid ((elsOf t K).take 1 = (K[nextE (isEl t) K 0]?).toList) := by
    unfold elsOf nextE
    rw [Hid, Nat.zero_add, List.drop_zero]
    clear hIt hinj htyp hnxt hfst hKl hlen HIter
    induction K with
    | nil => simp
    | cons x K ih =>
      rw [List.filter_cons, List.findIdx_cons]
      by_cases e : isEl t x = true
      · rw [if_pos e, e]; simp
      · rw [if_neg e, ih]
        have e2 : isEl t x = false := by simpa using e
        rw [e2]; simp
  clear hW hb0 hIt hinj hKl hfst hnxt htyp hsz
  by_cases hk : nextE (isEl t) K 0 < K.length
  · have hne := ptrK_at (bl := bl) hk
    rw [hne] at HIter
    obtain ⟨q, hq⟩ : ∃ q, q = K[nextE (isEl t) K 0] := ⟨_, rfl⟩
    rw [List.getElem?_eq_getElem hk, ← hq] at HEl
    rw [← hq] at HIter
    rw [HEl.out]
    clear hne hq hk
    go_enter Try.func158, Try.ntmps158
    go_wp2_with fail
    rw [← HW.out]
    refine HIter.out.mono ?_
    rintro e w1 ⟨rfl, rfl⟩
    go_wp2_with fail
    refine wp_loop_rounds 1 ?_
    rw [rounds_succ]
    go_wp2_with (at_builtin; refine wpList_append_own _ rfl _ _ 86 rfl W.heap.size 75 i0 (.pointer none) 1 8 Try.underlying86 hinf hz0 hz1 hz2 rfl (by decide) (.slice none 0 0) 0 [] rfl (World.ownsRow_nil _ _ _ _) ⟨W.heap.size, 0, none⟩ 1 1 [.pointer (some ⟨bl q, 0, none⟩)] rfl rfl (cell_one_new _ _ _) (by intro u hu; simp at hu; subst hu; rfl) (by unfold maxLen; omega) (by omega) (by simp) ?_)
    intro v' w1 hown' hgrow _
    obtain ⟨a3, c3, hv2⟩ := own_slice hown'
    rw [hv2] at hown' ⊢
    have hb1 : Below W.heap.size W w1 := ((Below.refl _ _).alloc (Nat.le_refl _) _).grown hgrow (by simp) (fun q hq => by simp [Value.ownBlock] at hq)
    have gbox := (hb1.cell (p := ⟨w.heap.size + 1, 0, none⟩) (show w.heap.size + 1 < W.heap.size by have := HSz.out; omega)).trans hbox
    have HO1 := Lib.hid hown'
    have HB1 := Lib.hid hb1
    clear hown' hgrow hv2 hb1 hbox
    go_wp2_with fail
    go_ret
    exact ⟨_, rfl, ⟨a3, c3, rfl, own_base HO1.out hszW⟩, HB0.out.trans (HB1.out.mono hszW)⟩
  · have hne := ptrK_end (bl := bl) (K := K) (k := nextE (isEl t) K 0) (by omega)
    rw [hne] at HIter
    rw [List.getElem?_eq_none (by omega)] at HEl
    rw [HEl.out]
    clear hne hk
    go_enter Try.func158, Try.ntmps158
    go_wp2_with fail
    rw [← HW.out]
    refine HIter.out.mono ?_
    rintro e w1 ⟨rfl, rfl⟩
    go_wp2_with fail
    refine wp_loop_rounds 1 ?_
    rw [rounds_succ]
    go_wp2_with fail
    go_ret
    exact ⟨_, rfl, ⟨none, 0, rfl, World.ownsRow_nil _ _ _ _⟩, HB0.out⟩

set_option maxRecDepth 100000 in
set_option maxHeartbeats 4000000 in
theorem gather_p1 (t : List Nd) (bl : Nat → Nat) (st : Nat → Dn) (p : Nat) (pa : Option Addr) (K : List Nat) (hlen : K.length ≤ 200) (w : World) (hp : bl p < w.heap.size) (hKl : ∀ k (h : k < K.length), bl K[k] < w.heap.size)
    (hfst : w.cell? ⟨bl p, 3, none⟩ = some (ptrK bl K 0)) (hnxt : ∀ k (h : k < K.length), w.cell? ⟨bl K[k], 3, none⟩ = some (ptrK bl K (k + 1)))
    (htyp : ∀ k (h : k < K.length), ∃ y, w.cell? ⟨bl K[k], 5, none⟩ = some (.int .u32 y) ∧ (y == 3) = isEl t K[k]) (hinj : ∀ i j (h1 : i < K.length) (h2 : j < K.length), bl K[i] = bl K[j] → i = j) :
    Calls Try.prog 158 #[.pointer pa, .int .i64 (-1), .pointer (some ⟨bl p, 0, none⟩), .nilFunc] w (OwnNPost bl ((elsOf t K).take 1) w) := by
  have hmf : ∀ (fn : Fn) (first cap : Array Value) (w : World), (Instr.makeFunc fn first cap).run Try.prog w = .ok (.func fn first cap) w := fun _ _ _ _ => rfl
  obtain ⟨i0, hinf, hz0, hz1, hz2⟩ := info_parts Try.infoP
  obtain ⟨W, hW⟩ : ∃ W, W = ((w.alloc (.cells #[.pointer pa] 75)).alloc (.cells #[.int .i64 (-1)] 151)).alloc (.cells #[.pointer (some ⟨bl p, 0, none⟩)] 75) := ⟨_, rfl⟩
  have hb0 : Below w.heap.size w W := by rw [hW]; exact (((Below.refl _ _).alloc (Nat.le_refl _) _).alloc (by simp) _).alloc (by simp; omega) _
  have hsz : W.heap.size = w.heap.size + 3 := by rw [hW]; simp
  have hIt : It_p1 t bl st p K (w.heap.size + 1) w.heap.size (w.heap.size + 2) W := by
    refine ⟨?_, trivial, ?_, (hb0.cell (p := ⟨bl p, 3, none⟩) hp).trans hfst, fun k h => (hb0.cell (p := ⟨bl K[k], 3, none⟩) (hKl k h)).trans (hnxt k h), fun k h => ?_, hinj⟩
    · rw [hW, World.cell?_alloc_lt _ _ _ (by simp), World.cell?_alloc_at _ _ _ _ (by simp)]; rfl
    · rw [hW, World.cell?_alloc_at _ _ _ _ (by simp)]; rfl
    · obtain ⟨y, q1, q2⟩ := htyp k h
      exact ⟨y, (hb0.cell (p := ⟨bl K[k], 5, none⟩) (hKl k h)).trans q1, q2⟩
  have HB0 := Lib.hid hb0
  have hbox := hIt.st_
  have HW := Lib.hid hW
  have hszW : w.heap.size ≤ W.heap.size := by omega
  have HSz := Lib.hid hsz
  have HIter := Lib.hid (iter_p1 t bl st p K _ _ _ W hIt 0 (Nat.zero_le _))
  have HEl : Hid ((elsOf t K).take 1 = (K[nextE (isEl t) K 0]?).toList) := by
    unfold elsOf nextE
    rw [Hid, Nat.zero_add, List.drop_zero]
    clear hIt hinj htyp hnxt hfst hKl hlen HIter
    induction K with
    | nil => simp
    | cons x K ih =>
      rw [List.filter_cons, List.findIdx_cons]
      by_cases e : isEl t x = true
      · rw [if_pos e, e]; simp
      · rw [if_neg e, ih]
        have e2 : isEl t x = false := by simpa using e
        rw [e2]; simp
  clear hW hb0 hIt hinj hKl hfst hnxt htyp hsz
  by_cases hk : nextE (isEl t) K 0 < K.length
  · have hne := ptrK_at (bl := bl) hk
    rw [hne] at HIter
    obtain ⟨q, hq⟩ : ∃ q, q = K[nextE (isEl t) K 0] := ⟨_, rfl⟩
    rw [List.getElem?_eq_getElem hk, ← hq] at HEl
    rw [← hq] at HIter
    rw [HEl.out]
    clear hne hq hk
    go_enter Try.func158, Try.ntmps158
    go_wp2_with fail
    rw [← HW.out]
    refine HIter.out.mono ?_
    rintro e w1 ⟨rfl, rfl⟩
    go_wp2_with fail
    refine wp_loop_rounds 1 ?_
    rw [rounds_succ]
    go_wp2_with (at_builtin; refine wpList_append_own _ rfl _ _ 86 rfl W.heap.size 75 i0 (.pointer none) 1 8 Try.underlying86 hinf hz0 hz1 hz2 rfl (by decide) (.slice none 0 0) 0 [] rfl (World.ownsRow_nil _ _ _ _) ⟨W.heap.size, 0, none⟩ 1 1 [.pointer (some ⟨bl q, 0, none⟩)] rfl rfl (cell_one_new _ _ _) (by intro u hu; simp at hu; subst hu; rfl) (by unfold maxLen; omega) (by omega) (by simp) ?_)
    intro v' w1 hown' hgrow _
    obtain ⟨a3, c3, hv2⟩ := own_slice hown'
    rw [hv2] at hown' ⊢
    have hb1 : Below W.heap.size W w1 := ((Below.refl _ _).alloc (Nat.le_refl _) _).grown hgrow (by simp) (fun q hq => by simp [Value.ownBlock] at hq)
    have gbox := (hb1.cell (p := ⟨w.heap.size + 1, 0, none⟩) (show w.heap.size + 1 < W.heap.size by have := HSz.out; omega)).trans hbox
    have HO1 := Lib.hid hown'
    have HB1 := Lib.hid hb1
    clear hown' hgrow hv2 hb1 hbox
    go_wp2_with fail
    go_ret
    exact ⟨_, rfl, ⟨a3, c3, rfl, own_base HO1.out hszW⟩, HB0.out.trans (HB1.out.mono hszW)⟩
  · have hne := ptrK_end (bl := bl) (K := K) (k := nextE (isEl t) K 0) (by omega)
    rw [hne] at HIter
    rw [List.getElem?_eq_none (by omega)] at HEl
    rw [HEl.out]
    clear hne hk
    go_enter Try.func158, Try.ntmps158
    go_wp2_with fail
    rw [← HW.out]
    refine HIter.out.mono ?_
    rintro e w1 ⟨rfl, rfl⟩
    go_wp2_with fail
    refine wp_loop_rounds 1 ?_
    rw [rounds_succ]
    go_wp2_with fail
    go_ret
    exact ⟨_, rfl, ⟨none, 0, rfl, World.ownsRow_nil _ _ _ _⟩, HB0.out⟩
end Go.Proofs.Ytgilbckfkngaiaa
