/- The children of a node that are elements, gathered; Children. -/
import Derived.Test.YtgilbckfkngaiaaT49
namespace Go.Proofs.Ytgilbckfkngaiaa
open Go.RowKit
set_option linter.unusedVariables false

theorem run_make_rowN {P : Program} (t e : TypeId) (i : TypeInfo) (z : Value) (ht : P.underlying t = some (.slice e)) (hi : P.info? e = some i) (hz : i.zero = some z)
    (kl kc : IntKind) (n c : Nat) (hnc : n ≤ c) (hbytes : i.bytes * c ≤ 281474976710656) (h63 : c ≤ 9223372036854775807) (w : World) :
    (Instr.makeSlice t (.int kl (n : Int)) (.int kc (c : Int))).run P w = .ok (.slice (some ⟨w.heap.size, 0, none⟩) n c) (w.alloc (.cells (madeCells z.cells (c * i.size)) e)) := by
  have hb : (i.bytes : Int) * (c : Int) ≤ 281474976710656 := by
    have h : ((i.bytes * c : Nat) : Int) ≤ 281474976710656 := by omega
    rwa [Int.natCast_mul] at h
  have hr := run_make (P := P) w t e i z ht hi hz kl kc n c (by omega) (by omega) hb (by omega)
  simp only [Int.toNat_natCast] at hr
  exact hr

/-- The elements of a list of nodes. -/
def elsOf (t : List Nd) (K : List Nat) : List Nat := K.filter (isEl t)

/-- Those ahead of the k-th. -/
theorem elsOf_next {t : List Nd} {K : List Nat} {k : Nat} (h : k < K.length) (hel : isEl t K[k] = true) : elsOf t (K.take (nextE (isEl t) K (k + 1))) = elsOf t (K.take k) ++ [K[k]] := by
  have hd : ∀ d, k + 1 + d ≤ K.length → (∀ j (h : j < K.length), k + 1 ≤ j → j < k + 1 + d → isEl t K[j] = false) → elsOf t (K.take (k + 1 + d)) = elsOf t (K.take k) ++ [K[k]] := by
    intro d
    induction d with
    | zero =>
      intro _ _
      rw [Nat.add_zero, List.take_succ_eq_append_getElem h]
      unfold elsOf
      rw [List.filter_append, List.filter_cons, List.filter_nil, if_pos hel]
    | succ d ih =>
      intro h1 h2
      rw [show k + 1 + (d + 1) = (k + 1 + d) + 1 by omega, List.take_succ_eq_append_getElem (by omega)]
      have e := ih (by omega) (fun j hj q1 q2 => h2 j hj q1 (by omega))
      unfold elsOf at e ⊢
      rw [List.filter_append, List.filter_cons, List.filter_nil, if_neg (by rw [h2 _ _ (by omega) (by omega)]; simp), e, List.append_nil]
  have hle := nextE_le (isEl t) (K := K) (k := k + 1) (by omega)
  have hge := nextE_ge (isEl t) K (k + 1)
  have := hd (nextE (isEl t) K (k + 1) - (k + 1)) (by omega) (fun j hj q1 q2 => by
    unfold nextE at q2
    have hlt : j - (k + 1) < (K.drop (k + 1)).findIdx (isEl t) := by omega
    have := List.not_of_lt_findIdx hlt
    rw [List.getElem_drop] at this
    simp only [show k + 1 + (j - (k + 1)) = j by omega] at this
    simpa using this)
  rw [show k + 1 + (nextE (isEl t) K (k + 1) - (k + 1)) = nextE (isEl t) K (k + 1) by omega] at this
  exact this
theorem elsOf_first {t : List Nd} {K : List Nat} : elsOf t (K.take (nextE (isEl t) K 0)) = [] := by
  unfold elsOf
  rw [List.filter_eq_nil_iff]
  intro x hx
  obtain ⟨j, hj, rfl⟩ := List.getElem_of_mem hx
  rw [List.getElem_take]
  simp at hj
  have hlt : j < (K.drop 0).findIdx (isEl t) := by unfold nextE at hj; omega
  have := List.not_of_lt_findIdx hlt
  rw [List.getElem_drop] at this
  simp only [Nat.zero_add] at this
  rw [this]; simp
theorem nextE_el {t : List Nd} {K : List Nat} {k : Nat} (h : nextE (isEl t) K k < K.length) : isEl t K[nextE (isEl t) K k] = true := by
  have h2 : (K.drop k).findIdx (isEl t) < (K.drop k).length := by unfold nextE at h; rw [List.length_drop]; omega
  have := List.findIdx_getElem (w := h2)
  rw [List.getElem_drop] at this
  exact this

/-- Where a walk over the elements stands: at the first one, or right behind another one. -/
def AtE (t : List Nd) (K : List Nat) (k : Nat) : Prop := k ≤ K.length ∧ ∀ h : k < K.length, isEl t K[k] = true

theorem ItAt.below {t : List Nd} {bl : Nat → Nat} {st : Nat → Dn} {p : Nat} {K : List Nat} {b1 b2 b3 : Nat} {w w' : World} (h : ItAt t bl st p K b1 b2 b3 w) (hb : Below w.heap.size w w') (h1 : b1 < w.heap.size) (h2 : b2 < w.heap.size) (h3 : b3 < w.heap.size) (hp : bl p < w.heap.size) (hK : ∀ k (h : k < K.length), bl K[k] < w.heap.size) : ItAt t bl st p K b1 b2 b3 w' := by
  refine ⟨(hb.cell (p := ⟨b1, 0, none⟩) h1).trans h.st_, (hb.cell (p := ⟨b2, 0, none⟩) h2).trans h.par, (hb.cell (p := ⟨b3, 0, none⟩) h3).trans h.skip, (hb.cell (p := ⟨bl p, 1, none⟩) hp).trans h.fst, fun k hk => (hb.cell (p := ⟨bl K[k], 4, none⟩) (hK k hk)).trans (h.nxt k hk), fun k hk => ?_, h.inj⟩
  obtain ⟨y, q1, q2⟩ := h.typ k hk
  exact ⟨y, (hb.cell (p := ⟨bl K[k], 5, none⟩) (hK k hk)).trans q1, q2⟩

def CountRel (t : List Nd) (bl : Nat → Nat) (K : List Nat) (W : World) (v x : Value) (wr : World) : Prop :=
  ∃ k : Nat, AtE t K k ∧ v = .int .i64 ((elsOf t (K.take k)).length : Nat) ∧ x = ptrK bl K k ∧ W = wr

def GatherRel (t : List Nd) (bl : Nat → Nat) (K : List Nat) (B : Nat) (W : World) (v x : Value) (wr : World) : Prop :=
  ∃ (k : Nat) (a : Option Addr) (c : Nat), AtE t K k ∧ v = .slice a (elsOf t (K.take k)).length c ∧ x = ptrK bl K k ∧
    wr.ownsRow B 75 1 (.slice a (elsOf t (K.take k)).length c) (elsOf t (K.take k)).length (ptrs bl (elsOf t (K.take k))) ∧ Below B W wr

theorem elsOf_len (t : List Nd) (K : List Nat) (k : Nat) : (elsOf t (K.take k)).length ≤ K.length := by
  unfold elsOf
  have := List.length_filter_le (isEl t) (K.take k)
  simp at this; omega

theorem leftK {bl : Nat → Nat} {K : List Nat} (hinj : ∀ i j (h1 : i < K.length) (h2 : j < K.length), bl K[i] = bl K[j] → i = j) (k : Nat) (hk : k ≤ K.length) : (if k < K.length then leftOf bl K (ptrK bl K k) else 0) = K.length - k := by
  by_cases h : k < K.length
  · rw [if_pos h, ptrK_at h, leftOf_at h hinj]
  · rw [if_neg h]; omega
/-- A measure for the walk over the elements. -/
def measE (bl : Nat → Nat) (K : List Nat) (v : Value) : Nat := match ptrBlk v with | none => 0 | some b => K.length - K.findIdx fun i => bl i == b
theorem measE_at {bl : Nat → Nat} {K : List Nat} (hinj : ∀ i j (h1 : i < K.length) (h2 : j < K.length), bl K[i] = bl K[j] → i = j) {k : Nat} (hk : k ≤ K.length) : measE bl K (ptrK bl K k) = K.length - k := by
  by_cases h : k < K.length
  · have := leftOf_at h hinj
    rw [ptrK_at h]
    exact this
  · rw [ptrK_end (by omega)]
    show 0 = _
    omega

set_option maxRecDepth 100000 in
set_option maxHeartbeats 4000000 in
theorem gather_any (t : List Nd) (bl : Nat → Nat) (st : Nat → Dn) (p : Nat) (K : List Nat) (hlen : K.length ≤ 200) (w : World) (hp : bl p < w.heap.size) (hKl : ∀ k (h : k < K.length), bl K[k] < w.heap.size)
    (hfst : w.cell? ⟨bl p, 1, none⟩ = some (ptrK bl K 0)) (hnxt : ∀ k (h : k < K.length), w.cell? ⟨bl K[k], 4, none⟩ = some (ptrK bl K (k + 1)))
    (htyp : ∀ k (h : k < K.length), ∃ y, w.cell? ⟨bl K[k], 5, none⟩ = some (.int .u32 y) ∧ (y == 3) = isEl t K[k]) (hinj : ∀ i j (h1 : i < K.length) (h2 : j < K.length), bl K[i] = bl K[j] → i = j) :
    Calls Try.prog 158 #[.pointer (some ⟨bl p, 0, none⟩), .int .i64 0, .pointer none, .nilFunc] w (OwnNPost bl (elsOf t K) w) := by
  have hmf : ∀ (fn : Fn) (first cap : Array Value) (w : World), (Instr.makeFunc fn first cap).run Try.prog w = .ok (.func fn first cap) w := fun _ _ _ _ => rfl
  obtain ⟨i0, hinf, hz0, hz1, hz2⟩ := info_parts Try.infoP
  have hmk := fun (n : Nat) (hn : n ≤ 200) => run_make_rowN (P := Try.prog) 86 75 i0 (.pointer none) Try.underlying86 hinf hz0 .i64 .i64 0 n (by omega) (by rw [hz2]; omega) (by omega)
  obtain ⟨W, hW⟩ : ∃ W, W = ((w.alloc (.cells #[.pointer (some ⟨bl p, 0, none⟩)] 75)).alloc (.cells #[.int .i64 0] 151)).alloc (.cells #[.pointer none] 75) := ⟨_, rfl⟩
  have hb0 : Below w.heap.size w W := by rw [hW]; exact (((Below.refl _ _).alloc (Nat.le_refl _) _).alloc (by simp) _).alloc (by simp; omega) _
  have hsz : W.heap.size = w.heap.size + 3 := by rw [hW]; simp
  have hIt : ItAt t bl st p K (w.heap.size + 1) w.heap.size (w.heap.size + 2) W := by
    refine ⟨?_, ?_, ?_, (hb0.cell (p := ⟨bl p, 1, none⟩) hp).trans hfst, fun k h => (hb0.cell (p := ⟨bl K[k], 4, none⟩) (hKl k h)).trans (hnxt k h), fun k h => ?_, hinj⟩
    · rw [hW, World.cell?_alloc_lt _ _ _ (by simp), World.cell?_alloc_at _ _ _ _ (by simp)]; rfl
    · rw [hW, World.cell?_alloc_lt _ _ _ (by simp; omega), World.cell?_alloc_lt _ _ _ (by simp), World.cell?_alloc_mark]; rfl
    · rw [hW, World.cell?_alloc_at _ _ _ _ (by simp)]; rfl
    · obtain ⟨y, q1, q2⟩ := htyp k h
      exact ⟨y, (hb0.cell (p := ⟨bl K[k], 5, none⟩) (hKl k h)).trans q1, q2⟩
  have HIt := Lib.hid hIt
  have HB0 := Lib.hid hb0
  have HMk := Lib.hid hmk
  have HInj := Lib.hid hinj
  have HKl := Lib.hid hKl
  have hbox := hIt.st_
  have HW := Lib.hid hW
  have hszW : w.heap.size ≤ W.heap.size := by omega
  have HSz := Lib.hid hsz
  have HIter : Hid (∀ W', Below W.heap.size W W' → ∀ k, k ≤ K.length → Calls Try.prog 184 #[CurK bl K k, .pointer (some ⟨w.heap.size + 1, 0, none⟩), .pointer (some ⟨w.heap.size, 0, none⟩), .pointer (some ⟨w.heap.size + 2, 0, none⟩)] W' fun e w' => e = .returned (ptrK bl K (nextE (isEl t) K k)) ∧ W' = w') :=
    fun W' hW' k hk => iter_any t bl st p K _ _ _ W' (hIt.below hW' (by omega) (by omega) (by omega) (by omega) (fun k h => by have := hKl k h; omega)) k hk
  have hge3 : w.heap.size + 3 ≤ W.heap.size := by omega
  clear hmk hW hb0 hIt hinj hKl hfst hnxt htyp hsz
  go_enter Try.func158, Try.ntmps158
  go_wp2_with fail
  rw [← HW.out]
  refine (HIter.out W (Below.refl _ _) 0 (Nat.zero_le _)).mono ?_
  rintro e w1 ⟨rfl, rfl⟩
  go_wp2_with fail
  go_loopw [10, 11] (fun v x wr => CountRel t bl K W v x wr) (fun _ x _ => measE bl K x)
  case atStart => exact ⟨nextE (isEl t) K 0, ⟨nextE_le _ (Nat.zero_le _), fun h => nextE_el h⟩, by rw [elsOf_first]; rfl, rfl, rfl⟩
  case round =>
    obtain ⟨k, ⟨hk, hel⟩, rfl, rfl, rfl⟩ := hrel
    have hnl := elsOf_len t K k
    have HMe := Lib.hid (measE_at HInj.out hk)
    by_cases hlt : k < K.length
    · have HEl := Lib.hid (hel hlt)
      have HC := HIter.out W (Below.refl _ _) (k + 1) (by omega)
      have e1 : CurK bl K (k + 1) = .pointer (some ⟨bl K[k], 0, none⟩) := by
        unfold CurK
        rw [if_neg (by omega), Nat.add_sub_cancel, ptrK_at hlt]
      rw [e1] at HC
      have HC := Lib.hid HC
      rw [ptrK_at hlt]
      rw [ptrK_at hlt] at HMe
      obtain ⟨m, hm⟩ : ∃ m, m = (elsOf t (K.take k)).length := ⟨_, rfl⟩
      have HNx : Hid ((elsOf t (K.take (nextE (isEl t) K (k + 1)))).length = m + 1) := by
        rw [Hid, elsOf_next hlt HEl.out, List.length_append, hm]; rfl
      have HMn := Lib.hid (measE_at HInj.out (nextE_le (isEl t) (K := K) (k := k + 1) (by omega)))
      have hge := nextE_ge (isEl t) K (k + 1)
      have hle := nextE_le (isEl t) (K := K) (k := k + 1) (by omega)
      rw [← hm] at hnl ⊢
      obtain ⟨q, hq⟩ : ∃ q, q = K[k] := ⟨_, rfl⟩
      rw [← hq] at HC HMe ⊢
      clear hq hm e1 hel
      go_wp2_with fail
      refine HC.out.mono ?_
      rintro e w1 ⟨rfl, rfl⟩
      go_wp2_with fail
      go_roundw
      case rel => exact ⟨_, ⟨hle, fun h => nextE_el h⟩, by rw [HNx.out]; go_num, rfl, by trivial⟩
      case measure => rw [HMn.out, HMe.out]; omega
    · have hkl : k = K.length := by omega
      rw [ptrK_end (bl := bl) (K := K) (k := k) (by omega)]
      have HAll : Hid (elsOf t (K.take k) = elsOf t K) := by rw [Hid, hkl, List.take_length]
      rw [HAll.out] at hnl ⊢
      obtain ⟨n, hn⟩ : ∃ n, n = (elsOf t K).length := ⟨_, rfl⟩
      rw [← hn] at hnl ⊢
      have hmkn : ∀ w : World, (Instr.makeSlice 86 (.int .i64 0) (.int .i64 (n : Int))).run Try.prog w = .ok (.slice (some ⟨w.heap.size, 0, none⟩) 0 n) (w.alloc (.cells (madeCells #[.pointer none] n) 75)) := fun w => by
        have h := HMk.out n (by omega) w
        rw [hz1, Nat.mul_one] at h
        exact h
      have HN := Lib.hid hn
      clear hn hkl hel hlt HMe
      go_wp2_with fail
      have hb1 : Below W.heap.size W (W.alloc (.cells (madeCells #[.pointer none] n) 75)) := (Below.refl _ _).alloc (Nat.le_refl _) _
      refine (HIter.out _ hb1 0 (Nat.zero_le _)).mono ?_
      rintro e w1 ⟨rfl, rfl⟩
      have hrow0 : (W.alloc (.cells (madeCells #[.pointer none] n) 75)).ownsRow W.heap.size 75 1 (.slice (some ⟨W.heap.size, 0, none⟩) 0 n) 0 [] := by
        refine ⟨rfl, .inr ⟨W.heap.size, n, _, rfl, Nat.le_refl _, heap_alloc_new W _, Nat.zero_le _, by unfold maxLen; omega, ?_, rfl⟩⟩
        show (madeCells #[.pointer none] n).size = _
        rw [size_madeCells]; omega
      have HRow0 := Lib.hid hrow0
      have HB1 := Lib.hid hb1
      clear hrow0 hb1 hmkn
      go_wp2_with fail
      go_loopw [8, 12] (fun v x wr => GatherRel t bl K W.heap.size W v x wr) (fun _ x _ => measE bl K x)
      case atStart => exact ⟨nextE (isEl t) K 0, some ⟨W.heap.size, 0, none⟩, n, ⟨nextE_le _ (Nat.zero_le _), fun h => nextE_el h⟩, by rw [elsOf_first]; rfl, rfl, by rw [elsOf_first]; exact HRow0.out, HB1.out⟩
      case round =>
        obtain ⟨k2, a1, c1, ⟨hk2, hel⟩, rfl, rfl, hown, hb⟩ := hrel
        have hnl2 := elsOf_len t K k2
        have HMe := Lib.hid (measE_at HInj.out hk2)
        have gbox := (hb.cell (p := ⟨w.heap.size + 1, 0, none⟩) (show w.heap.size + 1 < W.heap.size by omega)).trans hbox
        by_cases hlt : k2 < K.length
        · have HEl := Lib.hid (hel hlt)
          have e1 : CurK bl K (k2 + 1) = .pointer (some ⟨bl K[k2], 0, none⟩) := by
            unfold CurK
            rw [if_neg (by omega), Nat.add_sub_cancel, ptrK_at hlt]
          have HC : Hid (∀ W', Below W.heap.size W W' → Calls Try.prog 184 #[.pointer (some ⟨bl K[k2], 0, none⟩), .pointer (some ⟨w.heap.size + 1, 0, none⟩), .pointer (some ⟨w.heap.size, 0, none⟩), .pointer (some ⟨w.heap.size + 2, 0, none⟩)] W' fun e w' => e = .returned (ptrK bl K (nextE (isEl t) K (k2 + 1))) ∧ W' = w') := by
            intro W' hW'
            have := HIter.out W' hW' (k2 + 1) (by omega)
            rw [e1] at this
            exact this
          rw [ptrK_at hlt]
          rw [ptrK_at hlt] at HMe
          have HNx : Hid (elsOf t (K.take (nextE (isEl t) K (k2 + 1))) = elsOf t (K.take k2) ++ [K[k2]]) := elsOf_next hlt HEl.out
          have HMn := Lib.hid (measE_at HInj.out (nextE_le (isEl t) (K := K) (k := k2 + 1) (by omega)))
          have hge := nextE_ge (isEl t) K (k2 + 1)
          have hle := nextE_le (isEl t) (K := K) (k := k2 + 1) (by omega)
          obtain ⟨L, hL⟩ : ∃ L, L = elsOf t (K.take k2) := ⟨_, rfl⟩
          rw [← hL] at hnl2 HNx hown ⊢
          obtain ⟨q, hq⟩ : ∃ q, q = K[k2] := ⟨_, rfl⟩
          rw [← hq] at HC HMe HNx ⊢
          have HWn := Lib.hid hown
          have hszr := hb.size
          clear hq hL e1 hel hown
          go_wp2_with (at_builtin; refine wpList_append_own _ rfl _ _ 86 rfl W.heap.size 75 i0 (.pointer none) 1 8 Try.underlying86 hinf hz0 hz1 hz2 rfl (by decide) _ _ _ rfl (HWn.out.alloc _) ⟨wr.heap.size, 0, none⟩ 1 1 [.pointer (some ⟨bl q, 0, none⟩)] rfl rfl (cell_one_new _ _ _) (by intro u hu; simp at hu; subst hu; rfl) (by unfold maxLen; omega) (by omega) (by simp; omega) ?_)
          intro v' w1 hown' hgrow _
          obtain ⟨a3, c3, hv2⟩ := own_slice hown'
          rw [hv2] at hown' ⊢
          have hb1 : Below W.heap.size W w1 := (hb.alloc hb.size _).grown hgrow (by simp; omega) (fun q hq => (HWn.out.lt q hq).1)
          have HO1 : Hid (w1.ownsRow W.heap.size 75 1 (.slice a3 (L.length + 1) c3) (L.length + 1) (ptrs bl (L ++ [q]))) := by
            rw [Hid, ptrs_snoc]; exact hown'
          have gbox1 := (hb1.cell (p := ⟨w.heap.size + 1, 0, none⟩) (show w.heap.size + 1 < W.heap.size by omega)).trans hbox
          have HC1 := Lib.hid (HC.out w1 hb1)
          have HB2 := Lib.hid hb1
          clear hown' hgrow hv2 gbox hb1
          go_wp2_with fail
          refine HC1.out.mono ?_
          rintro e w2 ⟨rfl, rfl⟩
          go_wp2_with fail
          go_roundw
          case rel => exact ⟨_, a3, c3, ⟨hle, fun h => nextE_el h⟩, by rw [HNx.out, List.length_append]; rfl, rfl, by rw [HNx.out, List.length_append]; exact HO1.out, HB2.out⟩
          case measure => rw [HMn.out, HMe.out]; omega
        · have hkl : k2 = K.length := by omega
          rw [ptrK_end (bl := bl) (K := K) (k := k2) (by omega)]
          have HAll2 : Hid (elsOf t (K.take k2) = elsOf t K) := by rw [Hid, hkl, List.take_length]
          rw [HAll2.out] at hown ⊢
          have HOw := Lib.hid hown
          clear hkl hel hlt HMe hown
          go_wp2_with fail
          go_ret
          exact ⟨_, rfl, ⟨a1, c1, rfl, own_base HOw.out hszW⟩, HB0.out.trans (hb.mono hszW)⟩
end Go.Proofs.Ytgilbckfkngaiaa
