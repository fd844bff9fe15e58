/- The children of a node that are elements, gathered; Children. -/
import Derived.Test.YtmhhfljbocbolaaT49
namespace Go.Proofs.Ytmhhfljbocbolaa
open Go.RowKit
set_option linter.unusedVariables false

theorem run_make_rowN {P : Program} (t e : TypeId) (i : TypeInfo) (z : Value) (ht : P.underlying t = some (.slice e)) (hi : P.info? e = some i) (hz : i.zero = some z)
    (kl kc : IntKind) (n c : Nat) (hnc : n ≤ c) (hbytes : i.bytes * c ≤ 281474976710656) (h63 : c ≤ 9223372036854775807) (w : World) :
    (Instr.makeSlice t (.int kl (n : Int)) (.int kc (c : Int))).run P w = .ok (.slice (some ⟨w.heap.size, 0, none⟩) n c) (w.alloc (.cells (madeCells z.cells (c * i.size)) e)) := by
  have hb : (i.bytes : Int) * (c : Int) ≤ 281474976710656 := by
    have h : ((i.bytes * c : Nat) : Int) ≤ 281474976710656 := by omega
    rwa [Int.natCast_mul] at h
  have hr := run_make (P := P) w t e i z ht hi hz kl kc n c (by omega) (by omega) hb (by omega)
  simp only [Int.toNat_natCast] at hr
  exact hr

/-- The elements of a list of nodes. -/
def elsOf (t : List Nd) (K : List Nat) : List Nat := K.filter (isEl t)

/-- Those ahead of the k-th. -/
theorem elsOf_next {t : List Nd} {K : List Nat} {k : Nat} (h : k < K.length) (hel : isEl t K[k] = true) : elsOf t (K.take (nextE (isEl t) K (k + 1))) = elsOf t (K.take k) ++ [K[k]] := by
  have hd : ∀ d, k + 1 + d ≤ K.length → (∀ j (h : j < K.length), k + 1 ≤ j → j < k + 1 + d → isEl t K[j] = false) → elsOf t (K.take (k + 1 + d)) = elsOf t (K.take k) ++ [K[k]] := by
    intro d
    induction d with
    | zero =>
      intro _ _
      rw [Nat.add_zero, List.take_succ_eq_append_getElem h]
      unfold elsOf
      rw [List.filter_append, List.filter_cons, List.filter_nil, if_pos hel]
    | succ d ih =>
      intro h1 h2
      rw [show k + 1 + (d + 1) = (k + 1 + d) + 1 by omega, List.take_succ_eq_append_getElem (by omega)]
      have e := ih (by omega) (fun j hj q1 q2 => h2 j hj q1 (by omega))
      unfold elsOf at e ⊢
      rw [List.filter_append, List.filter_cons, List.filter_nil, if_neg (by rw [h2 _ _ (by omega) (by omega)]; simp), e, List.append_nil]
  have hle := nextE_le (isEl t) (K := K) (k := k + 1) (by omega)
  have hge := nextE_ge (isEl t) K (k + 1)
  have := hd (nextE (isEl t) K (k + 1) - (k + 1)) (by omega) (fun j hj q1 q2 => by
    unfold nextE at q2
    have hlt : j - (k + 1) < (K.drop (k + 1)).findIdx (isEl t) := by omega
    have := List.not_of_lt_findIdx hlt
    rw [List.getElem_drop] at this
    simp only [show k + 1 + (j - (k + 1)) = j by omega] at this
    simpa using this)
  rw [show k + 1 + (nextE (isEl t) K (k + 1) - (k + 1)) = nextE (isEl t) K (k + 1) by omega] at this
  exact this
theorem elsOf_first {t : List Nd} {K : List Nat} : elsOf t (K.take (nextE (isEl t) K 0)) = [] := by
  unfold elsOf
  rw [List.filter_eq_nil_iff]
  intro x hx
  obtain ⟨j, hj, rfl⟩ := List.getElem_of_mem hx
  rw [List.getElem_take]
  simp at hj
  have hlt : j < (K.drop 0).findIdx (isEl t) := by unfold nextE at hj; omega
  have := List.not_of_lt_findIdx hlt
  rw [List.getElem_drop] at this
  simp only [Nat.zero_add] at this
  rw [this]; simp
theorem nextE_el {t : List Nd} {K : List Nat} {k : Nat} (h : nextE (isEl t) K k < K.length) : isEl t K[nextE (isEl t) K k] = true := by
  have h2 : (K.drop k).findIdx (isEl t) < (K.drop k).length := by unfold nextE at h; rw [List.length_drop]; omega
  have := List.findIdx_getElem (w := h2)
  rw [List.getElem_drop] at this
  exact this

/-- Where a walk over the elements stands: at the first one, or right behind another one. -/
def AtE (t : List Nd) (K : List Nat) (k : Nat) : Prop := k ≤ K.length ∧ ∀ h : k < K.length, isEl t K[k] = true

theorem ItAt.below {t : List Nd} {bl : Nat → Nat} {st : Nat → Dn} {p : Nat} {K : List Nat} {b1 b2 b3 : Nat} {w w' : World} (h : ItAt t bl st p K b1 b2 b3 w) (hb : Below w.heap.size w w') (h1 : b1 < w.heap.size) (h2 : b2 < w.heap.size) (h3 : b3 < w.heap.size) (hp : bl p < w.heap.size) (hK : ∀ k (h : k < K.length), bl K[k] < w.heap.size) : ItAt t bl st p K b1 b2 b3 w' := by
  refine ⟨(hb.cell (p := ⟨b1, 0, none⟩) h1).trans h.st_, (hb.cell (p := ⟨b2, 0, none⟩) h2).trans h.par, (hb.cell (p := ⟨b3, 0, none⟩) h3).trans h.skip, (hb.cell (p := ⟨bl p, 1, none⟩) hp).trans h.fst, fun k hk => (hb.cell (p := ⟨bl K[k], 4, none⟩) (hK k hk)).trans (h.nxt k hk), fun k hk => ?_, h.inj⟩
  obtain ⟨y, q1, q2⟩ := h.typ k hk
  exact ⟨y, (hb.cell (p := ⟨bl K[k], 5, none⟩) (hK k hk)).trans q1, q2⟩

def CountRel (t : List Nd) (bl : Nat → Nat) (K : List Nat) (W : World) (v x : Value) (wr : World) : Prop :=
  ∃ k : Nat, AtE t K k ∧ v = .int .i64 ((elsOf t (K.take k)).length : Nat) ∧ x = ptrK bl K k ∧ W = wr

def GatherRel (t : List Nd) (bl : Nat → Nat) (K : List Nat) (B : Nat) (W : World) (v x : Value) (wr : World) : Prop :=
  ∃ (k : Nat) (a : Option Addr) (c : Nat), AtE t K k ∧ v = .slice a (elsOf t (K.take k)).length c ∧ x = ptrK bl K k ∧
    wr.ownsRow B 69 1 (.slice a (elsOf t (K.take k)).length c) (elsOf t (K.take k)).length (ptrs bl (elsOf t (K.take k))) ∧ Below B W wr

theorem elsOf_len (t : List Nd) (K : List Nat) (k : Nat) : (elsOf t (K.take k)).length ≤ K.length := by
  unfold elsOf
  have := List.length_filter_le (isEl t) (K.take k)
  simp at this; omega

theorem leftK {bl : Nat → Nat} {K : List Nat} (hinj : ∀ i j (h1 : i < K.length) (h2 : j < K.length), bl K[i] = bl K[j] → i = j) (k : Nat) (hk : k ≤ K.length) : (if k < K.length then leftOf bl K (ptrK bl K k) else 0) = K.length - k := by
  by_cases h : k < K.length
  · rw [if_pos h, ptrK_at h, leftOf_at h hinj]
  · rw [if_neg h]; omega
/-- A measure for the walk over the elements. -/
def measE (bl : Nat → Nat) (K : List Nat) (v : Value) : Nat := match ptrBlk v with | none => 0 | some b => K.length - K.findIdx fun i => bl i == b
theorem measE_at {bl : Nat → Nat} {K : List Nat} (hinj : ∀ i j (h1 : i < K.length) (h2 : j < K.length), bl K[i] = bl K[j] → i = j) {k : Nat} (hk : k ≤ K.length) : measE bl K (ptrK bl K k) = K.length - k := by
  by_cases h : k < K.length
  · have := leftOf_at h hinj
    rw [ptrK_at h]
    exact this
  · rw [ptrK_end (by omega)]
    show 0 = _
    omega

end Go.Proofs.Ytmhhfljbocbolaa
