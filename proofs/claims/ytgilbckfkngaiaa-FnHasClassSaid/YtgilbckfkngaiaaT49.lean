/- The children of a node: the program's way over them. -/
import Derived.Test.YtgilbckfkngaiaaT48
namespace Go.Proofs.Ytgilbckfkngaiaa
open Go.RowKit
set_option linter.unusedVariables false

def ptrBlk : Value → Option Nat
  | .pointer (some a) => some a.block
  | _ => none
/-- How many of a list are left behind the one that a pointer leads to. -/
def leftOf (bl : Nat → Nat) (K : List Nat) (v : Value) : Nat := match ptrBlk v with | none => K.length + 1 | some b => K.length - K.findIdx fun i => bl i == b
theorem leftOf_nil (bl : Nat → Nat) (K : List Nat) : leftOf bl K (.pointer none) = K.length + 1 := rfl
theorem leftOf_at {bl : Nat → Nat} {K : List Nat} {k : Nat} (h : k < K.length) (hinj : ∀ i j (h1 : i < K.length) (h2 : j < K.length), bl K[i] = bl K[j] → i = j) : leftOf bl K (.pointer (some ⟨bl K[k], 0, none⟩)) = K.length - k := by
  unfold leftOf ptrBlk
  dsimp only
  congr 1
  rw [List.findIdx_eq h]
  refine ⟨by simp, fun j hj => ?_⟩
  rw [beq_eq_false_iff_ne]
  intro e
  have := hinj j k (by omega) h e
  omega

/-- A pointer to the k-th of a list, or nil behind its end. -/
def ptrK (bl : Nat → Nat) (K : List Nat) (k : Nat) : Value := .pointer (K[k]?.map fun i => ⟨bl i, 0, none⟩)
theorem ptrK_at {bl : Nat → Nat} {K : List Nat} {k : Nat} (h : k < K.length) : ptrK bl K k = .pointer (some ⟨bl K[k], 0, none⟩) := by
  unfold ptrK; rw [List.getElem?_eq_getElem h]; rfl
theorem ptrK_end {bl : Nat → Nat} {K : List Nat} {k : Nat} (h : K.length ≤ k) : ptrK bl K k = .pointer none := by
  unfold ptrK; rw [List.getElem?_eq_none h]; rfl

/-- The first one from k on that is an element. -/
def nextE (p : Nat → Bool) (K : List Nat) (k : Nat) : Nat := k + (K.drop k).findIdx p
theorem nextE_at {p : Nat → Bool} {K : List Nat} {k0 k : Nat} (hk : k0 ≤ k) (h : k < K.length) (hno : ∀ j (h : j < K.length), k0 ≤ j → j < k → p K[j] = false) (hy : p K[k] = true) : nextE p K k0 = k := by
  unfold nextE
  have : (K.drop k0).findIdx p = k - k0 := by
    rw [List.findIdx_eq (by simp; omega)]
    refine ⟨by simp only [List.getElem_drop]; rw [← hy]; congr 2; omega, fun j hj => ?_⟩
    rw [List.getElem_drop]
    exact hno _ _ (by omega) (by omega)
  omega
theorem nextE_end {p : Nat → Bool} {K : List Nat} {k0 : Nat} (hk : k0 ≤ K.length) (hno : ∀ j (h : j < K.length), k0 ≤ j → p K[j] = false) : nextE p K k0 = K.length := by
  unfold nextE
  have : (K.drop k0).findIdx p = (K.drop k0).length := by
    rw [List.findIdx_eq_length]
    intro x hx
    obtain ⟨i, hi, rfl⟩ := List.getElem_of_mem hx
    rw [List.getElem_drop]
    simp at hi
    exact hno _ _ (by omega)
  rw [this, List.length_drop]; omega
theorem nextE_ge (p : Nat → Bool) (K : List Nat) (k : Nat) : k ≤ nextE p K k := by unfold nextE; omega
theorem nextE_le (p : Nat → Bool) {K : List Nat} {k : Nat} (h : k ≤ K.length) : nextE p K k ≤ K.length := by
  unfold nextE
  have := List.findIdx_le_length (p := p) (xs := K.drop k)
  rw [List.length_drop] at this; omega

def isEl (t : List Nd) (i : Nat) : Bool := decide ((t.getD i default).kind = 3)

/-- What the iterator over all children reads: its three captured variables, and the nodes. -/
structure ItAt (t : List Nd) (bl : Nat → Nat) (st : Nat → Dn) (p : Nat) (K : List Nat) (b1 b2 b3 : Nat) (w : World) : Prop where
  st_ : w.cell? ⟨b1, 0, none⟩ = some (.int .i64 0)
  par : w.cell? ⟨b2, 0, none⟩ = some (.pointer (some ⟨bl p, 0, none⟩))
  skip : w.cell? ⟨b3, 0, none⟩ = some (.pointer none)
  fst : w.cell? ⟨bl p, 1, none⟩ = some (ptrK bl K 0)
  nxt : ∀ k (h : k < K.length), w.cell? ⟨bl K[k], 4, none⟩ = some (ptrK bl K (k + 1))
  typ : ∀ k (h : k < K.length), ∃ y, w.cell? ⟨bl K[k], 5, none⟩ = some (.int .u32 y) ∧ (y == 3) = isEl t K[k]
  inj : ∀ i j (h1 : i < K.length) (h2 : j < K.length), bl K[i] = bl K[j] → i = j

def CurK (bl : Nat → Nat) (K : List Nat) (k : Nat) : Value := if k = 0 then .pointer none else ptrK bl K (k - 1)

set_option maxRecDepth 100000 in
set_option maxHeartbeats 4000000 in
theorem iter_any (t : List Nd) (bl : Nat → Nat) (st : Nat → Dn) (p : Nat) (K : List Nat) (b1 b2 b3 : Nat) (w : World) (h : ItAt t bl st p K b1 b2 b3 w) (k0 : Nat) (hk0 : k0 ≤ K.length) :
    Calls Try.prog 184 #[CurK bl K k0, .pointer (some ⟨b1, 0, none⟩), .pointer (some ⟨b2, 0, none⟩), .pointer (some ⟨b3, 0, none⟩)] w fun e w' => e = .returned (ptrK bl K (nextE (isEl t) K k0)) ∧ w = w' := by
  have c1 := h.st_
  have c2 := h.par
  have c3 := h.skip
  have c4 := h.fst
  have HI := Lib.hid h.inj
  have HN := Lib.hid h.nxt
  have HT := Lib.hid h.typ
  clear h
  obtain ⟨R, hR⟩ : ∃ R, R = ptrK bl K (nextE (isEl t) K k0) := ⟨_, rfl⟩
  have HR := Lib.hid hR
  rw [← hR]
  obtain ⟨C0, hC0⟩ : ∃ C0, C0 = CurK bl K k0 := ⟨_, rfl⟩
  have HC0 := Lib.hid hC0
  rw [← hC0]
  clear hR hC0
  go_enter Try.func184, Try.ntmps184
  go_wp2_with fail
  go_loopw [0] (fun x wr => ∃ k : Nat, k0 ≤ k ∧ k ≤ K.length ∧ x = CurK bl K k ∧ Hid (∀ j (h : j < K.length), k0 ≤ j → j < k → isEl t K[j] = false) ∧ w = wr) (fun x _ => leftOf bl K x)
  case atStart => exact ⟨k0, by omega, hk0, HC0.out, (fun j _ h1 h2 => by omega), rfl⟩
  case round =>
    obtain ⟨k, hk1, hk2, rfl, hno, rfl⟩ := hrel
    clear HC0
    have HM : Hid (leftOf bl K (CurK bl K k) = if k = 0 then K.length + 1 else K.length + 1 - k) := by
      unfold CurK Hid
      by_cases e : k = 0
      · rw [if_pos e, if_pos e, leftOf_nil]
      · rw [if_neg e, if_neg e, ptrK_at (by omega), leftOf_at (by omega) HI.out]; omega
    by_cases hlt : k < K.length
    · obtain ⟨y, gy, hy⟩ := HT.out k hlt
      have HPk := Lib.hid (ptrK_at (bl := bl) hlt)
      have HYe : Hid ((y == 3) = isEl t K[k]) := hy
      have HEnd : Hid ((y == 3) = true → ptrK bl K k = R) := by
        intro h3
        rw [HR.out, nextE_at hk1 hlt hno.out (by rw [← hy]; exact h3)]
      have HNext : Hid ((y == 3) = false → ∀ j (h : j < K.length), k0 ≤ j → j < k + 1 → isEl t K[j] = false) := by
        intro h3 j hj q1 q2
        by_cases e : j = k
        · subst e; rw [← hy]; exact h3
        · exact hno.out j hj q1 (by omega)
      have HM2 : Hid (leftOf bl K (.pointer (some ⟨bl K[k], 0, none⟩)) = K.length - k) := leftOf_at hlt HI.out
      have HCur : Hid (CurK bl K (k + 1) = .pointer (some ⟨bl K[k], 0, none⟩)) := by
        unfold CurK Hid
        rw [if_neg (by omega), Nat.add_sub_cancel, ptrK_at hlt]
      by_cases e0 : k = 0
      · subst e0
        have HC : Hid (CurK bl K 0 = .pointer none) := rfl
        rw [HPk.out] at c4 HEnd
        rw [HC.out] at HM ⊢
        obtain ⟨q, hq⟩ : ∃ q, q = K[0] := ⟨_, rfl⟩
        rw [← hq] at gy c4 HEnd HM2 HCur
        clear hq hy
        cases h3 : (y == 3)
        · have HNx := Lib.hid (HNext.out h3)
          have h3' : (y == 3) = false := h3
          clear HNext HEnd
          go_wp2_with fail
          go_roundw
          case rel => exact ⟨1, by omega, by omega, HCur.out.symm, HNx.out, by trivial⟩
          case measure => rw [HM2.out, HM.out]; simp
        · have HE := Lib.hid (HEnd.out h3)
          clear HNext HEnd
          go_wp2_with fail
          go_ret
          exact ⟨by rw [← HE.out]; rfl, rfl⟩
      · have hkm : k - 1 < K.length := by omega
        have gn := HN.out (k - 1) hkm
        rw [Nat.sub_add_cancel (by omega), HPk.out] at gn
        have HC : Hid (CurK bl K k = .pointer (some ⟨bl K[k - 1], 0, none⟩)) := by
          unfold CurK Hid
          rw [if_neg e0, ptrK_at hkm]
        rw [HC.out] at HM ⊢
        rw [HPk.out] at HEnd
        obtain ⟨r, hr⟩ : ∃ r, r = K[k - 1] := ⟨_, rfl⟩
        obtain ⟨q, hq⟩ : ∃ q, q = K[k] := ⟨_, rfl⟩
        rw [← hr] at gn HM HC ⊢
        rw [← hq] at gy gn HEnd HM2 HCur
        have HE0 := Lib.hid e0
        clear hq hy hr e0 c4
        cases h3 : (y == 3)
        · have HNx := Lib.hid (HNext.out h3)
          have h3' : (y == 3) = false := h3
          clear HNext HEnd
          go_wp2_with fail
          go_roundw
          case rel => exact ⟨k + 1, by omega, by omega, HCur.out.symm, HNx.out, by trivial⟩
          case measure => rw [HM2.out, HM.out, if_neg HE0.out]; omega
        · have HE := Lib.hid (HEnd.out h3)
          clear HNext HEnd
          go_wp2_with fail
          go_ret
          exact ⟨by rw [← HE.out]; rfl, rfl⟩
    · have hkl : k = K.length := by omega
      have HE : Hid (R = .pointer none) := by
        rw [Hid, HR.out, nextE_end hk0 (fun j h q => hno.out j h q (by omega)), ptrK_end (Nat.le_refl _)]
      by_cases e0 : k = 0
      · have HC : Hid (CurK bl K k = .pointer none) := by rw [e0]; rfl
        have hc4 : ptrK bl K 0 = .pointer none := ptrK_end (by omega)
        rw [hc4] at c4
        rw [HC.out]
        clear hkl e0 hc4 HM
        go_wp2_with fail
        go_ret
        exact ⟨by rw [HE.out]; rfl, rfl⟩
      · have hkm : k - 1 < K.length := by omega
        have gn := HN.out (k - 1) hkm
        rw [Nat.sub_add_cancel (by omega), ptrK_end (by omega)] at gn
        have HC : Hid (CurK bl K k = .pointer (some ⟨bl K[k - 1], 0, none⟩)) := by
          unfold CurK Hid
          rw [if_neg e0, ptrK_at hkm]
        rw [HC.out]
        obtain ⟨r, hr⟩ : ∃ r, r = K[k - 1] := ⟨_, rfl⟩
        rw [← hr] at gn ⊢
        clear hkl e0 hr HM c4
        go_wp2_with fail
        go_ret
        exact ⟨by rw [HE.out]; rfl, rfl⟩
end Go.Proofs.Ytgilbckfkngaiaa
