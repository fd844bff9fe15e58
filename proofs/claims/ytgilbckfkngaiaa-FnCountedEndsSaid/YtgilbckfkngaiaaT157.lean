/- Elements with one parent, as nodes: what 'brother' grows. (No program in sight.) -/
import Derived.Test.YtgilbckfkngaiaaT14
import Derived.Test.YtgilbckfkngaiaaT73
namespace Go.Proofs.Ytgilbckfkngaiaa
set_option linter.unusedVariables false

/-- The parent and its elements, as a tree. -/
def broT (N : List ByteArray) : List Nd := ⟨3, ⟨#[]⟩, ⟨#[]⟩, none, 0, [], N.length + 1⟩ :: N.map fun s => ⟨3, s, ⟨#[]⟩, none, 0, [], 1⟩
theorem broT_kid {N : List ByteArray} {j : Nat} (hj : j < N.length) : (broT N).getD (j + 1) default = ⟨3, N[j], ⟨#[]⟩, none, 0, [], 1⟩ := by
  unfold broT
  rw [List.getD_cons_succ, List.getD_eq_getElem?_getD, List.getElem?_map, List.getElem?_eq_getElem hj]
  rfl
theorem broT_sz {N : List ByteArray} {j : Nat} (h0 : 0 < j) (hj : j ≤ N.length) : sz (broT N) j = 1 := by
  obtain ⟨i, rfl⟩ : ∃ i, j = i + 1 := ⟨j - 1, by omega⟩
  unfold sz
  rw [broT_kid (by omega)]
  rfl
theorem broT_lam (N : List ByteArray) : ∀ k, k ≤ N.length + 1 → Lam (broT N) 1 k := by
  intro k hk i hi hik
  obtain ⟨j, rfl⟩ : ∃ j, i = j + 1 := ⟨i - 1, by omega⟩
  have h1 := broT_sz (N := N) (j := j + 1) (by omega) (by omega)
  refine ⟨?_, by omega, by omega, fun m h2 h3 => by omega⟩
  rw [broT_kid (by omega), h1]
  rfl

/-- The kin of one of some elements with one parent. -/
structure Bro (N : List ByteArray) (st : Nat → Dn) : Prop where
  fst : (st 0).fst = some 1
  lst : (st 0).lst = some N.length
  kid : ∀ j (h : j < N.length), (st (j + 1)).par = some 0 ∧ (st (j + 1)).nxt = (if j + 1 < N.length then some (j + 2) else none) ∧ (st (j + 1)).prv = (if j = 0 then none else some j) ∧ (st (j + 1)).typ = 3 ∧ (st (j + 1)).dat = N[j]

theorem bro_isPar {N : List ByteArray} {p i : Nat} (h0 : i ≠ 0) (hi : i ≤ N.length) (h : IsPar (extK (broT N) 0 (N.length + 1)) 0 p i) : p = 0 := by
  obtain ⟨h1, h2, h3, _⟩ := h
  by_cases e : p = 0
  · exact e
  · rw [extK_ne _ _ _ _ e, broT_sz (by omega) (by omega)] at h3
    omega

theorem bro_kin {N : List ByteArray} {st : Nat → Dn} (h0 : 0 < N.length) (h : Kin (broT N) 0 (N.length + 1) st) : Bro N st := by
  have hr := (h 0 (by omega) (by omega)).1
  have e0 : extK (broT N) 0 (N.length + 1) 0 = N.length + 1 := by rw [extK_root]; omega
  have ek : ∀ j, 0 < j → j ≤ N.length → extK (broT N) 0 (N.length + 1) j = 1 := fun j h1 h2 => by rw [extK_ne _ _ _ _ (by omega)]; exact broT_sz h1 h2
  refine ⟨by rw [hr.fst, e0, if_pos (by omega)], ?_, fun j hj => ?_⟩
  · obtain ⟨k, k1, k2, k3⟩ := hr.lst1 (by rw [e0]; omega)
    have hk : k ≠ 0 := by have := k2.2.1; omega
    have hkn : k < 0 + (N.length + 1) := by have := k2.2.2.1; rwa [e0] at this
    rw [ek k (by omega) (by omega), e0] at k3
    rw [k1]
    congr 1
    omega
  · obtain ⟨hn, hs⟩ := h (j + 1) (by omega) (by omega)
    obtain ⟨p, p1, p2, p3, p4, p5⟩ := hn.kin (by omega)
    obtain rfl := bro_isPar (by omega) (by omega) p1
    rw [e0, ek (j + 1) (by omega) (by omega)] at p3
    refine ⟨p2, ?_, ?_, ?_, ?_⟩
    · rw [p3]
      by_cases e : j + 1 < N.length
      · rw [if_pos (by omega), if_pos e]
      · rw [if_neg (by omega), if_neg e]
    · by_cases e : j = 0
      · rw [if_pos e]; exact p4 (by omega)
      · rw [if_neg e]
        obtain ⟨q, q1, q2, q3⟩ := p5 (by omega)
        have hq0 : q ≠ 0 := by have := q2.2.1; omega
        have hqn : q < 0 + (N.length + 1) := by have := q2.2.2.1; rwa [e0] at this
        rw [ek q (by omega) (by omega)] at q3
        rw [q1]
        congr 1
        omega
    · rw [hs.typ, broT_kid hj]; rfl
    · rw [hs.dat, broT_kid hj]; rfl

theorem bro_step {N : List ByteArray} {k : Nat} {st st2 : Nat → Dn} (hk : 0 < k) (hkn : k ≤ N.length) (hA : Kin (broT N) 0 k st) (hB : Kin (broT N) k (k + 1) st2) : Kin (broT N) 0 (k + 1) (appSt (joinF k st st2) 0 k) := by
  have hs := broT_sz (N := N) hk hkn
  have := kin_step (t := broT N) (a := 0) (k := k) (st := st) (st2 := st2) hk (broT_lam N k (by omega)) (by omega) hA (by rw [hs]; exact hB)
  rwa [hs] at this
end Go.Proofs.Ytgilbckfkngaiaa
