/- The forest of a right tree. (No program in sight.) -/
import Derived.Test.YtmhhfljbocbolaaT201
import Derived.Test.YtmhhfljbocbolaaT72
namespace Go.Proofs.Ytmhhfljbocbolaa
open Go.RowKit
set_option linter.unusedVariables false

def fo0 (t : List Nd) : Fo := ⟨fun i => if i < t.length then parJ t i i else none, fun i => if i < t.length then kidsL t i else []⟩

theorem fo0_kids {t : List Nd} {i : Nat} (h : i < t.length) : (fo0 t).kids i = kidsL t i := by show (if i < t.length then _ else _) = _; rw [if_pos h]
theorem fo0_par {t : List Nd} {i : Nat} (h : i < t.length) : (fo0 t).par i = parJ t i i := by show (if i < t.length then _ else _) = _; rw [if_pos h]

theorem lam_kids {t : List Nd} (hR : RightP t) {p : Nat} (hp : p < t.length) : Lam t (p + 1) (p + sz t p) := by
  have hlam := hR.lam p (Nat.zero_le _) hp
  intro i q1 q2
  have q3 := hR.lam i (Nat.zero_le _) (by omega)
  exact ⟨q3.1, q3.2.1, hlam.2.2.2 i (by omega) q2, q3.2.2.2⟩

theorem kid_par {t : List Nd} (hR : RightP t) {p c : Nat} (hp : p < t.length) (h : c ∈ kidsL t p) : parJ t c c = some p := by
  have hlam := hR.lam p (Nat.zero_le _) hp
  have h1 := hlam.2.1
  obtain ⟨s1, s2, s3⟩ := kidsFrom_spec t p (sz t p) (p + 1) (by omega) (by omega) (by omega) (fun m q1 q2 => by omega) (lam_kids hR hp)
  obtain ⟨k, hk, rfl⟩ := List.getElem_of_mem h
  exact isPar_parJ (s3 k hk).1

theorem fo0_ok {t : List Nd} (hR : RightP t) : (fo0 t).Ok (fun i => i < t.length) (sz t) := by
  have par_of : ∀ c p, (fo0 t).par c = some p → c < t.length ∧ parJ t c c = some p := by
    intro c p h
    change (if c < t.length then parJ t c c else none) = some p at h
    by_cases e : c < t.length
    · rw [if_pos e] at h; exact ⟨e, h⟩
    · rw [if_neg e] at h; cases h
  refine ⟨fun p => ?_, fun p c => ?_, fun p c h => ?_, fun p c h => ?_⟩
  · show (if p < t.length then kidsL t p else []).Nodup
    by_cases e : p < t.length
    · rw [if_pos e]; exact (kids_facts hR p e).2.1
    · rw [if_neg e]; exact List.nodup_nil
  · constructor
    · intro h
      change c ∈ (if p < t.length then kidsL t p else []) at h
      by_cases e : p < t.length
      · rw [if_pos e] at h
        rw [fo0_par ((kids_facts hR p e).2.2 c h)]
        exact kid_par hR e h
      · rw [if_neg e] at h; cases h
    · intro h
      obtain ⟨h1, h2⟩ := par_of c p h
      have h3 := (parJ_spec h2).1
      rw [fo0_kids (by omega)]
      exact kid_mem hR (by omega) (parJ_isPar h2)
  · obtain ⟨h1, h2⟩ := par_of c p h
    have h3 := (parJ_spec h2).1
    exact ⟨by show p < t.length; omega, h1⟩
  · obtain ⟨h1, h2⟩ := par_of c p h
    obtain ⟨h3, h4, _⟩ := parJ_spec h2
    have := (hR.lam p (Nat.zero_le _) (by omega)).2.2.2 c h3 h4
    omega

theorem fo0_fit {t : List Nd} (hR : RightP t) {st : Nat → Dn} (hk : ∀ i (h : i < t.length), NodeOk (sz t) 0 i (st i) ∧ SelfOk t[i] (st i)) (i : Nat) (hi : i < t.length) : FitD (fo0 t) i (st i) := by
  have hn := (hk i hi).1
  have hK := kids_at hR hk hi
  have hpar : (st i).par = parJ t i i := by
    by_cases e : i = 0
    · subst e; rw [(hn.root rfl).1, parJ_zero]
    · obtain ⟨p, p1, p2, _⟩ := hn.kin e
      rw [p2, isPar_parJ p1]
  refine ⟨by rw [fo0_par hi]; exact hpar, ?_, ?_, fun h => ?_, fun p h => ?_⟩
  · rw [fo0_kids hi, hK.fst, List.head?_eq_getElem?]
  · rw [fo0_kids hi]
    have hlam := hR.lam i (Nat.zero_le _) hi
    have h1 := hlam.2.1
    obtain ⟨s1, s2, s3⟩ := kidsFrom_spec t i (sz t i) (i + 1) (by omega) (by omega) (by omega) (fun m q1 q2 => by omega) (lam_kids hR hi)
    have e : kidsL t i = kidsFrom t (sz t i) (i + 1) (i + sz t i) := rfl
    rw [← e] at s1 s2 s3
    by_cases c : 1 < sz t i
    · obtain ⟨k, q1, q2, q3⟩ := hn.lst1 c
      obtain ⟨m, hm, he⟩ := List.getElem_of_mem (kid_mem hR hi q2)
      have h4 := (s3 m hm).2.1
      rw [he] at h4
      have hlast : m + 1 = (kidsL t i).length := by
        have : ¬ (m + 1 < (kidsL t i).length) := fun q => by have := h4.2 q; omega
        omega
      rw [q1, List.getLast?_eq_getElem?, ← hlast, Nat.add_sub_cancel, List.getElem?_eq_getElem hm, he]
    · have hl : kidsL t i = [] := List.eq_nil_of_length_eq_zero (s1.2 (by omega))
      rw [hn.lst0 c, hl]; rfl
  · rw [fo0_par hi] at h
    by_cases e : i = 0
    · exact (hn.root e).2
    · obtain ⟨p, p1, _⟩ := hn.kin e
      rw [isPar_parJ p1] at h; cases h
  · rw [fo0_par hi] at h
    have hpi := (parJ_spec h).1
    have hp : p < t.length := by omega
    have hKp := kids_at hR hk hp
    obtain ⟨k, hk1, he⟩ := List.getElem_of_mem (kid_mem hR hp (parJ_isPar h))
    have hnd := (kids_facts hR p hp).2.1
    have hs : kidsL t p = (kidsL t p).take k ++ i :: (kidsL t p).drop (k + 1) := by
      rw [← he, ← List.drop_eq_getElem_cons hk1, List.take_append_drop]
    rw [fo0_kids hp]
    rw [hs] at hnd
    obtain ⟨n1, n2, _⟩ := nodup_split hnd
    have h4 := hKp.nxt k hk1
    have h5 := hKp.prv k hk1
    rw [he] at h4 h5
    rw [h4, h5, hs, prevIn_split _ _ _ n2, nextIn_split _ _ _ n1, ← hs, List.head?_drop]
    refine ⟨?_, rfl⟩
    cases k with
    | zero => simp
    | succ k =>
      rw [if_neg (by omega), Nat.add_sub_cancel, List.getLast?_eq_getElem?, List.length_take, List.getElem?_take]
      have : min (k + 1) (kidsL t p).length - 1 = k := by omega
      rw [this, if_pos (by omega)]

/-- In a right tree the nodes are listed as they stand. -/
theorem fo0_all {t : List Nd} (hR : RightP t) : ∀ (d i : Nat), sz t i ≤ d → i < t.length → (fo0 t).all (sz t) i = List.range' i (sz t i) := by
  intro d
  induction d with
  | zero =>
    intro i h1 h2
    have := (hR.lam i (Nat.zero_le _) h2).2.1
    omega
  | succ d ih =>
    intro i h1 h2
    have hlam := hR.lam i (Nat.zero_le _) h2
    have hp := hlam.2.1
    have hle := hlam.2.2.1
    rw [Fo.all_eq (fo0_ok hR), fo0_kids h2]
    have key : ∀ f k, i < k → k ≤ i + sz t i → i + sz t i ≤ k + f → (kidsFrom t f k (i + sz t i)).flatMap ((fo0 t).all (sz t)) = List.range' k (i + sz t i - k) := by
      intro f
      induction f with
      | zero =>
        intro k _ h3 h4
        have : i + sz t i - k = 0 := by omega
        rw [this]; rfl
      | succ f ihf =>
        intro k h0 h3 h4
        simp only [kidsFrom]
        by_cases e : k < i + sz t i
        · have hlk := hR.lam k (Nat.zero_le _) (by omega)
          have hk1 := hlk.2.1
          have hk2 := hlam.2.2.2 k h0 e
          rw [if_pos e, List.flatMap_cons, ih k (by omega) (by omega), ihf (k + sz t k) (by omega) (by omega) (by omega)]
          have : i + sz t i - k = sz t k + (i + sz t i - (k + sz t k)) := by omega
          rw [this, List.range'_append_1]
        · have : i + sz t i - k = 0 := by omega
          rw [if_neg e, this]; rfl
    show i :: (kidsFrom t (sz t i) (i + 1) (i + sz t i)).flatMap _ = _
    rw [key (sz t i) (i + 1) (by omega) (by omega) (by omega)]
    have : sz t i = (i + sz t i - (i + 1)) + 1 := by omega
    conv => rhs; rw [this]
    rw [List.range'_succ]
end Go.Proofs.Ytmhhfljbocbolaa
