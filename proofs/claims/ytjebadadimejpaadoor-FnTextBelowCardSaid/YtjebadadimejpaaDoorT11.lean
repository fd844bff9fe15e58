/- The kin of the nodes of a tree: what is so while it grows. -/
import Derived.Test.YtjebadadimejpaaDoorT9
namespace Go.Proofs.YtjebadadimejpaaDoor
open Go.RowKit
set_option linter.unusedVariables false

/-- p is the node right above i. -/
def IsPar (ext : Nat → Nat) (a p i : Nat) : Prop := a ≤ p ∧ p < i ∧ i < p + ext p ∧ ∀ m, p < m → m < i → m + ext m ≤ i

theorem IsPar.uniq {ext : Nat → Nat} {a p q i : Nat} (h : IsPar ext a p i) (k : IsPar ext a q i) : p = q := by
  obtain ⟨h1, h2, h3, h4⟩ := h
  obtain ⟨k1, k2, k3, k4⟩ := k
  rcases Nat.lt_trichotomy p q with e | e | e
  · have := h4 q e k2; omega
  · exact e
  · have := k4 p e h2; omega

structure NodeOk (ext : Nat → Nat) (a i : Nat) (d : Dn) : Prop where
  fst : d.fst = if 1 < ext i then some (i + 1) else none
  lst0 : ¬ 1 < ext i → d.lst = none
  lst1 : 1 < ext i → ∃ k, d.lst = some k ∧ IsPar ext a i k ∧ k + ext k = i + ext i
  root : i = a → d.par = none ∧ d.prv = none ∧ d.nxt = none
  kin : i ≠ a → ∃ p, IsPar ext a p i ∧ d.par = some p ∧ d.nxt = (if i + ext i < p + ext p then some (i + ext i) else none) ∧ (i = p + 1 → d.prv = none) ∧
    (i ≠ p + 1 → ∃ q, d.prv = some q ∧ IsPar ext a p q ∧ q + ext q = i)

/-- What a node itself holds. -/
structure SelfOk (x : Nd) (d : Dn) : Prop where
  typ : d.typ = typOf x.kind
  dat : d.dat = datOf x
  ats : d.ats = atsOf x

/-- The sizes, the root's cut short. -/
def extK (t : List Nd) (a k : Nat) (i : Nat) : Nat := if i = a then k - a else sz t i
theorem extK_root (t : List Nd) (a k : Nat) : extK t a k a = k - a := by simp [extK]
theorem extK_ne (t : List Nd) (a k i : Nat) (h : i ≠ a) : extK t a k i = sz t i := by simp [extK, h]

def Kin (t : List Nd) (a k : Nat) (st : Nat → Dn) : Prop := ∀ i, a ≤ i → i < k → NodeOk (extK t a k) a i (st i) ∧ SelfOk (t.getD i default) (st i)

def joinF {α : Type} (k : Nat) (f g : Nat → α) : Nat → α := fun i => if i < k then f i else g i
theorem joinF_lo {α : Type} {k : Nat} {f g : Nat → α} {i : Nat} (h : i < k) : joinF k f g i = f i := by simp [joinF, h]
theorem joinF_hi {α : Type} {k : Nat} {f g : Nat → α} {i : Nat} (h : k ≤ i) : joinF k f g i = g i := by simp [joinF]; omega

theorem isPar_low {t : List Nd} {a k k' p i : Nat} (hk : k ≤ k') (hik : i < k) (h : IsPar (extK t a k) a p i) : IsPar (extK t a k') a p i := by
  obtain ⟨h1, h2, h3, h4⟩ := h
  refine ⟨h1, h2, ?_, fun m hm1 hm2 => ?_⟩
  · by_cases e : p = a
    · subst e; rw [extK_root]; omega
    · rw [extK_ne _ _ _ _ e] at h3 ⊢; exact h3
  · have := h4 m hm1 hm2
    rw [extK_ne _ _ _ _ (by omega)] at this ⊢
    exact this

theorem ext_high {t : List Nd} {a k j : Nat} (hak : a < k) (hj : k ≤ j) : extK t a (k + sz t k) j = extK t k (k + sz t k) j := by
  rw [extK_ne _ _ _ _ (by omega)]
  by_cases e : j = k
  · subst e; rw [extK_root]; omega
  · rw [extK_ne _ _ _ _ e]

theorem isPar_high {t : List Nd} {a k p i : Nat} (hak : a < k) (h : IsPar (extK t k (k + sz t k)) k p i) : IsPar (extK t a (k + sz t k)) a p i := by
  obtain ⟨h1, h2, h3, h4⟩ := h
  refine ⟨by omega, h2, ?_, fun m hm1 hm2 => ?_⟩
  · rw [ext_high hak h1]; exact h3
  · have := h4 m hm1 hm2
    rw [ext_high hak (by omega)]; exact this

theorem isPar_new {t : List Nd} {a k : Nat} (hak : a < k) (hl : Lam t (a + 1) k) (h1 : 1 ≤ sz t k) : IsPar (extK t a (k + sz t k)) a a k := by
  refine ⟨Nat.le_refl _, hak, by rw [extK_root]; omega, fun m hm1 hm2 => ?_⟩
  rw [extK_ne _ _ _ _ (by omega)]
  exact (hl m (by omega) hm2).2.2.1

theorem kin_one (t : List Nd) (a : Nat) (d : Dn) (hs : SelfOk (t.getD a default) d) (h1 : d.par = none) (h2 : d.fst = none) (h3 : d.lst = none) (h4 : d.prv = none) (h5 : d.nxt = none) : Kin t a (a + 1) (fun _ => d) := by
  intro i hi1 hi2
  obtain rfl : i = a := by omega
  refine ⟨⟨?_, fun _ => h3, fun h => ?_, fun _ => ⟨h1, h4, h5⟩, fun h => absurd rfl h⟩, hs⟩
  · rw [extK_root, h2, if_neg (by omega)]
  · rw [extK_root] at h; omega

theorem kin_step {t : List Nd} {a k : Nat} {st st2 : Nat → Dn} (hak : a < k) (hl : Lam t (a + 1) k) (h1 : 1 ≤ sz t k) (hA : Kin t a k st) (hB : Kin t k (k + sz t k) st2) :
    Kin t a (k + sz t k) (appSt (joinF k st st2) a k) := by
  have hka := hA a (Nat.le_refl _) hak
  have hkk := hB k (Nat.le_refl _) (by omega)
  have hja : joinF k st st2 a = st a := joinF_lo hak
  have hjk : joinF k st st2 k = st2 k := joinF_hi (Nat.le_refl _)
  obtain ⟨r1, r2, r3⟩ := hkk.1.root rfl
  -- the nodes beneath k, as they are
  have high : ∀ i, k ≤ i → i < k + sz t k → ∀ d : Dn, d.fst = (st2 i).fst → d.lst = (st2 i).lst →
      d.fst = (if 1 < extK t a (k + sz t k) i then some (i + 1) else none) ∧ (¬ 1 < extK t a (k + sz t k) i → d.lst = none) ∧
      (1 < extK t a (k + sz t k) i → ∃ m, d.lst = some m ∧ IsPar (extK t a (k + sz t k)) a i m ∧ m + extK t a (k + sz t k) m = i + extK t a (k + sz t k) i) := by
    intro i hi1 hi2 d e1 e2
    have hn := (hB i hi1 hi2).1
    rw [ext_high hak hi1, e1, e2]
    refine ⟨hn.fst, hn.lst0, fun hx => ?_⟩
    obtain ⟨m, m1, m2, m3⟩ := hn.lst1 hx
    refine ⟨m, m1, isPar_high hak m2, ?_⟩
    rw [ext_high hak (by have := m2.2.1; omega)]
    exact m3
  have low : ∀ i, a < i → i < k → ∀ d : Dn, d.fst = (st i).fst → d.lst = (st i).lst →
      d.fst = (if 1 < extK t a (k + sz t k) i then some (i + 1) else none) ∧ (¬ 1 < extK t a (k + sz t k) i → d.lst = none) ∧
      (1 < extK t a (k + sz t k) i → ∃ m, d.lst = some m ∧ IsPar (extK t a (k + sz t k)) a i m ∧ m + extK t a (k + sz t k) m = i + extK t a (k + sz t k) i) := by
    intro i hi1 hi2 d e1 e2
    have hn := (hA i (by omega) hi2).1
    have ei : extK t a (k + sz t k) i = extK t a k i := by rw [extK_ne _ _ _ _ (by omega), extK_ne _ _ _ _ (by omega)]
    rw [ei, e1, e2]
    refine ⟨hn.fst, hn.lst0, fun hx => ?_⟩
    obtain ⟨m, m1, m2, m3⟩ := hn.lst1 hx
    have hm : m < k := by
      have := (hl i (by omega) hi2).2.2.1
      have h3 := m2.2.2.1
      rw [extK_ne _ _ _ _ (by omega)] at h3
      omega
    refine ⟨m, m1, isPar_low (by omega) hm m2, ?_⟩
    have em : extK t a (k + sz t k) m = extK t a k m := by have := m2.2.1; rw [extK_ne _ _ _ _ (by omega), extK_ne _ _ _ _ (by omega)]
    rw [em]
    exact m3
  -- what is kept of the kin of a node between a and k whose next one does not turn
  have lowkin : ∀ i, a < i → i < k → ∀ p, IsPar (extK t a k) a p i → p ≠ a ∨ i + sz t i < k → (st i).nxt = (if i + extK t a k i < p + extK t a k p then some (i + extK t a k i) else none) →
      (st i).nxt = (if i + extK t a (k + sz t k) i < p + extK t a (k + sz t k) p then some (i + extK t a (k + sz t k) i) else none) := by
    intro i hi1 hi2 p hp hor hnx
    rw [extK_ne _ _ _ _ (show i ≠ a by omega)] at hnx ⊢
    rw [hnx]
    by_cases e : p = a
    · subst e
      rcases hor with h | h
      · exact absurd rfl h
      · rw [extK_root, extK_root, if_pos (by omega), if_pos (by omega)]
    · rw [extK_ne _ _ _ _ e, extK_ne _ _ _ _ e]
  have lowprv : ∀ i p, i < k → (∃ q, (st i).prv = some q ∧ IsPar (extK t a k) a p q ∧ q + extK t a k q = i) → ∃ q, (st i).prv = some q ∧ IsPar (extK t a (k + sz t k)) a p q ∧ q + extK t a (k + sz t k) q = i := by
    rintro i p hi ⟨q, q1, q2, q3⟩
    have hqa : q ≠ a := by have := q2.1; have := q2.2.1; omega
    rw [extK_ne _ _ _ _ hqa] at q3
    refine ⟨q, q1, isPar_low (by omega) (by omega) q2, by rw [extK_ne _ _ _ _ hqa]; exact q3⟩
  have highkin : ∀ i, k < i → i < k + sz t k → ∃ p, IsPar (extK t a (k + sz t k)) a p i ∧ (st2 i).par = some p ∧ (st2 i).nxt = (if i + extK t a (k + sz t k) i < p + extK t a (k + sz t k) p then some (i + extK t a (k + sz t k) i) else none) ∧
      (i = p + 1 → (st2 i).prv = none) ∧ (i ≠ p + 1 → ∃ q, (st2 i).prv = some q ∧ IsPar (extK t a (k + sz t k)) a p q ∧ q + extK t a (k + sz t k) q = i) := by
    intro i hi1 hi2
    obtain ⟨p, p1, p2, p3, p4, p5⟩ := (hB i (by omega) hi2).1.kin (by omega)
    refine ⟨p, isPar_high hak p1, p2, ?_, p4, fun h => ?_⟩
    · rw [ext_high hak (by omega), ext_high hak p1.1]; exact p3
    · obtain ⟨q, q1, q2, q3⟩ := p5 h
      refine ⟨q, q1, isPar_high hak q2, ?_⟩
      rw [ext_high hak (by have := q2.1; have := q2.2.1; omega)]; exact q3
  by_cases ek : k = a + 1
  · have hlst : (st a).lst = none := hka.1.lst0 (by rw [extK_root]; omega)
    intro i hi1 hi2
    unfold appSt
    rw [hja, hlst]
    dsimp only
    by_cases e1 : i = k
    · subst e1
      rw [upd_same, upd_same, upd_other _ _ _ _ (by omega), upd_other _ _ _ _ (by omega), hjk]
      obtain ⟨f1, f2, f3⟩ := high i (Nat.le_refl _) (by omega) (((st2 i).set 0 (some a)).set 3 none) rfl rfl
      refine ⟨⟨f1, f2, f3, fun e => absurd e (by omega), fun _ => ⟨a, isPar_new hak hl h1, rfl, ?_, fun _ => rfl, fun h => absurd ek h⟩⟩, hkk.2.typ, hkk.2.dat, hkk.2.ats⟩
      show (st2 i).nxt = _
      rw [r3, extK_root, extK_ne _ _ _ _ (by omega), if_neg (by omega)]
    · rw [upd_other _ _ _ _ e1, upd_other _ _ _ _ e1]
      by_cases e2 : i = a
      · subst e2
        rw [upd_same, upd_same]
        refine ⟨⟨?_, fun h => absurd (by rw [extK_root]; omega) h, fun _ => ⟨k, rfl, isPar_new hak hl h1, ?_⟩, fun _ => hka.1.root rfl, fun h => absurd rfl h⟩, hka.2.typ, hka.2.dat, hka.2.ats⟩
        · show some k = _
          rw [extK_root, if_pos (by omega), ek]
        · rw [extK_root, extK_ne _ _ _ _ (by omega)]; omega
      · rw [upd_other _ _ _ _ e2, upd_other _ _ _ _ e2, joinF_hi (by omega)]
        obtain ⟨f1, f2, f3⟩ := high i (by omega) hi2 (st2 i) rfl rfl
        exact ⟨⟨f1, f2, f3, fun e => absurd e e2, fun _ => highkin i (by omega) hi2⟩, (hB i (by omega) hi2).2⟩
  · obtain ⟨q, q1, q2, q3⟩ := hka.1.lst1 (by rw [extK_root]; omega)
    have hqa : a < q := q2.2.1
    have hqs : q + sz t q = k := by rw [extK_root, extK_ne _ _ _ _ (by omega)] at q3; omega
    have hqk : q < k := by have := q2.2.2.1; rw [extK_root] at this; omega
    have hjq : joinF k st st2 q = st q := joinF_lo hqk
    have hfst : (st a).fst = some (a + 1) := by rw [hka.1.fst, extK_root, if_pos (by omega)]
    intro i hi1 hi2
    unfold appSt
    rw [hja, q1]
    dsimp only
    by_cases e1 : i = k
    · subst e1
      rw [upd_same, upd_same, upd_other _ _ _ _ (by omega), upd_other _ _ _ _ (by omega), hjk]
      obtain ⟨f1, f2, f3⟩ := high i (Nat.le_refl _) (by omega) (((st2 i).set 0 (some a)).set 3 (some q)) rfl rfl
      refine ⟨⟨f1, f2, f3, fun e => absurd e (by omega), fun _ => ⟨a, isPar_new hak hl h1, rfl, ?_, fun h => absurd h ek, fun _ => ⟨q, rfl, isPar_low (by omega) hqk q2, ?_⟩⟩⟩, hkk.2.typ, hkk.2.dat, hkk.2.ats⟩
      · show (st2 i).nxt = _
        rw [r3, extK_root, extK_ne _ _ _ _ (by omega), if_neg (by omega)]
      · rw [extK_ne _ _ _ _ (by omega)]; exact hqs
    · rw [upd_other _ _ _ _ e1, upd_other _ _ _ _ e1]
      by_cases e2 : i = a
      · subst e2
        rw [upd_same, upd_other _ _ _ _ (by omega), hja]
        refine ⟨⟨?_, fun h => absurd (by rw [extK_root]; omega) h, fun _ => ⟨k, rfl, isPar_new hak hl h1, ?_⟩, fun _ => hka.1.root rfl, fun h => absurd rfl h⟩, hka.2.typ, hka.2.dat, hka.2.ats⟩
        · show (st i).fst = _
          rw [hfst, extK_root, if_pos (by omega)]
        · rw [extK_root, extK_ne _ _ _ _ (by omega)]; omega
      · rw [upd_other _ _ _ _ e2]
        by_cases e3 : i = q
        · subst e3
          rw [upd_same, hjq]
          obtain ⟨f1, f2, f3⟩ := low i hqa hqk ((st i).set 4 (some k)) rfl rfl
          obtain ⟨p, p1, p2, p3, p4, p5⟩ := (hA i (by omega) hqk).1.kin (by omega)
          obtain rfl : p = a := p1.uniq q2
          refine ⟨⟨f1, f2, f3, fun e => absurd e e2, fun _ => ⟨p, isPar_low (by omega) hqk p1, p2, ?_, p4, fun h => lowprv i p hqk (p5 h)⟩⟩, (hA i (by omega) hqk).2.typ, (hA i (by omega) hqk).2.dat, (hA i (by omega) hqk).2.ats⟩
          show some k = _
          rw [extK_root, extK_ne _ _ _ _ e2, if_pos (by omega), hqs]
        · rw [upd_other _ _ _ _ e3]
          by_cases e4 : i < k
          · rw [joinF_lo e4]
            obtain ⟨f1, f2, f3⟩ := low i (by omega) e4 (st i) rfl rfl
            obtain ⟨p, p1, p2, p3, p4, p5⟩ := (hA i (by omega) e4).1.kin e2
            refine ⟨⟨f1, f2, f3, fun e => absurd e e2, fun _ => ⟨p, isPar_low (by omega) e4 p1, p2, lowkin i (by omega) e4 p p1 ?_ p3, p4, fun h => lowprv i p e4 (p5 h)⟩⟩, (hA i (by omega) e4).2⟩
            by_cases e5 : p = a
            · right
              have hle := (hl i (by omega) e4).2.2.1
              rcases Nat.lt_or_ge (i + sz t i) k with h | h
              · exact h
              · exfalso
                subst e5
                rcases Nat.lt_trichotomy i q with h6 | h6 | h6
                · have := q2.2.2.2 i (by omega) h6
                  rw [extK_ne _ _ _ _ (by omega)] at this
                  omega
                · exact e3 h6
                · have := p1.2.2.2 q hqa h6
                  rw [extK_ne _ _ _ _ (by omega)] at this
                  omega
            · exact .inl e5
          · rw [joinF_hi (by omega)]
            obtain ⟨f1, f2, f3⟩ := high i (by omega) hi2 (st2 i) rfl rfl
            exact ⟨⟨f1, f2, f3, fun e => absurd e e2, fun _ => highkin i (by omega) hi2⟩, (hB i (by omega) hi2).2⟩
end Go.Proofs.YtjebadadimejpaaDoor
