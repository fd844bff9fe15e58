/- The kids of a node and the texts beneath it: no program in sight (out of T48, T49, T50, T62; for a seat without selections); within (T15). -/
import Derived.Test.YtjebadadimejpaaDoorT14
namespace Go.Proofs.YtjebadadimejpaaDoor
open Go.RowKit
set_option linter.unusedVariables false

theorem kidsFrom_spec (t : List Nd) (p : Nat) : ∀ (f x : Nat), p + sz t p ≤ x + f → p < x → x ≤ p + sz t p → (∀ m, p < m → m < x → m + sz t m ≤ x) → Lam t x (p + sz t p) →
    ((kidsFrom t f x (p + sz t p)).length = 0 ↔ x = p + sz t p) ∧ (∀ h : 0 < (kidsFrom t f x (p + sz t p)).length, (kidsFrom t f x (p + sz t p))[0] = x) ∧
    ∀ k (h : k < (kidsFrom t f x (p + sz t p)).length), IsPar (sz t) 0 p (kidsFrom t f x (p + sz t p))[k] ∧
      ((kidsFrom t f x (p + sz t p))[k] + sz t (kidsFrom t f x (p + sz t p))[k] < p + sz t p ↔ k + 1 < (kidsFrom t f x (p + sz t p)).length) ∧
      ∀ h2 : k + 1 < (kidsFrom t f x (p + sz t p)).length, (kidsFrom t f x (p + sz t p))[k + 1] = (kidsFrom t f x (p + sz t p))[k] + sz t (kidsFrom t f x (p + sz t p))[k] := by
  intro f
  induction f with
  | zero =>
    intro x h1 h2 h3 _ _
    have e : kidsFrom t 0 x (p + sz t p) = [] := rfl
    simp only [e, List.length_nil]
    exact ⟨⟨fun _ => by omega, fun _ => by trivial⟩, fun h => absurd h (by omega), fun k h => absurd h (by omega)⟩
  | succ f ih =>
    intro x h1 h2 h3 hm hl
    by_cases hx : x < p + sz t p
    · have e : kidsFrom t (f + 1) x (p + sz t p) = x :: kidsFrom t f (x + sz t x) (p + sz t p) := by simp only [kidsFrom]; rw [if_pos hx]
      obtain ⟨l1, l2, l3, l4⟩ := hl x (Nat.le_refl _) hx
      have hm2 : ∀ m, p < m → m < x + sz t x → m + sz t m ≤ x + sz t x := by
        intro m q1 q2
        by_cases c : m < x
        · have := hm m q1 c; omega
        · by_cases c2 : m = x
          · subst c2; exact Nat.le_refl _
          · exact l4 m (by omega) q2
      obtain ⟨i1, i2, i3⟩ := ih (x + sz t x) (by omega) (by omega) l3 hm2 (hl.from_ (by omega))
      simp only [e, List.length_cons]
      refine ⟨⟨fun h => absurd h (by omega), fun h => absurd hx (by omega)⟩, fun _ => rfl, fun k h => ?_⟩
      cases k with
      | zero =>
        refine ⟨⟨Nat.zero_le _, h2, hx, hm⟩, ?_, fun h2 => ?_⟩
        · show x + sz t x < p + sz t p ↔ 0 + 1 < _ + 1
          constructor
          · intro q
            have : ¬ (kidsFrom t f (x + sz t x) (p + sz t p)).length = 0 := fun q2 => by have := i1.1 q2; omega
            omega
          · intro q
            have : ¬ x + sz t x = p + sz t p := fun q2 => by have := i1.2 q2; omega
            omega
        · show (kidsFrom t f (x + sz t x) (p + sz t p))[0]'(by omega) = _
          exact i2 (by omega)
      | succ k =>
        obtain ⟨j1, j2, j3⟩ := i3 k (by omega)
        refine ⟨j1, ?_, fun h2 => j3 (by omega)⟩
        show _ < _ ↔ k + 1 + 1 < _ + 1
        constructor
        · intro q; have := j2.1 q; omega
        · intro q; exact j2.2 (by omega)
    · have e : kidsFrom t (f + 1) x (p + sz t p) = [] := by simp only [kidsFrom]; rw [if_neg hx]
      simp only [e, List.length_nil]
      exact ⟨⟨fun _ => by omega, fun _ => by trivial⟩, fun h => absurd h (by omega), fun k h => absurd h (by omega)⟩

theorem typ_el {x : Nd} (h : 1 ≤ x.kind ∧ x.kind ≤ 5) : typOf x.kind = 3 ↔ x.kind = 3 := by
  unfold typOf
  split
  · omega
  · split
    · omega
    · split
      · omega
      · split <;> omega

theorem RightP.kindR {t : List Nd} (h : RightP t) (i : Nat) (hi : i < t.length) : 1 ≤ t[i].kind ∧ t[i].kind ≤ 5 := by
  rcases (h.node i hi).kinds with ⟨hk, _⟩ | ⟨hk, _⟩ | ⟨hk, _⟩ | ⟨hk, _⟩ <;> omega

/-- The nodes in memory, and their kin. -/
structure KidsAt (t : List Nd) (p : Nat) (st : Nat → Dn) (K : List Nat) : Prop where
  lt : ∀ k (h : k < K.length), K[k] < t.length
  fst : (st p).fst = K[0]?
  nxt : ∀ k (h : k < K.length), (st K[k]).nxt = K[k + 1]?
  prv : ∀ k (h : k < K.length), (st K[k]).prv = (if k = 0 then none else K[k - 1]?)
  typ : ∀ k (h : k < K.length), ((st K[k]).typ = 3 ↔ (t.getD K[k] default).kind = 3)
  inj : ∀ i j (h1 : i < K.length) (h2 : j < K.length), K[i] = K[j] → i = j

theorem kids_at {t : List Nd} (hR : RightP t) {st : Nat → Dn} (hk : ∀ i (h : i < t.length), NodeOk (sz t) 0 i (st i) ∧ SelfOk t[i] (st i)) {p : Nat} (hp : p < t.length) : KidsAt t p st (kidsL t p) := by
  have hlam := hR.lam p (Nat.zero_le _) hp
  have h1 := hlam.2.1
  have hL : Lam t (p + 1) (p + sz t p) := by
    intro i q1 q2
    have q3 := hR.lam i (Nat.zero_le _) (by omega)
    exact ⟨q3.1, q3.2.1, hlam.2.2.2 i (by omega) q2, q3.2.2.2⟩
  obtain ⟨s1, s2, s3⟩ := kidsFrom_spec t p (sz t p) (p + 1) (by omega) (by omega) (by omega) (fun m q1 q2 => by omega) hL
  have e : kidsL t p = kidsFrom t (sz t p) (p + 1) (p + sz t p) := rfl
  rw [← e] at s1 s2 s3
  have hlt : ∀ k (h : k < (kidsL t p).length), (kidsL t p)[k] < t.length := by
    intro k h
    have := (s3 k h).1.2.2.1
    omega
  have hasc : ∀ d k (h : k + d + 1 < (kidsL t p).length), (kidsL t p)[k]'(by omega) < (kidsL t p)[k + d + 1] := by
    intro d
    induction d with
    | zero =>
      intro k h
      have h2 := (s3 k (by omega)).2.2 (by omega)
      have h3 := (hR.lam _ (Nat.zero_le _) (hlt k (by omega))).2.1
      show (kidsL t p)[k] < (kidsL t p)[k + 1]
      omega
    | succ d ih =>
      intro k h
      have a1 := ih k (by omega)
      have h2 := (s3 (k + d + 1) (by omega)).2.2 (by omega)
      have h3 := (hR.lam _ (Nat.zero_le _) (hlt (k + d + 1) (by omega))).2.1
      show (kidsL t p)[k] < (kidsL t p)[k + d + 1 + 1]
      omega
  refine ⟨hlt, ?_, fun k h => ?_, fun k h => ?_, fun k h => ?_, fun i j q1 q2 q => ?_⟩
  · rw [(hk p hp).1.fst]
    by_cases c : 1 < sz t p
    · have hl : 0 < (kidsL t p).length := by
        have : ¬ (kidsL t p).length = 0 := fun q => by have := s1.1 q; omega
        omega
      rw [if_pos c, List.getElem?_eq_getElem hl, s2 hl]
    · have hl : (kidsL t p).length = 0 := s1.2 (by omega)
      rw [if_neg c, List.getElem?_eq_none (by omega)]
  · have hne : (kidsL t p)[k] ≠ 0 := by have := (s3 k h).1.2.1; omega
    obtain ⟨p', p1, _, p3, _, _⟩ := (hk _ (hlt k h)).1.kin hne
    obtain rfl : p' = p := p1.uniq (s3 k h).1
    rw [p3]
    by_cases c : k + 1 < (kidsL t p').length
    · rw [if_pos ((s3 k h).2.1.2 c), List.getElem?_eq_getElem c, (s3 k h).2.2 c]
    · rw [if_neg (fun q => c ((s3 k h).2.1.1 q)), List.getElem?_eq_none (by omega)]
  · have hne : (kidsL t p)[k] ≠ 0 := by have := (s3 k h).1.2.1; omega
    obtain ⟨p', p1, _, _, p4, p5⟩ := (hk _ (hlt k h)).1.kin hne
    obtain rfl : p' = p := p1.uniq (s3 k h).1
    cases k with
    | zero => rw [if_pos rfl]; exact p4 (s2 (by omega))
    | succ k =>
      have hk1 : (kidsL t p')[k + 1] ≠ p' + 1 := by
        have a1 := hasc k 0 (by omega)
        have a2 := s2 (by omega)
        simp only [Nat.zero_add] at a1
        omega
      obtain ⟨q, q1, q2, q3⟩ := p5 hk1
      rw [if_neg (by omega), q1, Nat.add_sub_cancel, List.getElem?_eq_getElem (by omega)]
      congr 1
      have b1 := (s3 k (by omega)).2.2 h
      have b2 := (s3 k (by omega)).1
      have b3 := (hR.lam _ (Nat.zero_le _) (hlt k (by omega))).2.1
      have b4 := b2.2.1
      have b5 : p' < q := q2.2.1
      have b6 : q + sz t q = (kidsL t p')[k] + sz t (kidsL t p')[k] := q3.trans b1
      have b7 : q < (kidsL t p')[k + 1] := by have := (hR.lam q (Nat.zero_le _) (by have := hlt (k + 1) h; omega)).2.1; omega
      rcases Nat.lt_trichotomy q (kidsL t p')[k] with c | c | c
      · have := b2.2.2.2 q b5 c
        omega
      · exact c
      · have := q2.2.2.2 _ b4 c
        omega
  · have hi := hlt k h
    rw [(hk _ hi).2.typ, getD_at hi]
    exact typ_el (hR.kindR _ hi)
  · rcases Nat.lt_trichotomy i j with c | c | c
    · have := hasc (j - i - 1) i (by omega)
      have e2 : i + (j - i - 1) + 1 = j := by omega
      simp only [e2] at this
      omega
    · exact c
    · have := hasc (i - j - 1) j (by omega)
      have e2 : j + (i - j - 1) + 1 = i := by omega
      simp only [e2] at this
      omega

def ptrBlk : Value → Option Nat
  | .pointer (some a) => some a.block
  | _ => none
/-- How many of a list are left behind the one that a pointer leads to. -/
def leftOf (bl : Nat → Nat) (K : List Nat) (v : Value) : Nat := match ptrBlk v with | none => K.length + 1 | some b => K.length - K.findIdx fun i => bl i == b
theorem leftOf_nil (bl : Nat → Nat) (K : List Nat) : leftOf bl K (.pointer none) = K.length + 1 := rfl
theorem leftOf_at {bl : Nat → Nat} {K : List Nat} {k : Nat} (h : k < K.length) (hinj : ∀ i j (h1 : i < K.length) (h2 : j < K.length), bl K[i] = bl K[j] → i = j) : leftOf bl K (.pointer (some ⟨bl K[k], 0, none⟩)) = K.length - k := by
  unfold leftOf ptrBlk
  dsimp only
  congr 1
  rw [List.findIdx_eq h]
  refine ⟨by simp, fun j hj => ?_⟩
  rw [beq_eq_false_iff_ne]
  intro e
  have := hinj j k (by omega) h e
  omega

/-- A pointer to the k-th of a list, or nil behind its end. -/
def ptrK (bl : Nat → Nat) (K : List Nat) (k : Nat) : Value := .pointer (K[k]?.map fun i => ⟨bl i, 0, none⟩)
theorem ptrK_at {bl : Nat → Nat} {K : List Nat} {k : Nat} (h : k < K.length) : ptrK bl K k = .pointer (some ⟨bl K[k], 0, none⟩) := by
  unfold ptrK; rw [List.getElem?_eq_getElem h]; rfl
theorem ptrK_end {bl : Nat → Nat} {K : List Nat} {k : Nat} (h : K.length ≤ k) : ptrK bl K k = .pointer none := by
  unfold ptrK; rw [List.getElem?_eq_none h]; rfl

/-- A measure for the walk over the elements. -/
def measE (bl : Nat → Nat) (K : List Nat) (v : Value) : Nat := match ptrBlk v with | none => 0 | some b => K.length - K.findIdx fun i => bl i == b
theorem measE_at {bl : Nat → Nat} {K : List Nat} (hinj : ∀ i j (h1 : i < K.length) (h2 : j < K.length), bl K[i] = bl K[j] → i = j) {k : Nat} (hk : k ≤ K.length) : measE bl K (ptrK bl K k) = K.length - k := by
  by_cases h : k < K.length
  · have := leftOf_at h hinj
    rw [ptrK_at h]
    exact this
  · rw [ptrK_end (by omega)]
    show 0 = _
    omega


/-- The bytes of a text node; of any other one none. -/
def ownT (t : List Nd) (i : Nat) : List UInt8 := if (t.getD i default).kind = 4 then (t.getD i default).text.data.toList else []
/-- The texts of the nodes from a place on. -/
def txtR (t : List Nd) (k n : Nat) : List UInt8 := (List.range' k n).flatMap (ownT t)
/-- The texts of a node and of all beneath it. -/
def txt (t : List Nd) (i : Nat) : List UInt8 := txtR t i (sz t i)

theorem txtR_zero (t : List Nd) (k : Nat) : txtR t k 0 = [] := rfl
theorem txtR_add (t : List Nd) (k m n : Nat) : txtR t k (m + n) = txtR t k m ++ txtR t (k + m) n := by
  unfold txtR
  rw [← List.range'_append_1, List.flatMap_append]
theorem txtR_succ (t : List Nd) (k n : Nat) : txtR t k (n + 1) = txtR t k n ++ ownT t (k + n) := by
  rw [txtR_add]; simp [txtR]
theorem txtR_cons (t : List Nd) (k n : Nat) : txtR t k (n + 1) = ownT t k ++ txtR t (k + 1) n := by
  rw [Nat.add_comm, txtR_add]; simp [txtR]

theorem txt_kidsFrom (t : List Nd) (e : Nat) : ∀ (f k : Nat), e ≤ k + f → k ≤ e → Lam t k e → (kidsFrom t f k e).flatMap (txt t) = txtR t k (e - k) := by
  intro f
  induction f with
  | zero =>
    intro k h1 h2 _
    rw [show e - k = 0 by omega]; rfl
  | succ f ih =>
    intro k h1 h2 hl
    simp only [kidsFrom]
    by_cases hk : k < e
    · have l := hl k (Nat.le_refl _) hk
      rw [if_pos hk, List.flatMap_cons, ih (k + sz t k) (by omega) l.2.2.1 (hl.from_ (by omega))]
      have : e - k = sz t k + (e - (k + sz t k)) := by omega
      rw [this, txtR_add]; rfl
    · rw [if_neg hk, show e - k = 0 by omega]; rfl

theorem RightP.lamK {t : List Nd} (hR : RightP t) {p : Nat} (hp : p < t.length) : Lam t (p + 1) (p + sz t p) ∧ 1 ≤ sz t p ∧ p + sz t p ≤ t.length := by
  have hlam := hR.lam p (Nat.zero_le _) hp
  refine ⟨fun i q1 q2 => ?_, hlam.2.1, hlam.2.2.1⟩
  have q3 := hR.lam i (Nat.zero_le _) (by have := hlam.2.2.1; omega)
  exact ⟨q3.1, q3.2.1, hlam.2.2.2 i (by omega) q2, q3.2.2.2⟩

/-- A node's texts are its own one, and those of its kids. -/
theorem txt_kids {t : List Nd} (hR : RightP t) {p : Nat} (hp : p < t.length) : txt t p = ownT t p ++ (kidsL t p).flatMap (txt t) := by
  obtain ⟨hl, h1, h2⟩ := hR.lamK hp
  have e : kidsL t p = kidsFrom t (sz t p) (p + 1) (p + sz t p) := rfl
  rw [e, txt_kidsFrom t (p + sz t p) (sz t p) (p + 1) (by omega) (by omega) hl]
  unfold txt
  obtain ⟨n, hn⟩ : ∃ n, sz t p = n + 1 := ⟨sz t p - 1, by omega⟩
  rw [hn, txtR_cons, show p + (n + 1) - (p + 1) = n by omega]

theorem kidsFrom_asc (t : List Nd) (e : Nat) : ∀ (f k : Nat), Lam t k e → (kidsFrom t f k e).Pairwise (· < ·) := by
  intro f
  induction f with
  | zero => intro k _; exact List.Pairwise.nil
  | succ f ih =>
    intro k hl
    simp only [kidsFrom]
    by_cases hk : k < e
    · have l := hl k (Nat.le_refl _) hk
      rw [if_pos hk]
      refine List.Pairwise.cons (fun x hx => ?_) (ih _ (hl.from_ (by omega)))
      have := (kidsFrom_lt t e f _ x hx).1
      omega
    · rw [if_neg hk]; exact List.Pairwise.nil
theorem kidsL_asc {t : List Nd} (hR : RightP t) {p : Nat} (hp : p < t.length) : (kidsL t p).Pairwise (· < ·) := kidsFrom_asc t _ _ _ (hR.lamK hp).1

theorem ownT_len {t : List Nd} (hR : RightP t) (i : Nat) : (ownT t i).length ≤ 4000 := by
  unfold ownT
  split
  · by_cases hi : i < t.length
    · rw [getD_at hi]
      exact hR.text i hi
    · have : t.getD i default = default := by rw [List.getD_eq_getElem?_getD, List.getElem?_eq_none (by omega)]; rfl
      rw [this]; exact Nat.zero_le _
  · exact Nat.zero_le _
theorem txtR_len {t : List Nd} (hR : RightP t) (k : Nat) : ∀ n, (txtR t k n).length ≤ 4000 * n := by
  intro n
  induction n with
  | zero => exact Nat.zero_le _
  | succ n ih =>
    rw [txtR_succ, List.length_append]
    have := ownT_len hR (k + n)
    omega
theorem txt_len {t : List Nd} (hR : RightP t) {i : Nat} (hi : i < t.length) : (txt t i).length ≤ 800000 := by
  have h1 := txtR_len hR i (sz t i)
  have h2 := (hR.lamK hi).2.2
  have h3 := hR.le
  unfold txt
  omega
theorem flat_txt_len {t : List Nd} (hR : RightP t) : ∀ (ns : List Nat), (∀ i ∈ ns, i < t.length) → (ns.flatMap (txt t)).length ≤ 800000 * ns.length := by
  intro ns
  induction ns with
  | nil => intro _; exact Nat.zero_le _
  | cons i ns ih =>
    intro h
    rw [List.flatMap_cons, List.length_append, List.length_cons]
    have h1 := txt_len hR (h i (by simp))
    have h2 := ih (fun k hk => h k (by simp [hk]))
    omega
/-- An element has no text of its own. -/
theorem txt_elem {t : List Nd} (hR : RightP t) {p : Nat} (hp : p < t.length) (hk : t[p].kind = 3) : txt t p = (kidsL t p).flatMap (txt t) := by
  rw [txt_kids hR hp]
  have : ownT t p = [] := by unfold ownT; rw [getD_at hp, if_neg (by omega)]
  rw [this, List.nil_append]

set_option maxRecDepth 100000 in
theorem within_any (a : Option Addr) (n c : Nat) (I : Int) (w : World) : Calls Tryd.prog 6 #[.slice a n c, .int .i64 I] w fun e w' => e = .returned (.bool (decide (0 ≤ I) && decide (I < n))) ∧ w = w' := by
  by_cases h1 : 0 ≤ I
  · by_cases h2 : I < n
    · go_enter Tryd.func6, Tryd.ntmps6
      go_wp2_with fail
      go_ret
      exact ⟨ret_b (by simp; omega), rfl⟩
    · go_enter Tryd.func6, Tryd.ntmps6
      go_wp2_with fail
      go_ret
      exact ⟨ret_b (by simp; omega), rfl⟩
  · go_enter Tryd.func6, Tryd.ntmps6
    go_wp2_with fail
    go_ret
    exact ⟨ret_b (by simp; omega), rfl⟩
end Go.Proofs.YtjebadadimejpaaDoor
