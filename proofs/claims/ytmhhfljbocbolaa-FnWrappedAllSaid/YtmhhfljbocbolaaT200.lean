/- A forest that changes, as data: what stands above a node, and what beneath it. -/
import Derived.Lib.Hide
namespace Go.Proofs.Ytmhhfljbocbolaa
set_option linter.unusedVariables false

structure Fo where
  par : Nat → Option Nat
  kids : Nat → List Nat

theorem Fo.ext2 {F G : Fo} (h1 : ∀ i, F.par i = G.par i) (h2 : ∀ i, F.kids i = G.kids i) : F = G := by
  cases F; cases G
  congr
  · exact funext h1
  · exact funext h2

/-- A node is taken out. -/
def Fo.cut (F : Fo) (x : Nat) : Fo := ⟨fun i => if i = x then none else F.par i, fun p => (F.kids p).filter fun c => !decide (c = x)⟩
def insL (l : List Nat) (k x : Nat) : List Nat := l.take k ++ x :: l.drop k
/-- A node that stands nowhere is put beneath another one, at a place. -/
def Fo.put (F : Fo) (p k x : Nat) : Fo := ⟨fun i => if i = x then some p else F.par i, fun q => if q = p then insL (F.kids q) k x else F.kids q⟩
/-- All that stands beneath a node is taken out. -/
def Fo.clear (F : Fo) (x : Nat) : Fo := ⟨fun i => if F.par i = some x then none else F.par i, fun p => if p = x then [] else F.kids p⟩

/-- What stands above and beneath fits; S: the nodes; h: how deep it goes beneath a node, at most. -/
structure Fo.Ok (F : Fo) (S : Nat → Prop) (h : Nat → Nat) : Prop where
  nodup : ∀ p, (F.kids p).Nodup
  mem : ∀ p c, c ∈ F.kids p ↔ F.par c = some p
  dom : ∀ p c, F.par c = some p → S p ∧ S c
  ht : ∀ p c, F.par c = some p → h c < h p

theorem filter_ne_self {l : List Nat} {x : Nat} (h : x ∉ l) : l.filter (fun c => !decide (c = x)) = l := by
  rw [List.filter_eq_self]
  intro a ha
  have : a ≠ x := fun e => h (e ▸ ha)
  simp [this]

theorem Fo.Ok.not_self {F : Fo} {S : Nat → Prop} {h : Nat → Nat} (o : F.Ok S h) {x : Nat} (hx : F.par x = none) (p : Nat) : x ∉ F.kids p := fun hm => by
  rw [o.mem, hx] at hm
  cases hm

theorem Fo.cut_none {F : Fo} {S : Nat → Prop} {h : Nat → Nat} (o : F.Ok S h) {x : Nat} (hx : F.par x = none) : F.cut x = F := by
  refine Fo.ext2 (fun i => ?_) (fun i => filter_ne_self (o.not_self hx i))
  show (if i = x then none else F.par i) = F.par i
  by_cases e : i = x
  · rw [if_pos e, e, hx]
  · rw [if_neg e]

theorem Fo.Ok.cut {F : Fo} {S : Nat → Prop} {h : Nat → Nat} (o : F.Ok S h) (x : Nat) : (F.cut x).Ok S h := by
  have par_of : ∀ c p, (F.cut x).par c = some p → F.par c = some p ∧ c ≠ x := by
    intro c p hc
    change (if c = x then none else F.par c) = some p at hc
    by_cases e : c = x
    · rw [if_pos e] at hc; cases hc
    · rw [if_neg e] at hc; exact ⟨hc, e⟩
  refine ⟨fun p => (o.nodup p).filter _, fun p c => ?_, fun p c hc => o.dom p c (par_of c p hc).1, fun p c hc => o.ht p c (par_of c p hc).1⟩
  show c ∈ (F.kids p).filter _ ↔ (if c = x then none else F.par c) = some p
  rw [List.mem_filter, o.mem]
  by_cases e : c = x
  · simp [e]
  · simp [e]

theorem mem_insL {l : List Nat} {k x y : Nat} : y ∈ insL l k x ↔ y = x ∨ y ∈ l := by
  unfold insL
  rw [List.mem_append, List.mem_cons]
  have h : y ∈ l ↔ y ∈ l.take k ∨ y ∈ l.drop k := by
    conv => lhs; rw [← List.take_append_drop k l]
    exact List.mem_append
  rw [h]
  constructor
  · rintro (a | a | a)
    · exact .inr (.inl a)
    · exact .inl a
    · exact .inr (.inr a)
  · rintro (a | a | a)
    · exact .inr (.inl a)
    · exact .inl a
    · exact .inr (.inr a)

theorem nodup_insL {l : List Nat} {k x : Nat} (h : l.Nodup) (hx : x ∉ l) : (insL l k x).Nodup := by
  have hp : (insL l k x).Perm (x :: l) := by
    unfold insL
    refine (List.perm_middle).trans ?_
    rw [List.take_append_drop]
  exact hp.nodup_iff.2 (List.nodup_cons.2 ⟨hx, h⟩)

/-- Put: with depths that fit the new forest. -/
theorem Fo.Ok.put {F : Fo} {S : Nat → Prop} {h h' : Nat → Nat} (o : F.Ok S h) {p k x : Nat} (hx : F.par x = none) (hp : S p) (hsx : S x) (hh : ∀ q c, F.par c = some q → h' c < h' q) (hpx : h' x < h' p) : (F.put p k x).Ok S h' := by
  have par_of : ∀ c q, (F.put p k x).par c = some q → (c = x ∧ q = p) ∨ (c ≠ x ∧ F.par c = some q) := by
    intro c q hc
    change (if c = x then some p else F.par c) = some q at hc
    by_cases e : c = x
    · rw [if_pos e] at hc; cases hc; exact .inl ⟨e, rfl⟩
    · rw [if_neg e] at hc; exact .inr ⟨e, hc⟩
  refine ⟨fun q => ?_, fun q c => ?_, fun q c hc => ?_, fun q c hc => ?_⟩
  · show (if q = p then insL (F.kids q) k x else F.kids q).Nodup
    by_cases e : q = p
    · rw [if_pos e]; exact nodup_insL (o.nodup q) (o.not_self hx q)
    · rw [if_neg e]; exact o.nodup q
  · show c ∈ (if q = p then insL (F.kids q) k x else F.kids q) ↔ (if c = x then some p else F.par c) = some q
    by_cases e : q = p
    · rw [if_pos e, mem_insL, o.mem]
      by_cases e2 : c = x
      · simp [e2, e]
      · simp [e2]
    · rw [if_neg e, o.mem]
      by_cases e2 : c = x
      · rw [if_pos e2, e2, hx]
        constructor
        · intro q; cases q
        · intro q; cases q; exact absurd rfl e
      · rw [if_neg e2]
  · rcases par_of c q hc with ⟨rfl, rfl⟩ | ⟨_, h2⟩
    · exact ⟨hp, hsx⟩
    · exact o.dom q c h2
  · rcases par_of c q hc with ⟨rfl, rfl⟩ | ⟨_, h2⟩
    · exact hpx
    · exact hh q c h2

/-- y is x, or stands beneath it (within so many steps). -/
def Fo.und (F : Fo) : Nat → Nat → Nat → Bool
  | 0, x, y => decide (y = x)
  | d + 1, x, y => decide (y = x) || match F.par y with | none => false | some p => F.und d x p

theorem Fo.und_self (F : Fo) (d x : Nat) : F.und d x x = true := by cases d <;> simp [Fo.und]

/-- The steps up from a node. -/
inductive Fo.Up (F : Fo) (x : Nat) : Nat → Prop
  | self : F.Up x x
  | step {y p : Nat} : F.par y = some p → F.Up x p → F.Up x y

theorem Fo.Up.ht {F : Fo} {S : Nat → Prop} {h : Nat → Nat} (o : F.Ok S h) {x y : Nat} (u : F.Up x y) : y = x ∨ h y < h x := by
  induction u with
  | self => exact .inl rfl
  | step hp _ ih =>
    have := o.ht _ _ hp
    rcases ih with rfl | ih
    · exact .inr this
    · exact .inr (by omega)

open Classical in
/-- Depths behind a put: all that does not stand beneath the node is lifted. -/
noncomputable def Fo.lift (F : Fo) (h : Nat → Nat) (x : Nat) : Nat → Nat := fun y => if F.Up x y then h y else h y + h x + 1

theorem Fo.Ok.lift {F : Fo} {S : Nat → Prop} {h : Nat → Nat} (o : F.Ok S h) (x : Nat) (hx : F.par x = none) : ∀ q c, F.par c = some q → F.lift h x c < F.lift h x q := by
  intro q c hc
  have := o.ht q c hc
  unfold Fo.lift
  by_cases u : F.Up x c
  · rw [if_pos u]
    have hu : F.Up x q := by
      cases u with
      | self => rw [hx] at hc; cases hc
      | step h1 h2 => rw [hc] at h1; cases h1; exact h2
    rw [if_pos hu]; exact this
  · rw [if_neg u]
    by_cases u2 : F.Up x q
    · exact absurd (.step hc u2) u
    · rw [if_neg u2]; omega

theorem Fo.Ok.put' {F : Fo} {S : Nat → Prop} {h : Nat → Nat} (o : F.Ok S h) {p k x : Nat} (hx : F.par x = none) (hp : S p) (hsx : S x) (hn : ¬ F.Up x p) : (F.put p k x).Ok S (F.lift h x) := by
  refine o.put hx hp hsx (o.lift x hx) ?_
  unfold Fo.lift
  rw [if_pos Fo.Up.self, if_neg hn]; omega

theorem Fo.Ok.clear {F : Fo} {S : Nat → Prop} {h : Nat → Nat} (o : F.Ok S h) (x : Nat) : (F.clear x).Ok S h := by
  have par_of : ∀ c p, (F.clear x).par c = some p → F.par c = some p ∧ p ≠ x := by
    intro c p hc
    change (if F.par c = some x then none else F.par c) = some p at hc
    by_cases e : F.par c = some x
    · rw [if_pos e] at hc; cases hc
    · rw [if_neg e] at hc; exact ⟨hc, fun e2 => e (e2 ▸ hc)⟩
  refine ⟨fun p => ?_, fun p c => ?_, fun p c hc => o.dom p c (par_of c p hc).1, fun p c hc => o.ht p c (par_of c p hc).1⟩
  · show (if p = x then [] else F.kids p).Nodup
    split
    · exact List.nodup_nil
    · exact o.nodup p
  · show c ∈ (if p = x then [] else F.kids p) ↔ (if F.par c = some x then none else F.par c) = some p
    by_cases e : p = x
    · subst e
      rw [if_pos rfl]
      constructor
      · intro q; cases q
      · intro q
        by_cases e2 : F.par c = some p
        · rw [if_pos e2] at q; cases q
        · rw [if_neg e2] at q; exact absurd q e2
    · rw [if_neg e, o.mem]
      constructor
      · intro q; rw [if_neg (fun e2 => e (by rw [q] at e2; cases e2; rfl))]; exact q
      · intro q
        by_cases e2 : F.par c = some x
        · rw [if_pos e2] at q; cases q
        · rw [if_neg e2] at q; exact q

theorem Fo.clear_done {F : Fo} {S : Nat → Prop} {h : Nat → Nat} (o : F.Ok S h) {x : Nat} (hk : F.kids x = []) : F.clear x = F := by
  refine Fo.ext2 (fun i => ?_) (fun i => ?_)
  · show (if F.par i = some x then none else F.par i) = F.par i
    rw [if_neg]
    intro e
    have := (o.mem x i).2 e
    rw [hk] at this
    cases this
  · show (if i = x then [] else F.kids i) = F.kids i
    by_cases e : i = x
    · rw [if_pos e, e, hk]
    · rw [if_neg e]

theorem Fo.clear_cut {F : Fo} {S : Nat → Prop} {h : Nat → Nat} (o : F.Ok S h) {x c : Nat} (hc : F.par c = some x) : (F.cut c).clear x = F.clear x := by
  refine Fo.ext2 (fun i => ?_) (fun i => ?_)
  · show (if (if i = c then none else F.par i) = some x then none else (if i = c then none else F.par i)) = (if F.par i = some x then none else F.par i)
    by_cases e : i = c
    · rw [if_pos e, e, if_pos hc]; rfl
    · rw [if_neg e]
  · show (if i = x then [] else (F.kids i).filter _) = (if i = x then [] else F.kids i)
    by_cases e : i = x
    · rw [if_pos e, if_pos e]
    · rw [if_neg e, if_neg e]
      refine filter_ne_self fun hm => ?_
      rw [o.mem, hc] at hm
      cases hm
      exact e rfl

/-- The kids behind a cut of the first one. -/
theorem Fo.cut_first {F : Fo} {S : Nat → Prop} {h : Nat → Nat} (o : F.Ok S h) {x c : Nat} {l : List Nat} (hk : F.kids x = c :: l) : (F.cut c).kids x = l := by
  show (F.kids x).filter _ = l
  have hn := o.nodup x
  rw [hk] at hn ⊢
  rw [List.filter_cons]
  simp only [decide_true, Bool.not_true, Bool.false_eq_true, if_false]
  exact filter_ne_self (List.nodup_cons.1 hn).1

/-- A node and all beneath it, in order. -/
def Fo.lst (F : Fo) : Nat → Nat → List Nat
  | 0, x => [x]
  | d + 1, x => x :: (F.kids x).flatMap (F.lst d)

theorem Fo.lst_fuel {F : Fo} {S : Nat → Prop} {h : Nat → Nat} (o : F.Ok S h) : ∀ (d d' x : Nat), h x ≤ d → h x ≤ d' → F.lst d x = F.lst d' x := by
  have hz : ∀ x, h x = 0 → F.kids x = [] := by
    intro x hx
    cases e : F.kids x with
    | nil => rfl
    | cons c l =>
      have := o.ht x c ((o.mem x c).1 (by rw [e]; exact List.mem_cons_self))
      omega
  intro d
  induction d with
  | zero =>
    intro d' x h1 h2
    cases d' with
    | zero => rfl
    | succ d' => simp [Fo.lst, hz x (by omega)]
  | succ d ih =>
    intro d' x h1 h2
    cases d' with
    | zero => simp [Fo.lst, hz x (by omega)]
    | succ d' =>
      show x :: (F.kids x).flatMap (F.lst d) = x :: (F.kids x).flatMap (F.lst d')
      congr 1
      have : ∀ l : List Nat, (∀ c ∈ l, c ∈ F.kids x) → l.flatMap (F.lst d) = l.flatMap (F.lst d') := by
        intro l
        induction l with
        | nil => intro _; rfl
        | cons c l ihl =>
          intro hl
          have hc := o.ht x c ((o.mem x c).1 (hl c List.mem_cons_self))
          rw [List.flatMap_cons, List.flatMap_cons, ih d' c (by omega) (by omega), ihl (fun c' hc' => hl c' (List.mem_cons_of_mem _ hc'))]
      exact this _ (fun _ hc => hc)

/-- All of a node, with depths that fit. -/
def Fo.all (F : Fo) (h : Nat → Nat) (x : Nat) : List Nat := F.lst (h x) x

theorem Fo.all_eq {F : Fo} {S : Nat → Prop} {h : Nat → Nat} (o : F.Ok S h) (x : Nat) : F.all h x = x :: (F.kids x).flatMap (F.all h) := by
  have e : F.all h x = F.lst (h x + 1) x := F.lst_fuel o _ _ _ (Nat.le_refl _) (by omega)
  rw [e]
  show x :: (F.kids x).flatMap (F.lst (h x)) = _
  congr 1
  have : ∀ l : List Nat, (∀ c ∈ l, c ∈ F.kids x) → l.flatMap (F.lst (h x)) = l.flatMap (F.all h) := by
    intro l
    induction l with
    | nil => intro _; rfl
    | cons c l ihl =>
      intro hl
      have hc := o.ht x c ((o.mem x c).1 (hl c List.mem_cons_self))
      rw [List.flatMap_cons, List.flatMap_cons, ihl (fun c' hc' => hl c' (List.mem_cons_of_mem _ hc'))]
      congr 1
      exact F.lst_fuel o _ _ _ (by omega) (Nat.le_refl _)
  exact this _ (fun _ hc => hc)

theorem Fo.all_indep {F : Fo} {S S' : Nat → Prop} {h h' : Nat → Nat} (o : F.Ok S h) (o' : F.Ok S' h') : ∀ (d x : Nat), h x ≤ d → F.all h x = F.all h' x := by
  intro d
  induction d with
  | zero =>
    intro x hx
    have hk : F.kids x = [] := by
      cases e : F.kids x with
      | nil => rfl
      | cons c l =>
        have := o.ht x c ((o.mem x c).1 (by rw [e]; exact List.mem_cons_self))
        omega
    rw [F.all_eq o, F.all_eq o', hk]; rfl
  | succ d ih =>
    intro x hx
    rw [F.all_eq o, F.all_eq o']
    congr 1
    have : ∀ l : List Nat, (∀ c ∈ l, c ∈ F.kids x) → l.flatMap (F.all h) = l.flatMap (F.all h') := by
      intro l
      induction l with
      | nil => intro _; rfl
      | cons c l ihl =>
        intro hl
        have hc := o.ht x c ((o.mem x c).1 (hl c List.mem_cons_self))
        rw [List.flatMap_cons, List.flatMap_cons, ihl (fun c' hc' => hl c' (List.mem_cons_of_mem _ hc')), ih c (by omega)]
    exact this _ (fun _ hc => hc)

/-- What is listed stands beneath. -/
theorem Fo.all_up {F : Fo} {S : Nat → Prop} {h : Nat → Nat} (o : F.Ok S h) : ∀ (d x : Nat), h x ≤ d → ∀ y, y ∈ F.all h x ↔ F.Up x y := by
  intro d
  induction d with
  | zero =>
    intro x hx y
    have hk : F.kids x = [] := by
      cases e : F.kids x with
      | nil => rfl
      | cons c l =>
        have := o.ht x c ((o.mem x c).1 (by rw [e]; exact List.mem_cons_self))
        omega
    rw [F.all_eq o, hk]
    simp only [List.flatMap_nil, List.mem_singleton]
    constructor
    · rintro rfl; exact .self
    · intro u
      rcases u.ht o with e | e
      · exact e
      · omega
  | succ d ih =>
    intro x hx y
    rw [F.all_eq o, List.mem_cons, List.mem_flatMap]
    constructor
    · rintro (rfl | ⟨c, hc, hy⟩)
      · exact .self
      · have hp := (o.mem x c).1 hc
        have hlt := o.ht x c hp
        have u := (ih c (by omega) y).1 hy
        have tr : ∀ {z : Nat}, F.Up c z → F.Up x z := by
          intro z u
          induction u with
          | self => exact .step hp .self
          | step h1 _ ih2 => exact .step h1 ih2
        exact tr u
    · intro u
      have tr : ∀ {z : Nat}, F.Up x z → z = x ∨ ∃ c, F.par c = some x ∧ F.Up c z := by
        intro z u
        induction u with
        | self => exact .inl rfl
        | @step z p h1 _ ih2 =>
          rcases ih2 with e | ⟨c, hc, uc⟩
          · subst e; exact .inr ⟨z, h1, .self⟩
          · exact .inr ⟨c, hc, .step h1 uc⟩
      rcases tr u with e | ⟨c, hc, uc⟩
      · exact .inl e
      · have hlt := o.ht x c hc
        exact .inr ⟨c, (o.mem x c).2 hc, (ih c (by omega) y).2 uc⟩

theorem Fo.Up.uniq {F : Fo} {S : Nat → Prop} {h : Nat → Nat} (o : F.Ok S h) {a b y p : Nat} (ha : F.par a = some p) (hb : F.par b = some p) (u : F.Up a y) : F.Up b y → a = b := by
  induction u with
  | self =>
    intro v
    cases v with
    | self => rfl
    | step h1 h2 =>
      rw [ha] at h1; cases h1
      have := o.ht _ _ hb
      rcases h2.ht o with e | e
      · subst e; omega
      · omega
  | step h1 h2 ih =>
    intro v
    cases v with
    | self =>
      rw [hb] at h1; cases h1
      have := o.ht _ _ ha
      rcases h2.ht o with e | e
      · subst e; omega
      · omega
    | step h3 h4 => rw [h1] at h3; cases h3; exact ih h4

theorem Fo.all_nodup {F : Fo} {S : Nat → Prop} {h : Nat → Nat} (o : F.Ok S h) : ∀ (d x : Nat), h x ≤ d → (F.all h x).Nodup := by
  intro d
  induction d with
  | zero =>
    intro x hx
    have hk : F.kids x = [] := by
      cases e : F.kids x with
      | nil => rfl
      | cons c l =>
        have := o.ht x c ((o.mem x c).1 (by rw [e]; exact List.mem_cons_self))
        omega
    rw [F.all_eq o, hk]
    exact List.nodup_cons.2 ⟨by simp, List.nodup_nil⟩
  | succ d ih =>
    intro x hx
    rw [F.all_eq o]
    refine List.nodup_cons.2 ⟨fun hm => ?_, ?_⟩
    · obtain ⟨c, hc, hy⟩ := List.mem_flatMap.1 hm
      have hp := (o.mem x c).1 hc
      have hlt := o.ht x c hp
      rcases ((F.all_up o _ c (Nat.le_refl _) x).1 hy).ht o with e | e
      · subst e; omega
      · omega
    · have : ∀ l : List Nat, (∀ c ∈ l, c ∈ F.kids x) → l.Nodup → (l.flatMap (F.all h)).Nodup := by
        intro l
        induction l with
        | nil => intro _ _; exact List.nodup_nil
        | cons c l ihl =>
          intro hl hn
          rw [List.flatMap_cons, List.nodup_append]
          have hpc := (o.mem x c).1 (hl c List.mem_cons_self)
          have hlt := o.ht x c hpc
          refine ⟨ih c (by omega), ihl (fun c' hc' => hl c' (List.mem_cons_of_mem _ hc')) (List.nodup_cons.1 hn).2, fun y hy z hz e => ?_⟩
          subst e
          obtain ⟨c', hc', hy'⟩ := List.mem_flatMap.1 hz
          have hpc' := (o.mem x c').1 (hl c' (List.mem_cons_of_mem _ hc'))
          have u1 := (F.all_up o _ c (Nat.le_refl _) y).1 hy
          have u2 := (F.all_up o _ c' (Nat.le_refl _) y).1 hy'
          have := u1.uniq o hpc hpc' u2
          subst this
          exact (List.nodup_cons.1 hn).1 hc'
      exact this _ (fun _ hc => hc) (o.nodup x)
end Go.Proofs.Ytmhhfljbocbolaa
