/- Nodes put at others: the states, the reference's side (joined by join.py) -/
import Derived.Test.YtmhhfljbocbolaaP4
import Derived.Test.YtmhhfljbocbolaaP6
import Derived.Test.YtmhhfljbocbolaaT166
import Derived.BigRegion
namespace Go.Proofs.Ytmhhfljbocbolaa
set_option linter.unusedVariables false

def cutAll (F : Fo) (cs : List Nat) : Fo := cs.foldl Fo.cut F
theorem cutAll_snoc (F : Fo) (cs : List Nat) (c : Nat) : cutAll F (cs ++ [c]) = (cutAll F cs).cut c := by simp [cutAll]
theorem cutAll_ok {F : Fo} {S : Nat → Prop} {h : Nat → Nat} (o : F.Ok S h) (cs : List Nat) : (cutAll F cs).Ok S h := by
  induction cs generalizing F with
  | nil => exact o
  | cons c cs ih => exact ih (o.cut c)

theorem cutAll_par (cs : List Nat) : ∀ (F : Fo) (i : Nat), (cutAll F cs).par i = if i ∈ cs then none else F.par i := by
  induction cs with
  | nil => intro F i; simp [cutAll]
  | cons c cs ih =>
    intro F i
    show (cutAll (F.cut c) cs).par i = _
    rw [ih]
    show (if i ∈ cs then none else if i = c then none else F.par i) = _
    by_cases h1 : i ∈ cs
    · rw [if_pos h1, if_pos (List.mem_cons_of_mem _ h1)]
    · rw [if_neg h1]
      by_cases h2 : i = c
      · rw [if_pos h2, if_pos (by rw [h2]; exact List.mem_cons_self)]
      · rw [if_neg h2, if_neg (by simp [h1, h2])]
theorem cutAll_kids (cs : List Nat) : ∀ (F : Fo) (p : Nat), (cutAll F cs).kids p = (F.kids p).filter fun c => !decide (c ∈ cs) := by
  induction cs with
  | nil => intro F p; show F.kids p = _; rw [List.filter_eq_self.2]; intro a _; simp
  | cons c cs ih =>
    intro F p
    show (cutAll (F.cut c) cs).kids p = _
    rw [ih]
    show ((F.kids p).filter fun x => !decide (x = c)).filter _ = _
    rw [List.filter_filter]
    refine List.filter_congr fun x _ => ?_
    by_cases h1 : x = c
    · simp [h1]
    · by_cases h2 : x ∈ cs <;> simp [h1, h2]

theorem clearAll_facts (ms : List Nat) : ∀ {F : Fo} {S : Nat → Prop} {h : Nat → Nat} (o : F.Ok S h) (i : Nat), ((clearAll F ms).par i = match F.par i with | some m => if m ∈ ms then none else some m | none => none) ∧ (clearAll F ms).kids i = if i ∈ ms then [] else F.kids i := by
  induction ms with
  | nil => intro F S h o i; exact ⟨by cases e : F.par i <;> simp [clearAll, e], by simp [clearAll]⟩
  | cons m ms ih =>
    intro F S h o i
    obtain ⟨h1, h2⟩ := ih (o.clear m) i
    refine ⟨?_, ?_⟩
    · show (clearAll (F.clear m) ms).par i = _
      rw [h1]
      show (match (if F.par i = some m then none else F.par i) with | some q => if q ∈ ms then none else some q | none => none) = _
      cases e : F.par i with
      | none => simp
      | some q =>
        by_cases e2 : q = m
        · subst e2; simp
        · rw [if_neg (by intro e3; cases e3; exact e2 rfl)]
          simp [e2]
    · show (clearAll (F.clear m) ms).kids i = _
      rw [h2]
      show (if i ∈ ms then [] else if i = m then [] else F.kids i) = _
      by_cases h1 : i ∈ ms
      · rw [if_pos h1, if_pos (List.mem_cons_of_mem _ h1)]
      · rw [if_neg h1]
        by_cases h3 : i = m
        · rw [if_pos h3, if_pos (by rw [h3]; exact List.mem_cons_self)]
        · rw [if_neg h3, if_neg (by simp [h1, h3])]

theorem cut_clear {F : Fo} {S : Nat → Prop} {h : Nat → Nat} (o : F.Ok S h) (ms : List Nat) : cutAll F (ms.flatMap F.kids) = clearAll F ms := by
  have key : ∀ i, i ∈ ms.flatMap F.kids ↔ ∃ m ∈ ms, F.par i = some m := fun i => by
    rw [List.mem_flatMap]
    constructor
    · rintro ⟨m, hm, hi⟩; exact ⟨m, hm, (o.mem m i).1 hi⟩
    · rintro ⟨m, hm, hi⟩; exact ⟨m, hm, (o.mem m i).2 hi⟩
  refine Fo.ext2 (fun i => ?_) (fun p => ?_)
  · rw [cutAll_par, (clearAll_facts ms o i).1]
    cases e : F.par i with
    | none => simp
    | some q =>
      by_cases hq : q ∈ ms
      · rw [if_pos ((key i).2 ⟨q, hq, e⟩)]; simp [hq]
      · rw [if_neg (fun hi => by obtain ⟨m, hm, e2⟩ := (key i).1 hi; rw [e] at e2; cases e2; exact hq hm)]; simp [hq]
  · rw [cutAll_kids, (clearAll_facts ms o p).2]
    by_cases hp : p ∈ ms
    · rw [if_pos hp, List.filter_eq_nil_iff]
      intro c hc
      have : c ∈ ms.flatMap F.kids := (key c).2 ⟨p, hp, (o.mem p c).1 hc⟩
      simp [this]
    · rw [if_neg hp, List.filter_eq_self]
      intro c hc
      have : c ∉ ms.flatMap F.kids := fun h2 => by
        obtain ⟨m, hm, e2⟩ := (key c).1 h2
        rw [(o.mem p c).1 hc] at e2; cases e2; exact hp hm
      simp [this]
/-- The children of some nodes, each once. -/
theorem flat_nodup {F : Fo} {S : Nat → Prop} {h : Nat → Nat} (o : F.Ok S h) : ∀ {ms : List Nat}, ms.Nodup → (ms.flatMap F.kids).Nodup := by
  intro ms
  induction ms with
  | nil => intro _; simp
  | cons m ms ih =>
    intro hn
    obtain ⟨h1, h2⟩ := List.nodup_cons.1 hn
    rw [List.flatMap_cons, List.nodup_append]
    refine ⟨o.nodup m, ih h2, fun a ha b hb e => ?_⟩
    subst e
    obtain ⟨q, hq, hb2⟩ := List.mem_flatMap.1 hb
    have e1 := (o.mem m a).1 ha
    have e2 := (o.mem q a).1 hb2
    rw [e1] at e2; cases e2
    exact h1 hq
end Go.Proofs.Ytmhhfljbocbolaa

namespace Go.Proofs.Ytmhhfljbocbolaa
set_option linter.unusedVariables false

/-- A forest with so many nodes. -/
structure FoS where
  F : Fo
  N : Nat
  nd : Nat → Nd
  op : Bool

/-- Ahead of z, or at the end. -/
def insB (z r : Nat) : List Nat → List Nat
  | [] => [r]
  | a :: l => if a = z then r :: a :: l else a :: insB z r l

def FoS.putB (s : FoS) (p z r : Nat) : FoS := { s with F := ⟨fun i => if i = r then some p else s.F.par i, fun q => if q = p then insB z r (s.F.kids q) else s.F.kids q⟩ }
def FoS.cut (s : FoS) (x : Nat) : FoS := { s with F := s.F.cut x }
def FoS.fresh (s : FoS) (x : Nat) : FoS := { s with N := s.N + 1, nd := fun i => if i = s.N then s.nd x else s.nd i }
def FoS.shut (s : FoS) : FoS := { s with op := true }

def cstep (f : FoS → Nat → FoS) (c : Nat) (s : FoS) (k : Nat) : FoS := (f s k).putB c c s.N
def cpy : Nat → FoS → Nat → FoS
  | 0, s, x => if 600 ≤ s.N then (s.fresh x).shut else s.fresh x
  | d + 1, s, x => if 600 ≤ s.N then (s.fresh x).shut else (s.F.kids x).foldl (cstep (cpy d) s.N) (s.fresh x)

theorem insB_end {z r : Nat} : ∀ {l : List Nat}, z ∉ l → insB z r l = l ++ [r] := by
  intro l
  induction l with
  | nil => intro _; rfl
  | cons a l ih =>
    intro h
    have h1 : z ≠ a := fun e => h (by rw [e]; exact List.mem_cons_self)
    have h2 : z ∉ l := fun hm => h (List.mem_cons_of_mem _ hm)
    show (if a = z then _ else _) = _
    rw [if_neg (Ne.symm h1), ih h2]; rfl
theorem insB_at {z r : Nat} {l2 : List Nat} : ∀ {l1 : List Nat}, z ∉ l1 → insB z r (l1 ++ z :: l2) = l1 ++ r :: z :: l2 := by
  intro l1
  induction l1 with
  | nil => intro _; show (if z = z then _ else _) = _; rw [if_pos rfl]; rfl
  | cons a l ih =>
    intro h
    have h1 : z ≠ a := fun e => h (by rw [e]; exact List.mem_cons_self)
    have h2 : z ∉ l := fun hm => h (List.mem_cons_of_mem _ hm)
    show (if a = z then _ else _) = _
    rw [if_neg (Ne.symm h1)]; exact congrArg (a :: ·) (ih h2)
theorem insB_perm (z r : Nat) : ∀ l : List Nat, (insB z r l).Perm (r :: l) := by
  intro l
  induction l with
  | nil => exact List.Perm.refl _
  | cons a l ih =>
    show (if a = z then r :: a :: l else a :: insB z r l).Perm _
    split
    · exact List.Perm.refl _
    · exact (List.Perm.cons a ih).trans (List.Perm.swap r a l)
theorem insB_filter {z r y : Nat} (h1 : y ≠ z) (h2 : y ≠ r) : ∀ l : List Nat, (insB z r l).filter (fun c => !decide (c = y)) = insB z r (l.filter fun c => !decide (c = y)) := by
  intro l
  induction l with
  | nil => simp [insB, Ne.symm h2]
  | cons a l ih =>
    by_cases e : a = y
    · subst e
      have : insB z r (a :: l) = a :: insB z r l := by show (if a = z then _ else _) = _; rw [if_neg h1]
      rw [this, List.filter_cons, List.filter_cons]
      simp only [decide_true, Bool.not_true, Bool.false_eq_true, if_false]
      exact ih
    · by_cases e2 : a = z
      · subst e2
        have : insB a r (a :: l) = r :: a :: l := by show (if a = a then _ else _) = _; rw [if_pos rfl]
        rw [this]
        have e3 : r ≠ y := Ne.symm h2
        simp only [List.filter_cons, decide_eq_false e, decide_eq_false e3, Bool.not_false, if_true]
        show _ = (if a = a then _ else _)
        rw [if_pos rfl]
      · have : insB z r (a :: l) = a :: insB z r l := by show (if a = z then _ else _) = _; rw [if_neg e2]
        rw [this]
        simp only [List.filter_cons, decide_eq_false e, Bool.not_false, if_true, ih]
        show _ = (if a = z then _ else _)
        rw [if_neg e2]

theorem putB_put (s : FoS) {p z r : Nat} {l1 l2 : List Nat} (hk : s.F.kids p = l1 ++ l2) (h1 : z ∉ l1) (h2 : l2 = [] ∨ l2.head? = some z) : (s.putB p z r).F = s.F.put p l1.length r := by
  refine Fo.ext2 (fun i => rfl) (fun q => ?_)
  show (if q = p then insB z r (s.F.kids q) else s.F.kids q) = (if q = p then insL (s.F.kids q) l1.length r else s.F.kids q)
  by_cases e : q = p
  · subst e
    rw [if_pos rfl, if_pos rfl, hk, insL_split]
    cases l2 with
    | nil => rw [List.append_nil]; exact insB_end h1
    | cons a l2 =>
      rcases h2 with h | h
      · cases h
      · have : a = z := by simpa using h
        subst this
        exact insB_at h1
  · rw [if_neg e, if_neg e]

open Classical in
/-- Depths behind a put: what stands above the place is lifted. -/
noncomputable def Fo.lift2 (F : Fo) (h : Nat → Nat) (p x : Nat) : Nat → Nat := fun y => if F.Up y p then h y + h x + 1 else h y

theorem up_above {F : Fo} {q c y : Nat} (hc : F.par c = some q) (u : F.Up c y) : F.Up q y := by
  induction u with
  | self => exact .step hc .self
  | step h1 _ ih => exact .step h1 ih

theorem FoS.putB_ok {s : FoS} {S : Nat → Prop} {h : Nat → Nat} (o : s.F.Ok S h) {p z r : Nat} (hr : s.F.par r = none) (hp : S p) (hSr : S r) {h' : Nat → Nat} (hh : ∀ q c, s.F.par c = some q → h' c < h' q) (hpx : h' r < h' p) : (s.putB p z r).F.Ok S h' := by
  have par_of : ∀ c q, (s.putB p z r).F.par c = some q → (c = r ∧ q = p) ∨ (c ≠ r ∧ s.F.par c = some q) := by
    intro c q hc
    change (if c = r then some p else s.F.par c) = some q at hc
    by_cases e : c = r
    · rw [if_pos e] at hc; cases hc; exact .inl ⟨e, rfl⟩
    · rw [if_neg e] at hc; exact .inr ⟨e, hc⟩
  refine ⟨fun q => ?_, fun q c => ?_, fun q c hc => ?_, fun q c hc => ?_⟩
  · show (if q = p then insB z r (s.F.kids q) else s.F.kids q).Nodup
    by_cases e : q = p
    · rw [if_pos e]; exact (insB_perm z r _).nodup_iff.2 (List.nodup_cons.2 ⟨o.not_self hr q, o.nodup q⟩)
    · rw [if_neg e]; exact o.nodup q
  · show c ∈ (if q = p then insB z r (s.F.kids q) else s.F.kids q) ↔ (if c = r then some p else s.F.par c) = some q
    by_cases e : q = p
    · rw [if_pos e, (insB_perm z r _).mem_iff, List.mem_cons, o.mem]
      by_cases e2 : c = r
      · simp [e2, e]
      · simp [e2]
    · rw [if_neg e, o.mem]
      by_cases e2 : c = r
      · rw [if_pos e2, e2, hr]
        constructor
        · intro q; cases q
        · intro q; cases q; exact absurd rfl e
      · rw [if_neg e2]
  · rcases par_of c q hc with ⟨rfl, rfl⟩ | ⟨_, h2⟩
    · exact ⟨hp, hSr⟩
    · exact o.dom q c h2
  · rcases par_of c q hc with ⟨rfl, rfl⟩ | ⟨_, h2⟩
    · exact hpx
    · exact hh q c h2

/-- Put where it does not stand above the place. -/
theorem FoS.putB_ok2 {s : FoS} {S : Nat → Prop} {h : Nat → Nat} (o : s.F.Ok S h) {p z r : Nat} (hr : s.F.par r = none) (hp : S p) (hSr : S r) (hn : ¬ s.F.Up r p) : (s.putB p z r).F.Ok S (s.F.lift2 h p r) := by
  refine FoS.putB_ok o hr hp hSr (fun q c hc => ?_) ?_
  · have := o.ht q c hc
    unfold Fo.lift2
    by_cases u : s.F.Up c p
    · have u2 : s.F.Up q p := up_above hc u
      rw [if_pos u, if_pos u2]; omega
    · rw [if_neg u]; split <;> omega
  · unfold Fo.lift2
    rw [if_neg hn, if_pos .self]; omega

/-- What a copy leaves as it was, and what is new. -/
structure Ext (s s' : FoS) (h h' : Nat → Nat) (x : Nat) : Prop where
  ok : s'.F.Ok (fun i => i < s'.N) h'
  hold : ∀ y, y < s.N → h' y = h y
  hnew : h' s.N = h x
  lt : s.N < s'.N
  kids : ∀ y, y < s.N → s'.F.kids y = s.F.kids y
  par : ∀ y, y < s.N → s'.F.par y = s.F.par y
  ndo : ∀ y, y < s.N → s'.nd y = s.nd y
  root : s'.F.par s.N = none
  newp : ∀ y p, s.N ≤ y → s'.F.par y = some p → s.N ≤ p
  newn : ∀ y, s.N ≤ y → y < s'.N → ∃ z, z < s.N ∧ s'.nd y = s.nd z
  op : s.op = true → s'.op = true

theorem fresh_none {s : FoS} {h : Nat → Nat} (o : s.F.Ok (fun i => i < s.N) h) {y : Nat} (hy : s.N ≤ y) : s.F.par y = none ∧ s.F.kids y = [] := by
  constructor
  · cases e : s.F.par y with
    | none => rfl
    | some p => have := (o.dom p y e).2; omega
  · cases e : s.F.kids y with
    | nil => rfl
    | cons c l => have := (o.dom y c ((o.mem y c).1 (by rw [e]; exact List.mem_cons_self))).1; omega

theorem ext_fresh {s : FoS} {h : Nat → Nat} (o : s.F.Ok (fun i => i < s.N) h) {x : Nat} (hx : x < s.N) : Ext s (s.fresh x) h (fun i => if i = s.N then h x else h i) x := by
  refine ⟨⟨o.nodup, o.mem, fun p c hc => ?_, fun p c hc => ?_⟩, fun y hy => if_neg (by omega), if_pos rfl, Nat.lt_succ_self _, fun _ _ => rfl, fun _ _ => rfl, fun y hy => if_neg (by omega), (fresh_none o (Nat.le_refl _)).1, fun y p hy hp => ?_, fun y h1 h2 => ?_, fun e => e⟩
  · have := o.dom p c hc; exact ⟨Nat.lt_succ_of_lt this.1, Nat.lt_succ_of_lt this.2⟩
  · have := o.dom p c hc
    show (if c = s.N then _ else _) < (if p = s.N then _ else _)
    rw [if_neg (by omega), if_neg (by omega)]; exact o.ht p c hc
  · change s.F.par y = some p at hp
    rw [(fresh_none o hy).1] at hp; cases hp
  · have : y = s.N := by have : y < s.N + 1 := h2; omega
    exact ⟨x, hx, by show (if y = s.N then _ else _) = _; rw [if_pos this]⟩

/-- One kid more is copied. -/
theorem ext_step {s a b : FoS} {h ha hb : Nat → Nat} {x k : Nat} (ea : Ext s a h ha x) (hk : k < s.N) (eb : Ext a b ha hb k) (hh : h k < h x) : Ext s (b.putB s.N s.N a.N) h hb x ∧ (b.putB s.N s.N a.N).F.kids s.N = a.F.kids s.N ++ [a.N] := by
  have hsa := ea.lt
  have hab := eb.lt
  have hz : s.N ∉ b.F.kids s.N := fun hm => by
    have := eb.ok.ht _ _ ((eb.ok.mem _ _).1 hm); omega
  have hbk : b.F.kids s.N = a.F.kids s.N := eb.kids _ hsa
  refine ⟨⟨FoS.putB_ok eb.ok eb.root (by omega) (by omega) (fun q c hc => eb.ok.ht q c hc) ?_, fun y hy => (eb.hold y (by omega)).trans (ea.hold y hy), (eb.hold _ hsa).trans ea.hnew, by show s.N < b.N; omega, fun y hy => ?_, fun y hy => ?_, fun y hy => (eb.ndo y (by omega)).trans (ea.ndo y hy), ?_, fun y p hy hp => ?_, fun y h1 h2 => ?_, fun e => eb.op (ea.op e)⟩, ?_⟩
  · rw [eb.hnew, eb.hold _ hsa, ea.hnew, ea.hold _ hk]; exact hh
  · show (if y = s.N then _ else b.F.kids y) = _
    rw [if_neg (by omega), eb.kids y (by omega), ea.kids y hy]
  · show (if y = a.N then _ else b.F.par y) = _
    rw [if_neg (by omega), eb.par y (by omega), ea.par y hy]
  · show (if s.N = a.N then _ else b.F.par s.N) = _
    rw [if_neg (by omega), eb.par _ hsa, ea.root]
  · change (if y = a.N then some s.N else b.F.par y) = some p at hp
    by_cases e : y = a.N
    · rw [if_pos e] at hp; cases hp; exact Nat.le_refl _
    · rw [if_neg e] at hp
      by_cases e2 : y < a.N
      · rw [eb.par y e2] at hp; exact ea.newp y p hy hp
      · have := eb.newp y p (by omega) hp; omega
  · change y < b.N at h2
    show ∃ z, z < s.N ∧ b.nd y = s.nd z
    by_cases e2 : y < a.N
    · obtain ⟨z, hz, e⟩ := ea.newn y h1 e2
      exact ⟨z, hz, (eb.ndo y e2).trans e⟩
    · obtain ⟨z, hz, e⟩ := eb.newn y (by omega) h2
      by_cases e3 : z < s.N
      · exact ⟨z, e3, e.trans (ea.ndo z e3)⟩
      · obtain ⟨z2, hz2, e4⟩ := ea.newn z (by omega) hz
        exact ⟨z2, hz2, e.trans e4⟩
  · show (if s.N = s.N then insB s.N a.N (b.F.kids s.N) else _) = _
    rw [if_pos rfl, insB_end hz, hbk]

theorem ext_shut {s a : FoS} {h ha : Nat → Nat} {x : Nat} (ea : Ext s a h ha x) : Ext s a.shut h ha x :=
  ⟨ea.ok, ea.hold, ea.hnew, ea.lt, ea.kids, ea.par, ea.ndo, ea.root, ea.newp, ea.newn, fun _ => rfl⟩

def CpyOk (d : Nat) : Prop := ∀ (s : FoS) (h : Nat → Nat) (x : Nat), s.F.Ok (fun i => i < s.N) h → x < s.N → h x ≤ d → ∃ h', Ext s (cpy d s x) h h' x

theorem cpy_fold {d : Nat} (hd : CpyOk d) {s : FoS} {h : Nat → Nat} {x : Nat} : ∀ (L : List Nat) (a : FoS) (ha : Nat → Nat), Ext s a h ha x → (∀ k ∈ L, k < s.N ∧ h k < h x ∧ h k ≤ d) →
    ∃ h', Ext s (L.foldl (cstep (cpy d) s.N) a) h h' x ∧ ((L.foldl (cstep (cpy d) s.N) a).F.kids s.N).length = (a.F.kids s.N).length + L.length ∧ a.N ≤ (L.foldl (cstep (cpy d) s.N) a).N := by
  intro L
  induction L with
  | nil => intro a ha e _; exact ⟨ha, e, rfl, Nat.le_refl _⟩
  | cons k L ih =>
    intro a ha e hL
    obtain ⟨h1, h2, h3⟩ := hL k List.mem_cons_self
    obtain ⟨hb, eb⟩ := hd a ha k e.ok (by have := e.lt; omega) (by rw [e.hold k h1]; exact h3)
    obtain ⟨e2, e3⟩ := ext_step e h1 eb h2
    obtain ⟨h', e4, e5, e6⟩ := ih _ _ e2 (fun q hq => hL q (List.mem_cons_of_mem _ hq))
    refine ⟨h', e4, ?_, Nat.le_trans (Nat.le_of_lt eb.lt) e6⟩
    show ((List.foldl (cstep (cpy d) s.N) (cstep (cpy d) s.N a k) L).F.kids s.N).length = _
    rw [e3] at e5
    simp only [List.length_append, List.length_cons, List.length_nil] at e5 ⊢
    unfold cstep at e5 ⊢
    omega

theorem cpy_ok (d : Nat) : CpyOk d := by
  induction d with
  | zero =>
    intro s h x o hx hd
    show ∃ h', Ext s (if 600 ≤ s.N then (s.fresh x).shut else s.fresh x) h h' x
    split
    · exact ⟨_, ext_shut (ext_fresh o hx)⟩
    · exact ⟨_, ext_fresh o hx⟩
  | succ d ih =>
    intro s h x o hx hd
    show ∃ h', Ext s (if 600 ≤ s.N then (s.fresh x).shut else (s.F.kids x).foldl (cstep (cpy d) s.N) (s.fresh x)) h h' x
    split
    · exact ⟨_, ext_shut (ext_fresh o hx)⟩
    · obtain ⟨h', e, _⟩ := cpy_fold ih (s.F.kids x) (s.fresh x) _ (ext_fresh o hx) (fun k hk => by
        have h1 := (o.mem x k).1 hk
        have h2 := o.dom x k h1
        have h3 := o.ht x k h1
        exact ⟨h2.2, h3, by omega⟩)
      exact ⟨h', e⟩
end Go.Proofs.Ytmhhfljbocbolaa

namespace Go.Proofs.Ytmhhfljbocbolaa
open Go.RowKit
set_option linter.unusedVariables false

open Classical in
/-- The depth of the node at a pointer. -/
noncomputable def hgt (S : Nat → Prop) (kb : Nat → Nat) (h : Nat → Nat) (v : Value) : Nat := if hy : ∃ y, S y ∧ v = .pointer (some ⟨kb y, 0, none⟩) then h (Classical.choose hy) + 1 else 0

theorem hgt_at {S : Nat → Prop} {kb : Nat → Nat} (inj : ∀ i j, S i → S j → kb i = kb j → i = j) (h : Nat → Nat) {y : Nat} (hy : S y) : hgt S kb h (.pointer (some ⟨kb y, 0, none⟩)) = h y + 1 := by
  have hex : ∃ z, S z ∧ Value.pointer (some ⟨kb y, 0, none⟩) = .pointer (some ⟨kb z, 0, none⟩) := ⟨y, hy, rfl⟩
  unfold hgt
  rw [dif_pos hex]
  obtain ⟨h1, h2⟩ := Classical.choose_spec hex
  have e : kb (Classical.choose hex) = kb y := by injection h2 with h3; injection h3 with h4; injection h4 with h5; exact h5.symm
  rw [inj _ _ h1 hy e]
theorem hmax (h : Nat → Nat) : ∀ n : Nat, ∃ M, ∀ y, y < n → h y ≤ M := by
  intro n
  induction n with
  | zero => exact ⟨0, fun y hy => by omega⟩
  | succ n ih =>
    obtain ⟨M, hM⟩ := ih
    refine ⟨M + h n, fun y hy => ?_⟩
    by_cases e : y = n
    · subst e; omega
    · have := hM y (by omega); omega
theorem hgt_nil (S : Nat → Prop) (kb : Nat → Nat) (h : Nat → Nat) : hgt S kb h (.pointer none) = 0 := by
  unfold hgt
  rw [dif_neg]
  rintro ⟨y, _, e⟩; cases e

open Classical in
/-- The second node is the first one, or stands beneath it. -/
noncomputable def Fo.upB (F : Fo) (k x : Nat) : Bool := decide (F.Up k x)
theorem Fo.upB_true {F : Fo} {k x : Nat} (u : F.Up k x) : F.upB k x = true := by simp [Fo.upB, u]
theorem Fo.upB_false {F : Fo} {k x : Nat} (u : ¬ F.Up k x) : F.upB k x = false := by simp [Fo.upB, u]
theorem Fo.upB_no {F : Fo} {k x : Nat} (h : F.upB k x = false) : ¬ F.Up k x := fun u => by rw [Fo.upB_true u] at h; cases h

set_option maxRecDepth 100000 in
set_option maxHeartbeats 1000000 in
theorem holds_any {F : Fo} {S : Nat → Prop} {ht : Nat → Nat} (o : F.Ok S ht) {nd : Nat → Nd} {pl : Nat → Int} {B : Nat} {kb : Nat → Nat} {w : World} (hK : Kno F S nd pl B kb w) (k x : Nat) (hk : S k) (hx : S x) (hmx : ∃ M, ∀ y, S y → ht y ≤ M) :
    Calls Try.prog 99 #[.pointer (some ⟨kb k, 0, none⟩), .pointer (some ⟨kb x, 0, none⟩)] w fun e w' => e = .returned (.bool (F.upB k x)) ∧ w' = w := by
  have HK := Lib.hid hK
  have HO := Lib.hid o
  have e1 := kptr_same k kb w
  have HE := Lib.hid (fun z hz hne => hK.other (i := k) (k := z) hk hz hne)
  have HI := Lib.hid hK.inj
  obtain ⟨M, hM⟩ := hmx
  have HMx := Lib.hid hM
  clear hK o hM
  go_enter Try.func99, Try.ntmps99
  go_wp2_with fail
  go_loopw [1] (fun v wr => ∃ y : Option Nat, v = ptrTo kb y ∧ (∀ z, y = some z → S z) ∧ Hid (F.Up k x ↔ ∃ z, y = some z ∧ F.Up k z) ∧ w = wr) (fun v _ => hgt S kb (fun y => M - ht y) v)
  case atStart => exact ⟨some x, rfl, fun z hz => by cases hz; exact hx, ⟨fun u => ⟨x, rfl, u⟩, by rintro ⟨z, hz, u⟩; cases hz; exact u⟩, rfl⟩
  case round =>
    obtain ⟨y, rfl, hS, HU, rfl⟩ := hrel
    cases y with
    | none =>
      simp only [ptrTo, Option.map_none]
      go_wp2_with fail
      go_ret
      exact ⟨by rw [Fo.upB_false (fun u => by obtain ⟨z, hz, _⟩ := HU.out.1 u; cases hz)]; rfl, rfl⟩
    | some y =>
      have hy := hS y rfl
      simp only [ptrTo, Option.map_some]
      by_cases e : y = k
      · subst e
        go_wp2_with fail
        go_ret
        exact ⟨by rw [Fo.upB_true (HU.out.2 ⟨y, rfl, .self⟩)]; rfl, rfl⟩
      · have e2 := HE.out y hy e
        obtain ⟨-, c6, -⟩ := HK.out.cells hy
        have HN : Hid (F.Up k x ↔ ∃ z, F.par y = some z ∧ F.Up k z) := ⟨fun u => by
          obtain ⟨z, hz, u2⟩ := HU.out.1 u
          cases hz
          cases u2 with
          | self => exact absurd rfl e
          | step h1 h2 => exact ⟨_, h1, h2⟩, fun ⟨z, hz, u⟩ => HU.out.2 ⟨y, rfl, .step hz u⟩⟩
        have HSp : Hid (∀ z, F.par y = some z → S z ∧ ht y < ht z) := fun z hz => ⟨(HO.out.dom _ _ hz).1, HO.out.ht _ _ hz⟩
        have HM : Hid (hgt S kb (fun y => M - ht y) (ptrTo kb (some y)) = M - ht y + 1) := hgt_at HI.out (fun y => M - ht y) hy
        clear hS e HU
        cases hp : F.par y with
        | none =>
          rw [hp] at c6
          have HM2 : Hid (hgt S kb (fun y => M - ht y) (ptrTo kb none) = 0) := hgt_nil S kb (fun y => M - ht y)
          simp only [ptrTo, Option.map_none] at c6
          have HN2 := HN
          rw [hp] at HN2
          clear HSp hp
          go_wp2_with fail
          go_roundw
          case rel => exact ⟨none, rfl, fun z hz => by (cases hz), HN2, by trivial⟩
          case measure => have := HM.out; have := HM2.out; simp only [ptrTo, Option.map_some, Option.map_none] at *; omega
        | some p =>
          obtain ⟨hSp, hlt⟩ := HSp.out p hp
          rw [hp] at c6
          have HM2 : Hid (hgt S kb (fun y => M - ht y) (ptrTo kb (some p)) = M - ht p + 1) := hgt_at HI.out (fun y => M - ht y) hSp
          simp only [ptrTo, Option.map_some] at c6
          have HN2 := HN
          rw [hp] at HN2
          clear HSp hp
          go_wp2_with fail
          go_roundw
          case rel => exact ⟨some p, rfl, fun z hz => by (cases hz; exact hSp), HN2, by trivial⟩
          case measure => have := HM.out; have := HM2.out; have := HMx.out p hSp; simp only [ptrTo, Option.map_some] at *; omega

theorem Kno.up_cell {F : Fo} {S : Nat → Prop} {nd : Nat → Nd} {pl : Nat → Int} {B : Nat} {kb : Nat → Nat} {w : World} (h : Kno F S nd pl B kb w) {i : Nat} (hi : S i) : w.cell? ⟨kb i, 6, none⟩ = some (ptrTo kb (F.par i)) := (h.cells hi).2.1

set_option maxRecDepth 100000 in
set_option maxHeartbeats 1000000 in
theorem stand_any {F : Fo} {S : Nat → Prop} {nd : Nat → Nd} {pl : Nat → Int} {B : Nat} {kb : Nat → Nat} (ms : List Nat) (hms : ∀ m ∈ ms, S m) (hl : ms.length ≤ 100000) (a : Option Addr) (c : Nat) (w : World) (hK : Kno F S nd pl B kb w) (h : RSl w w.heap.size a (ptrs kb ms)) :
    Calls Try.prog 93 #[.slice a ms.length c] w fun e w' => ∃ b, e = .returned (.bool b) ∧ (b = true → ∀ m ∈ ms, F.par m ≠ none) ∧ w = w' := by
  have HK := Lib.hid hK
  have HH := Lib.hid h
  have HM := Lib.hid hms
  clear hK h hms
  go_enter Try.func93, Try.ntmps93
  go_wp2_with fail
  go_loopw [3] (fun x wr => ∃ k : Nat, k ≤ ms.length ∧ x = .int .i64 k ∧ Hid (∀ i (hi : i < ms.length), i < k → F.par ms[i] ≠ none) ∧ w = wr) (fun x _ => ms.length - (intOf x).toNat)
  case atStart => exact ⟨0, by omega, rfl, (fun i _ h => by omega), rfl⟩
  case round =>
    obtain ⟨k, hk, rfl, hyes, rfl⟩ := hrel
    by_cases hlt : k < ms.length
    · obtain ⟨b, o, rfl, hbB, hc⟩ := HH.out.at_ (by rw [ptrs_length]; omega)
      have g1 := hc k (by rw [ptrs_length]; exact hlt)
      rw [ptrs_at hlt] at g1
      have g2 := HK.out.up_cell (HM.out ms[k] (List.getElem_mem hlt))
      obtain ⟨m, hm⟩ : ∃ m, m = ms[k] := ⟨_, rfl⟩
      rw [← hm] at g1 g2
      have HMk := Lib.hid hm
      clear hc hm
      cases hp : F.par m with
      | some p =>
        rw [hp] at g2
        simp only [ptrTo, Option.map_some] at g2
        have HY : Hid (∀ i (hi : i < ms.length), i < k + 1 → F.par ms[i] ≠ none) := fun i hi hik => by
          by_cases e2 : i = k
          · subst e2; rw [← HMk.out, hp]; simp
          · exact hyes.out i hi (by omega)
        clear hp
        go_wp2_with fail
        go_roundw
        case rel => exact ⟨k + 1, by omega, by go_num, HY, by trivial⟩
        case measure => simp [intOf]; omega
      | none =>
        rw [hp] at g2
        simp only [ptrTo, Option.map_none] at g2
        clear hp
        go_wp2_with fail
        go_ret
        exact ⟨false, rfl, by simp, rfl⟩
    · go_wp2_with fail
      go_ret
      refine ⟨true, rfl, fun _ m hm => ?_, rfl⟩
      obtain ⟨i, hi, rfl⟩ := List.getElem_of_mem hm
      exact hyes.out i hi (by omega)

def Apart (F : Fo) (ws xs : List Nat) : Prop := (∀ i j (hi : i < ws.length) (hj : j < ws.length), i ≠ j → ¬ F.Up ws[i] ws[j]) ∧ ∀ i j (hi : i < ws.length) (hj : j < xs.length), ¬ F.Up ws[i] xs[j]
def AptA (F : Fo) (ws : List Nat) (i n : Nat) : Prop := ∀ (hi : i < ws.length) j (hj : j < ws.length), j < n → i ≠ j → ¬ F.Up ws[i] ws[j]
def AptB (F : Fo) (ws xs : List Nat) (i n : Nat) : Prop := ∀ (hi : i < ws.length) j (hj : j < xs.length), j < n → ¬ F.Up ws[i] xs[j]

set_option maxRecDepth 100000 in
set_option maxHeartbeats 4000000 in
theorem apart_any {F : Fo} {S : Nat → Prop} {ht : Nat → Nat} (o : F.Ok S ht) {nd : Nat → Nd} {pl : Nat → Int} {B : Nat} {kb : Nat → Nat} (hmx : ∃ M, ∀ y, S y → ht y ≤ M) (ws xs : List Nat) (hws : ∀ m ∈ ws, S m) (hxs : ∀ m ∈ xs, S m) (hl : ws.length ≤ 100000) (hl2 : xs.length ≤ 100000) (a : Option Addr) (c : Nat) (a2 : Option Addr) (c2 : Nat) (w : World) (hK : Kno F S nd pl B kb w) (h : RSl w w.heap.size a (ptrs kb ws)) (h2 : RSl w w.heap.size a2 (ptrs kb xs)) :
    Calls Try.prog 92 #[.slice a ws.length c, .slice a2 xs.length c2] w fun e w' => ∃ b, e = .returned (.bool b) ∧ (b = true → Apart F ws xs) ∧ Below w.heap.size w w' := by
  have HK := Lib.hid hK
  have HH := Lib.hid h
  have HH2 := Lib.hid h2
  have HM := Lib.hid hws
  have HM2 := Lib.hid hxs
  have HC : Hid (∀ W, Below w.heap.size w W → ∀ k x, S k → S x → Calls Try.prog 99 #[.pointer (some ⟨kb k, 0, none⟩), .pointer (some ⟨kb x, 0, none⟩)] W fun e w' => e = .returned (.bool (F.upB k x)) ∧ w' = W) := fun W hb k x hk hx => holds_any o (hK.up hb) k x hk hx hmx
  clear hK h h2 hws hxs o hmx
  go_enter Try.func92, Try.ntmps92
  go_wp2_with fail
  go_loopw [5] (fun x wr => ∃ k : Nat, k ≤ ws.length ∧ x = .int .i64 k ∧ Hid (∀ i, i < k → AptA F ws i ws.length ∧ AptB F ws xs i xs.length) ∧ Below w.heap.size w wr) (fun x _ => ws.length - (intOf x).toNat)
  case atStart => exact ⟨0, by omega, rfl, (fun i h => by omega), Below.refl _ _⟩
  case round =>
    obtain ⟨k, hk, rfl, hyes, hb⟩ := hrel
    obtain ⟨W0, rfl⟩ : ∃ W0 : World, W0 = wr := ⟨_, rfl⟩
    have HB0 := Lib.hid hb
    clear hb
    by_cases hlt : k < ws.length
    · go_wp2_with fail
      go_loopw [6] (fun x wr => ∃ j : Nat, j ≤ ws.length ∧ x = .int .i64 j ∧ Hid (AptA F ws k j) ∧ Below w.heap.size w wr) (fun x _ => ws.length - (intOf x).toNat)
      case atStart => exact ⟨0, by omega, rfl, (fun _ j _ h => by omega), HB0.out⟩
      case round =>
        obtain ⟨j, hj, rfl, hay, hb⟩ := hrel
        have HB := Lib.hid hb
        obtain ⟨W1, rfl⟩ : ∃ W1 : World, W1 = wr := ⟨_, rfl⟩
        by_cases hlj : j < ws.length
        · obtain ⟨b, o, rfl, hbB, hc⟩ := (HH.out.up hb).at_ (by rw [ptrs_length]; omega)
          have g1 := hc k (by rw [ptrs_length]; exact hlt)
          have g2 := hc j (by rw [ptrs_length]; exact hlj)
          rw [ptrs_at hlt] at g1
          rw [ptrs_at hlj] at g2
          have HCk : Hid (∀ n, Calls Try.prog 99 #[.pointer (some ⟨kb ws[k], 0, none⟩), .pointer (some ⟨kb ws[j], 0, none⟩)] (W1.drewN n) fun e w' => e = .returned (.bool (F.upB ws[k] ws[j])) ∧ w' = W1.drewN n) := fun n => HC.out (W1.drewN n) (below_drewN HB.out n) _ _ (HM.out _ (List.getElem_mem hlt)) (HM.out _ (List.getElem_mem hlj))
          obtain ⟨B1, hB1⟩ : ∃ b, b = F.upB ws[k] ws[j] := ⟨_, rfl⟩
          have HB1 := Lib.hid hB1
          rw [← hB1] at HCk
          obtain ⟨x, hx⟩ : ∃ x, x = ws[k] := ⟨_, rfl⟩
          obtain ⟨y, hy⟩ : ∃ y, y = ws[j] := ⟨_, rfl⟩
          rw [← hx] at g1 HCk
          rw [← hy] at g2 HCk
          clear hc hb hB1 hx hy
          by_cases e : j = k
          · have e1 : ((j : Int) != (k : Int)) = false := by simp; omega
            have HN : Hid (AptA F ws k (j + 1)) := fun hi q hq hqj hne => by
              by_cases e2 : q = j
              · omega
              · exact hay.out hi q hq (by omega) hne
            clear e
            go_wp2_with fail
            go_quiet (first | (go_at_call 99; exact (HCk.out _).mono (fun _ _ hh => ⟨hh.1, _, hh.2⟩)))
            go_wp2_with fail
            go_roundw
            case rel => exact ⟨j + 1, by omega, by go_num, HN, below_drewN HB.out _⟩
            case measure => simp [intOf]; omega
          · have e1 : ((j : Int) != (k : Int)) = true := by simp; omega
            cases B1
            · have HN : Hid (AptA F ws k (j + 1)) := fun hi q hq hqj hne => by
                by_cases e2 : q = j
                · subst e2; exact Fo.upB_no HB1.out.symm
                · exact hay.out hi q hq (by omega) hne
              clear e
              go_wp2_with fail
              go_quiet (first | (go_at_call 99; exact (HCk.out _).mono (fun _ _ hh => ⟨hh.1, _, hh.2⟩)))
              go_wp2_with fail
              go_roundw
              case rel => exact ⟨j + 1, by omega, by go_num, HN, below_drewN HB.out _⟩
              case measure => simp [intOf]; omega
            · clear e
              go_wp2_with fail
              go_quiet (first | (go_at_call 99; exact (HCk.out _).mono (fun _ _ hh => ⟨hh.1, _, hh.2⟩)))
              go_wp2_with fail
              go_ret
              exact ⟨false, rfl, by simp, below_drewN HB.out _⟩
        · have HA : Hid (AptA F ws k ws.length) := fun hi q hq _ hne => hay.out hi q hq (by omega) hne
          clear hb hay
          go_wp2_with fail
          go_loopw [7] (fun x wr => ∃ j : Nat, j ≤ xs.length ∧ x = .int .i64 j ∧ Hid (AptB F ws xs k j) ∧ Below w.heap.size w wr) (fun x _ => xs.length - (intOf x).toNat)
          case atStart => exact ⟨0, by omega, rfl, (fun _ j _ h => by omega), HB.out⟩
          case round =>
            obtain ⟨q, hq, rfl, hby, hb⟩ := hrel
            have HB2 := Lib.hid hb
            obtain ⟨W2, rfl⟩ : ∃ W2 : World, W2 = wr := ⟨_, rfl⟩
            by_cases hlq : q < xs.length
            · obtain ⟨b, o, rfl, hbB, hc⟩ := (HH.out.up hb).at_ (by rw [ptrs_length]; omega)
              have g1 := hc k (by rw [ptrs_length]; exact hlt)
              rw [ptrs_at hlt] at g1
              obtain ⟨b2, o2, rfl, hbB2, hc2⟩ := (HH2.out.up hb).at_ (by rw [ptrs_length]; omega)
              have g2 := hc2 q (by rw [ptrs_length]; exact hlq)
              rw [ptrs_at hlq] at g2
              have HCk : Hid (∀ n, Calls Try.prog 99 #[.pointer (some ⟨kb ws[k], 0, none⟩), .pointer (some ⟨kb xs[q], 0, none⟩)] (W2.drewN n) fun e w' => e = .returned (.bool (F.upB ws[k] xs[q])) ∧ w' = W2.drewN n) := fun n => HC.out (W2.drewN n) (below_drewN HB2.out n) _ _ (HM.out _ (List.getElem_mem hlt)) (HM2.out _ (List.getElem_mem hlq))
              obtain ⟨B1, hB1⟩ : ∃ b, b = F.upB ws[k] xs[q] := ⟨_, rfl⟩
              have HB1 := Lib.hid hB1
              rw [← hB1] at HCk
              obtain ⟨x, hx⟩ : ∃ x, x = ws[k] := ⟨_, rfl⟩
              obtain ⟨y, hy⟩ : ∃ y, y = xs[q] := ⟨_, rfl⟩
              rw [← hx] at g1 HCk
              rw [← hy] at g2 HCk
              clear hc hc2 hb hB1 hx hy
              cases B1
              · have HN : Hid (AptB F ws xs k (q + 1)) := fun hi z hz hzj => by
                  by_cases e2 : z = q
                  · subst e2; exact Fo.upB_no HB1.out.symm
                  · exact hby.out hi z hz (by omega)
                go_wp2_with fail
                go_quiet (first | (go_at_call 99; exact (HCk.out _).mono (fun _ _ hh => ⟨hh.1, _, hh.2⟩)))
                go_wp2_with fail
                go_roundw
                case rel => exact ⟨q + 1, by omega, by go_num, HN, below_drewN HB2.out _⟩
                case measure => simp [intOf]; omega
              · go_wp2_with fail
                go_quiet (first | (go_at_call 99; exact (HCk.out _).mono (fun _ _ hh => ⟨hh.1, _, hh.2⟩)))
                go_wp2_with fail
                go_ret
                exact ⟨false, rfl, by simp, below_drewN HB2.out _⟩
            · have HN : Hid (∀ i, i < k + 1 → AptA F ws i ws.length ∧ AptB F ws xs i xs.length) := fun i hi => by
                by_cases e2 : i = k
                · subst e2; exact ⟨HA.out, fun hi z hz _ => hby.out hi z hz (by omega)⟩
                · exact hyes.out i (by omega)
              clear hb
              go_wp2_with fail
              go_roundw
              case rel => exact ⟨k + 1, by omega, by go_num, HN, HB2.out⟩
              case measure => simp [intOf]; omega
    · go_wp2_with fail
      go_ret
      refine ⟨true, rfl, fun _ => ⟨fun i j hi hj hne => (hyes.out i (by omega)).1 hi j hj hj hne, fun i j hi hj => (hyes.out i (by omega)).2 hi j hj hj⟩, HB0.out⟩
end Go.Proofs.Ytmhhfljbocbolaa

namespace Go.Proofs.Ytmhhfljbocbolaa
open Go.RowKit
set_option linter.unusedVariables false

def PutPost (F : Fo) (S : Nat → Prop) (nd : Nat → Nd) (pl : Nat → Int) (B : Nat) (kb : Nat → Nat) (p k x : Nat) (w : World) (e : Ending) (w' : World) : Prop :=
  e = .returned (.tuple #[]) ∧ Kno (F.put p k x) S nd pl B kb w' ∧ KTurn S kb w w'

def NopPost (w : World) (e : Ending) (w' : World) : Prop := e = .returned (.tuple #[]) ∧ w' = w

set_option maxRecDepth 100000 in
set_option maxHeartbeats 1000000 in
theorem cut_nop {F : Fo} {S : Nat → Prop} {nd : Nat → Nd} {pl : Nat → Int} {B : Nat} {kb : Nat → Nat} {w : World} (h : Kno F S nd pl B kb w) (i : Nat) (hi : S i) (hp : F.par i = none) :
    Calls Try.prog 73 #[.pointer (some ⟨kb i, 0, none⟩)] w (NopPost w) := by
  have HP := Lib.hid (place_none h i hi hp)
  clear h hp
  go_enter Try.func73, Try.ntmps73
  go_wp2_with fail
  refine HP.out.mono ?_
  rintro e w1 ⟨rfl, rfl⟩
  go_wp2_with fail
  go_end0
  exact ⟨rfl, rfl⟩

set_option maxRecDepth 100000 in
set_option maxHeartbeats 4000000 in
theorem put_n {F : Fo} {S : Nat → Prop} {nd : Nat → Nd} {pl : Nat → Int} {B : Nat} {kb : Nat → Nat} {w : World} (h : Kno F S nd pl B kb w) (hBw : B ≤ w.heap.size) (p x : Nat) (hSp : S p) (hSx : S x) (hpx : p ≠ x) (hx : F.par x = none) (l1 l2 : List Nat) (hk : F.kids p = l1 ++ l2) (hlen : (F.kids p).length ≤ 100000)
    (c7 : w.cell? ⟨kb p, 7, none⟩ = some (.slice none 0 0)) (e1 : l1 = []) (e2 : l2 = []) :
    Calls Try.prog 97 #[.pointer (some ⟨kb p, 0, none⟩), .int .i64 (l1.length : Nat), .pointer (some ⟨kb x, 0, none⟩)] w (PutPost F S nd pl B kb p l1.length x w) := by
  have HC := Lib.hid (cut_nop h x hSx hx)
  have HFn : Hid (∀ (w2 : World) (a2 : Option Addr) (c2 n : Nat) (L : List Nat), L = l1 ++ [x] ++ l2 → n = L.length → Below w.heap.size w w2 → w2.ownsRow w.heap.size 77 1 (.slice a2 n c2) n (ptrs kb L) →
      Kno (F.put p l1.length x) S nd pl B kb ((w2.setCell ⟨kb p, 7, none⟩ (.slice a2 n c2)).setCell ⟨kb x, 6, none⟩ (.pointer (some ⟨kb p, 0, none⟩))) ∧ KTurn S kb w ((w2.setCell ⟨kb p, 7, none⟩ (.slice a2 n c2)).setCell ⟨kb x, 6, none⟩ (.pointer (some ⟨kb p, 0, none⟩)))) := by
    intro w2 a2 c2 n L hL hn hb ho
    subst hn
    have hk1 := ((h.up hb).setKids hSp (own_base ho hBw)).setPar hSx (some p)
    have e : (F.setKids p L).setPar x (some p) = F.put p l1.length x := by
      refine Fo.ext2 (fun q => rfl) (fun q => ?_)
      show (if q = p then L else F.kids q) = (if q = p then insL (F.kids q) l1.length x else F.kids q)
      by_cases e : q = p
      · rw [if_pos e, if_pos e, e, hk, insL_split, hL]; simp
      · rw [if_neg e, if_neg e]
    rw [e] at hk1
    exact ⟨hk1, ((KTurn.of_below hb).set hSp 7 _).set hSx 6 _⟩
  have hne : kb p ≠ kb x := fun e => hpx (h.inj p x hSp hSx e)
  have hlp := h.lt hSp
  have hlx := h.lt hSx
  obtain ⟨pf, -⟩ := h.cells hSp
  obtain ⟨xf, x6, -⟩ := h.cells hSx
  rw [hx] at x6
  simp only [ptrTo, Option.map_none] at x6
  have HCell : Hid (∀ W, Below w.heap.size w W → W.cell? ⟨kb p, 7, none⟩ = some (.slice none 0 0) ∧ W.frozen? ⟨kb p, 7, none⟩ = false ∧ W.frozen? ⟨kb x, 6, none⟩ = false ∧ W.cell? ⟨kb x, 6, none⟩ = some (.pointer none)) := fun W hb => ⟨(hb.cell (p := ⟨kb p, _, none⟩) hlp).trans c7, (World.frozen?_of_block (hb.block _ hlp)).trans (pf 7), (World.frozen?_of_block (hb.block _ hlx)).trans (xf 6), (hb.cell (p := ⟨kb x, _, none⟩) hlx).trans x6⟩
  have HZ : Hid (∀ (w2 : World) (v : Value), w2.frozen? ⟨kb x, 6, none⟩ = false → w2.cell? ⟨kb x, 6, none⟩ = some (.pointer none) → (w2.setCell ⟨kb p, 7, none⟩ v).frozen? ⟨kb x, 6, none⟩ = false ∧ (w2.setCell ⟨kb p, 7, none⟩ v).cell? ⟨kb x, 6, none⟩ = some (.pointer none)) := fun w2 v h2 h3 => ⟨by rw [World.frozen?_setCell]; exact h2, by rw [World.cell?_setCell_far _ _ _ _ (by exact hne)]; exact h3⟩
  have hb0 : Below w.heap.size w (w.alloc (.cells #[] 77)) := (Below.refl _ _).alloc (Nat.le_refl _) _
  have HB0 := Lib.hid hb0
  have HE : Hid ((w.alloc (.cells #[] 77)).ownsRow w.heap.size 77 1 (.slice (some ⟨w.heap.size, 0, none⟩) 0 0) 0 []) := own_emptyS w 77 1
  have HB1 : Hid (∀ w1, (w.alloc (.cells #[] 77)).grownBy w1 (Value.slice (some ⟨w.heap.size, 0, none⟩) 0 0).ownBlock → Below w.heap.size w w1) := fun w1 hg => hb0.grown hg hb0.size (fun k e => by cases e; exact Nat.le_refl _)
  have HB2 : Hid (∀ w1 w2, Below w.heap.size w w1 → ∀ {v : Value} {n : Nat} {L : List Value}, w1.ownsRow w.heap.size 77 1 v n L → w1.grownBy w2 v.ownBlock → Below w.heap.size w w2) := fun w1 w2 hb v n L ho hg => hb.grown hg hb.size (fun k e => (ho.lt k e).1)
  have hc0 := (HCell.out w (Below.refl _ _)).1
  have hcA := (HCell.out _ hb0).1
  subst e1 e2
  have HR1 : Hid (∀ W, Below w.heap.size w W → RSl W W.heap.size none (ptrs kb [])) := fun W _ => .inl rfl
  have HR2 := HR1
  clear h hx hk hb0 pf xf x6 c7 
  go_enter Try.func97, Try.ntmps97
  go_wp2_with fail
  refine HC.out.mono ?_
  rintro e w1 ⟨rfl, rfl⟩
  go_wp2_with (at_builtin; refine wpList_append_kn _ rfl (.tmp 9) (.tmp 15) rfl kb w1.heap.size (.slice (some ⟨w1.heap.size, 0, none⟩) 0 0) [] rfl HE.out none 0 0 ([] : List Nat) rfl rfl (HR1.out _ HB0.out) (by first | omega | (simp only [List.length_nil] <;> omega)) (by simp) ?_)
  intro a1 c1 W1 hown1 hg1 _
  try simp only [List.nil_append] at hown1
  try simp only [List.nil_append]
  have hbb1 := HB1.out W1 hg1
  have HO1 := Lib.hid hown1
  have Hb1 := Lib.hid hbb1
  have hs1 := hbb1.size
  have HO1a : Hid ((W1.alloc (.cells #[.pointer (some ⟨kb x, 0, none⟩)] 77)).ownsRow w1.heap.size 77 1 (.slice a1 ([] : List Nat).length c1) ([] : List Nat).length (ptrs kb ([] : List Nat))) := hown1.alloc _
  have HRx : Hid (RSl (W1.alloc (.cells #[.pointer (some ⟨kb x, 0, none⟩)] 77)) (W1.alloc (.cells #[.pointer (some ⟨kb x, 0, none⟩)] 77)).heap.size (some ⟨W1.heap.size, 0, none⟩) (ptrs kb [x])) := by
    refine .inr ⟨W1.heap.size, 0, rfl, by simp, fun q hq => ?_⟩
    have e0 : q = 0 := by simp [ptrs] at hq; omega
    subst e0
    rw [World.cell?_alloc_mark]; rfl
  have Hb1a : Hid (Below w1.heap.size w1 (W1.alloc (.cells #[.pointer (some ⟨kb x, 0, none⟩)] 77))) := hbb1.alloc hbb1.size _
  have hs1a := Hb1a.out.size
  clear hg1 hown1 hbb1
  go_wp2_with (at_builtin; refine wpList_append_kn _ rfl (.tmp 17) (.tmp 19) rfl kb w1.heap.size (.slice a1 ([] : List Nat).length c1) ([] : List Nat) rfl HO1a.out (some ⟨W1.heap.size, 0, none⟩) 1 1 [x] rfl rfl HRx.out (by first | omega | (simp only [List.length_nil, List.length_cons] <;> omega)) hs1a ?_)
  intro a2 c2 W2 hown2 hg2 _
  have hbb2 := HB2.out _ W2 Hb1a.out HO1a.out hg2
  obtain ⟨X, hX⟩ : ∃ X, X = ([] : List Nat) ++ [x] := ⟨_, rfl⟩
  have HXl : Hid (X.length = ([] : List Nat).length + 1) := by rw [hX]; exact List.length_append
  have HO2 : Hid (W2.ownsRow w1.heap.size 77 1 (.slice a2 1 c2) X.length (ptrs kb X)) := by rw [HXl.out, hX]; exact hown2
  have HX := Lib.hid hX
  have Hb2 := Lib.hid hbb2
  have hs2 := hbb2.size
  obtain ⟨q7, -⟩ := HCell.out W2 hbb2
  have hXn : X.length ≤ 200000 := by have h9 := HXl.out; first | omega | (simp only [List.length_nil] at h9; omega)
  clear hg2 hown2 hbb2 hX
  go_wp2_with (at_builtin; refine wpList_append_kn _ rfl (.tmp 22) (.tmp 28) rfl kb w1.heap.size (.slice a2 1 c2) X rfl HO2.out none 0 0 ([] : List Nat) rfl rfl (HR2.out _ Hb2.out) (by first | omega | (simp only [List.length_nil] <;> omega)) hs2 ?_)
  intro a3 c3 W3 hown3 hg3 _
  have hbb3 := HB2.out W2 W3 Hb2.out HO2.out hg3
  obtain ⟨r7, f7, f6, x6⟩ := HCell.out W3 hbb3
  obtain ⟨f6b, x6b⟩ := HZ.out W3 (.slice a3 X.length c3) f6 x6
  have HO3 := Lib.hid hown3
  have Hb3 := Lib.hid hbb3
  clear hg3 hown3 hbb3 q7
  go_wp2_with fail
  go_end0
  exact ⟨rfl, HFn.out W3 a3 c3 X.length X (by rw [HX.out]; rfl) (by simp) Hb3.out HO3.out⟩

set_option maxRecDepth 100000 in
set_option maxHeartbeats 4000000 in
theorem put_b {F : Fo} {S : Nat → Prop} {nd : Nat → Nd} {pl : Nat → Int} {B : Nat} {kb : Nat → Nat} {w : World} (h : Kno F S nd pl B kb w) (hBw : B ≤ w.heap.size) (p x : Nat) (hSp : S p) (hSx : S x) (hpx : p ≠ x) (hx : F.par x = none) (l1 l2 : List Nat) (hk : F.kids p = l1 ++ l2) (hlen : (F.kids p).length ≤ 100000)
    (b off kc : Nat) (c7 : w.cell? ⟨kb p, 7, none⟩ = some (.slice (some ⟨b, off, none⟩) (F.kids p).length kc)) (hkc : (F.kids p).length ≤ kc) (hbB : b < w.heap.size) (hc : ∀ q (hq : q < (ptrs kb (F.kids p)).length), w.cell? ⟨b, off + q, none⟩ = some (ptrs kb (F.kids p))[q]) (hcap : ¬ kc = l1.length) :
    Calls Try.prog 97 #[.pointer (some ⟨kb p, 0, none⟩), .int .i64 (l1.length : Nat), .pointer (some ⟨kb x, 0, none⟩)] w (PutPost F S nd pl B kb p l1.length x w) := by
  have HC := Lib.hid (cut_nop h x hSx hx)
  have HFn : Hid (∀ (w2 : World) (a2 : Option Addr) (c2 n : Nat) (L : List Nat), L = l1 ++ [x] ++ l2 → n = L.length → Below w.heap.size w w2 → w2.ownsRow w.heap.size 77 1 (.slice a2 n c2) n (ptrs kb L) →
      Kno (F.put p l1.length x) S nd pl B kb ((w2.setCell ⟨kb p, 7, none⟩ (.slice a2 n c2)).setCell ⟨kb x, 6, none⟩ (.pointer (some ⟨kb p, 0, none⟩))) ∧ KTurn S kb w ((w2.setCell ⟨kb p, 7, none⟩ (.slice a2 n c2)).setCell ⟨kb x, 6, none⟩ (.pointer (some ⟨kb p, 0, none⟩)))) := by
    intro w2 a2 c2 n L hL hn hb ho
    subst hn
    have hk1 := ((h.up hb).setKids hSp (own_base ho hBw)).setPar hSx (some p)
    have e : (F.setKids p L).setPar x (some p) = F.put p l1.length x := by
      refine Fo.ext2 (fun q => rfl) (fun q => ?_)
      show (if q = p then L else F.kids q) = (if q = p then insL (F.kids q) l1.length x else F.kids q)
      by_cases e : q = p
      · rw [if_pos e, if_pos e, e, hk, insL_split, hL]; simp
      · rw [if_neg e, if_neg e]
    rw [e] at hk1
    exact ⟨hk1, ((KTurn.of_below hb).set hSp 7 _).set hSx 6 _⟩
  have hne : kb p ≠ kb x := fun e => hpx (h.inj p x hSp hSx e)
  have hlp := h.lt hSp
  have hlx := h.lt hSx
  obtain ⟨pf, -⟩ := h.cells hSp
  obtain ⟨xf, x6, -⟩ := h.cells hSx
  rw [hx] at x6
  simp only [ptrTo, Option.map_none] at x6
  have HCell : Hid (∀ W, Below w.heap.size w W → W.cell? ⟨kb p, 7, none⟩ = some (.slice (some ⟨b, off, none⟩) (F.kids p).length kc) ∧ W.frozen? ⟨kb p, 7, none⟩ = false ∧ W.frozen? ⟨kb x, 6, none⟩ = false ∧ W.cell? ⟨kb x, 6, none⟩ = some (.pointer none)) := fun W hb => ⟨(hb.cell (p := ⟨kb p, _, none⟩) hlp).trans c7, (World.frozen?_of_block (hb.block _ hlp)).trans (pf 7), (World.frozen?_of_block (hb.block _ hlx)).trans (xf 6), (hb.cell (p := ⟨kb x, _, none⟩) hlx).trans x6⟩
  have HZ : Hid (∀ (w2 : World) (v : Value), w2.frozen? ⟨kb x, 6, none⟩ = false → w2.cell? ⟨kb x, 6, none⟩ = some (.pointer none) → (w2.setCell ⟨kb p, 7, none⟩ v).frozen? ⟨kb x, 6, none⟩ = false ∧ (w2.setCell ⟨kb p, 7, none⟩ v).cell? ⟨kb x, 6, none⟩ = some (.pointer none)) := fun w2 v h2 h3 => ⟨by rw [World.frozen?_setCell]; exact h2, by rw [World.cell?_setCell_far _ _ _ _ (by exact hne)]; exact h3⟩
  have hb0 : Below w.heap.size w (w.alloc (.cells #[] 77)) := (Below.refl _ _).alloc (Nat.le_refl _) _
  have HB0 := Lib.hid hb0
  have HE : Hid ((w.alloc (.cells #[] 77)).ownsRow w.heap.size 77 1 (.slice (some ⟨w.heap.size, 0, none⟩) 0 0) 0 []) := own_emptyS w 77 1
  have HB1 : Hid (∀ w1, (w.alloc (.cells #[] 77)).grownBy w1 (Value.slice (some ⟨w.heap.size, 0, none⟩) 0 0).ownBlock → Below w.heap.size w w1) := fun w1 hg => hb0.grown hg hb0.size (fun k e => by cases e; exact Nat.le_refl _)
  have HB2 : Hid (∀ w1 w2, Below w.heap.size w w1 → ∀ {v : Value} {n : Nat} {L : List Value}, w1.ownsRow w.heap.size 77 1 v n L → w1.grownBy w2 v.ownBlock → Below w.heap.size w w2) := fun w1 w2 hb v n L ho hg => hb.grown hg hb.size (fun k e => (ho.lt k e).1)
  have hc0 := (HCell.out w (Below.refl _ _)).1
  have hcA := (HCell.out _ hb0).1
  have hkl : (F.kids p).length = l1.length + l2.length := by rw [hk, List.length_append]
  have HR1 : Hid (∀ W, Below w.heap.size w W → RSl W W.heap.size (some ⟨b, off, none⟩) (ptrs kb l1)) := by
    intro W hb
    rcases Nat.eq_zero_or_pos l1.length with h0 | h0
    · rw [List.eq_nil_of_length_eq_zero h0]; exact .inl rfl
    · refine .inr ⟨b, off, rfl, by have := hb.size; omega, fun q hq => ?_⟩
      rw [ptrs_length] at hq
      rw [hb.cell (p := ⟨b, _, none⟩) hbB, hc q (by rw [ptrs_length]; omega), ptrs_at hq, ptrs_at (by omega)]
      simp only [hk]
      rw [List.getElem_append_left hq]
  have HR2 : Hid (∀ W, Below w.heap.size w W → RSl W W.heap.size (some ⟨b, off + l1.length, none⟩) (ptrs kb l2)) := by
    intro W hb
    rcases Nat.eq_zero_or_pos l2.length with h0 | h0
    · rw [List.eq_nil_of_length_eq_zero h0]; exact .inl rfl
    · refine .inr ⟨b, off + l1.length, rfl, by have := hb.size; omega, fun q hq => ?_⟩
      rw [ptrs_length] at hq
      have e : off + l1.length + q = off + (l1.length + q) := by omega
      rw [e, hb.cell (p := ⟨b, _, none⟩) hbB, hc (l1.length + q) (by rw [ptrs_length]; omega), ptrs_at hq, ptrs_at (by omega)]
      simp only [hk]
      rw [List.getElem_append_right (by omega)]
      have e2 : l1.length + q - l1.length = q := by omega
      simp only [e2]
  have HL2 : Hid ((F.kids p).length - l1.length = l2.length) := by unfold Hid; omega
  have hL3 : l1.length + l2.length ≤ 100000 := by omega
  have hA1 : l1.length ≤ kc := by omega
  have hA2 : l1.length ≤ (F.kids p).length := by omega
  have hA3 : (0 : Int) ≤ (l1.length : Int) := by omega
  have hA5 : (l1.length : Int) ≤ ((F.kids p).length : Int) := by omega
  clear h hx hk hb0 pf xf x6 c7 hc hkl
  go_enter Try.func97, Try.ntmps97
  go_wp2_with fail
  refine HC.out.mono ?_
  rintro e w1 ⟨rfl, rfl⟩
  go_wp2_with (at_builtin; refine wpList_append_kn _ rfl (.tmp 9) (.tmp 15) rfl kb w1.heap.size (.slice (some ⟨w1.heap.size, 0, none⟩) 0 0) [] rfl HE.out (some ⟨b, off, none⟩) l1.length kc l1 rfl rfl (HR1.out _ HB0.out) (by first | omega | (simp only [List.length_nil] <;> omega)) (by simp) ?_)
  intro a1 c1 W1 hown1 hg1 _
  try simp only [List.nil_append] at hown1
  try simp only [List.nil_append]
  have hbb1 := HB1.out W1 hg1
  have HO1 := Lib.hid hown1
  have Hb1 := Lib.hid hbb1
  have hs1 := hbb1.size
  have HO1a : Hid ((W1.alloc (.cells #[.pointer (some ⟨kb x, 0, none⟩)] 77)).ownsRow w1.heap.size 77 1 (.slice a1 l1.length c1) l1.length (ptrs kb l1)) := hown1.alloc _
  have HRx : Hid (RSl (W1.alloc (.cells #[.pointer (some ⟨kb x, 0, none⟩)] 77)) (W1.alloc (.cells #[.pointer (some ⟨kb x, 0, none⟩)] 77)).heap.size (some ⟨W1.heap.size, 0, none⟩) (ptrs kb [x])) := by
    refine .inr ⟨W1.heap.size, 0, rfl, by simp, fun q hq => ?_⟩
    have e0 : q = 0 := by simp [ptrs] at hq; omega
    subst e0
    rw [World.cell?_alloc_mark]; rfl
  have Hb1a : Hid (Below w1.heap.size w1 (W1.alloc (.cells #[.pointer (some ⟨kb x, 0, none⟩)] 77))) := hbb1.alloc hbb1.size _
  have hs1a := Hb1a.out.size
  clear hg1 hown1 hbb1
  go_wp2_with (at_builtin; refine wpList_append_kn _ rfl (.tmp 17) (.tmp 19) rfl kb w1.heap.size (.slice a1 l1.length c1) l1 rfl HO1a.out (some ⟨W1.heap.size, 0, none⟩) 1 1 [x] rfl rfl HRx.out (by first | omega | (simp only [List.length_nil, List.length_cons] <;> omega)) hs1a ?_)
  intro a2 c2 W2 hown2 hg2 _
  have hbb2 := HB2.out _ W2 Hb1a.out HO1a.out hg2
  obtain ⟨X, hX⟩ : ∃ X, X = l1 ++ [x] := ⟨_, rfl⟩
  have HXl : Hid (X.length = l1.length + 1) := by rw [hX]; exact List.length_append
  have HO2 : Hid (W2.ownsRow w1.heap.size 77 1 (.slice a2 (l1.length + 1) c2) X.length (ptrs kb X)) := by rw [HXl.out, hX]; exact hown2
  have HX := Lib.hid hX
  have Hb2 := Lib.hid hbb2
  have hs2 := hbb2.size
  obtain ⟨q7, -⟩ := HCell.out W2 hbb2
  have hXn : X.length ≤ 200000 := by have h9 := HXl.out; first | omega | (simp only [List.length_nil] at h9; omega)
  clear hg2 hown2 hbb2 hX
  go_wp2_with (at_builtin; refine wpList_append_kn _ rfl (.tmp 22) (.tmp 28) rfl kb w1.heap.size (.slice a2 (l1.length + 1) c2) X rfl HO2.out (some ⟨b, off + l1.length, none⟩) ((F.kids p).length - l1.length) (kc - l1.length) l2 HL2.out rfl (HR2.out _ Hb2.out) (by first | omega | (simp only [List.length_nil] <;> omega)) hs2 ?_)
  intro a3 c3 W3 hown3 hg3 _
  have hbb3 := HB2.out W2 W3 Hb2.out HO2.out hg3
  obtain ⟨r7, f7, f6, x6⟩ := HCell.out W3 hbb3
  obtain ⟨f6b, x6b⟩ := HZ.out W3 (.slice a3 (X.length + l2.length) c3) f6 x6
  have HO3 := Lib.hid hown3
  have Hb3 := Lib.hid hbb3
  clear hg3 hown3 hbb3 q7
  go_wp2_with fail
  go_end0
  exact ⟨rfl, HFn.out W3 a3 c3 (X.length + l2.length) (X ++ l2) (by rw [HX.out]) (by simp) Hb3.out HO3.out⟩

set_option maxRecDepth 100000 in
set_option maxHeartbeats 4000000 in
theorem put_a {F : Fo} {S : Nat → Prop} {nd : Nat → Nd} {pl : Nat → Int} {B : Nat} {kb : Nat → Nat} {w : World} (h : Kno F S nd pl B kb w) (hBw : B ≤ w.heap.size) (p x : Nat) (hSp : S p) (hSx : S x) (hpx : p ≠ x) (hx : F.par x = none) (l1 l2 : List Nat) (hk : F.kids p = l1 ++ l2) (hlen : (F.kids p).length ≤ 100000)
    (b off kc : Nat) (c7 : w.cell? ⟨kb p, 7, none⟩ = some (.slice (some ⟨b, off, none⟩) (F.kids p).length kc)) (hkc : (F.kids p).length ≤ kc) (hbB : b < w.heap.size) (hc : ∀ q (hq : q < (ptrs kb (F.kids p)).length), w.cell? ⟨b, off + q, none⟩ = some (ptrs kb (F.kids p))[q]) (hcap : kc = l1.length) :
    Calls Try.prog 97 #[.pointer (some ⟨kb p, 0, none⟩), .int .i64 (l1.length : Nat), .pointer (some ⟨kb x, 0, none⟩)] w (PutPost F S nd pl B kb p l1.length x w) := by
  have HC := Lib.hid (cut_nop h x hSx hx)
  have HFn : Hid (∀ (w2 : World) (a2 : Option Addr) (c2 n : Nat) (L : List Nat), L = l1 ++ [x] ++ l2 → n = L.length → Below w.heap.size w w2 → w2.ownsRow w.heap.size 77 1 (.slice a2 n c2) n (ptrs kb L) →
      Kno (F.put p l1.length x) S nd pl B kb ((w2.setCell ⟨kb p, 7, none⟩ (.slice a2 n c2)).setCell ⟨kb x, 6, none⟩ (.pointer (some ⟨kb p, 0, none⟩))) ∧ KTurn S kb w ((w2.setCell ⟨kb p, 7, none⟩ (.slice a2 n c2)).setCell ⟨kb x, 6, none⟩ (.pointer (some ⟨kb p, 0, none⟩)))) := by
    intro w2 a2 c2 n L hL hn hb ho
    subst hn
    have hk1 := ((h.up hb).setKids hSp (own_base ho hBw)).setPar hSx (some p)
    have e : (F.setKids p L).setPar x (some p) = F.put p l1.length x := by
      refine Fo.ext2 (fun q => rfl) (fun q => ?_)
      show (if q = p then L else F.kids q) = (if q = p then insL (F.kids q) l1.length x else F.kids q)
      by_cases e : q = p
      · rw [if_pos e, if_pos e, e, hk, insL_split, hL]; simp
      · rw [if_neg e, if_neg e]
    rw [e] at hk1
    exact ⟨hk1, ((KTurn.of_below hb).set hSp 7 _).set hSx 6 _⟩
  have hne : kb p ≠ kb x := fun e => hpx (h.inj p x hSp hSx e)
  have hlp := h.lt hSp
  have hlx := h.lt hSx
  obtain ⟨pf, -⟩ := h.cells hSp
  obtain ⟨xf, x6, -⟩ := h.cells hSx
  rw [hx] at x6
  simp only [ptrTo, Option.map_none] at x6
  have HCell : Hid (∀ W, Below w.heap.size w W → W.cell? ⟨kb p, 7, none⟩ = some (.slice (some ⟨b, off, none⟩) (F.kids p).length kc) ∧ W.frozen? ⟨kb p, 7, none⟩ = false ∧ W.frozen? ⟨kb x, 6, none⟩ = false ∧ W.cell? ⟨kb x, 6, none⟩ = some (.pointer none)) := fun W hb => ⟨(hb.cell (p := ⟨kb p, _, none⟩) hlp).trans c7, (World.frozen?_of_block (hb.block _ hlp)).trans (pf 7), (World.frozen?_of_block (hb.block _ hlx)).trans (xf 6), (hb.cell (p := ⟨kb x, _, none⟩) hlx).trans x6⟩
  have HZ : Hid (∀ (w2 : World) (v : Value), w2.frozen? ⟨kb x, 6, none⟩ = false → w2.cell? ⟨kb x, 6, none⟩ = some (.pointer none) → (w2.setCell ⟨kb p, 7, none⟩ v).frozen? ⟨kb x, 6, none⟩ = false ∧ (w2.setCell ⟨kb p, 7, none⟩ v).cell? ⟨kb x, 6, none⟩ = some (.pointer none)) := fun w2 v h2 h3 => ⟨by rw [World.frozen?_setCell]; exact h2, by rw [World.cell?_setCell_far _ _ _ _ (by exact hne)]; exact h3⟩
  have hb0 : Below w.heap.size w (w.alloc (.cells #[] 77)) := (Below.refl _ _).alloc (Nat.le_refl _) _
  have HB0 := Lib.hid hb0
  have HE : Hid ((w.alloc (.cells #[] 77)).ownsRow w.heap.size 77 1 (.slice (some ⟨w.heap.size, 0, none⟩) 0 0) 0 []) := own_emptyS w 77 1
  have HB1 : Hid (∀ w1, (w.alloc (.cells #[] 77)).grownBy w1 (Value.slice (some ⟨w.heap.size, 0, none⟩) 0 0).ownBlock → Below w.heap.size w w1) := fun w1 hg => hb0.grown hg hb0.size (fun k e => by cases e; exact Nat.le_refl _)
  have HB2 : Hid (∀ w1 w2, Below w.heap.size w w1 → ∀ {v : Value} {n : Nat} {L : List Value}, w1.ownsRow w.heap.size 77 1 v n L → w1.grownBy w2 v.ownBlock → Below w.heap.size w w2) := fun w1 w2 hb v n L ho hg => hb.grown hg hb.size (fun k e => (ho.lt k e).1)
  have hc0 := (HCell.out w (Below.refl _ _)).1
  have hcA := (HCell.out _ hb0).1
  have hkl : (F.kids p).length = l1.length + l2.length := by rw [hk, List.length_append]
  have hl20 : l2 = [] := List.eq_nil_of_length_eq_zero (by omega)
  have HR1 : Hid (∀ W, Below w.heap.size w W → RSl W W.heap.size (some ⟨b, off, none⟩) (ptrs kb l1)) := by
    intro W hb
    rcases Nat.eq_zero_or_pos l1.length with h0 | h0
    · rw [List.eq_nil_of_length_eq_zero h0]; exact .inl rfl
    · refine .inr ⟨b, off, rfl, by have := hb.size; omega, fun q hq => ?_⟩
      rw [ptrs_length] at hq
      rw [hb.cell (p := ⟨b, _, none⟩) hbB, hc q (by rw [ptrs_length]; omega), ptrs_at hq, ptrs_at (by omega)]
      simp only [hk]
      rw [List.getElem_append_left hq]
  have HR2 : Hid (∀ W, Below w.heap.size w W → RSl W W.heap.size (some ⟨b, off, none⟩) (ptrs kb l2)) := fun W _ => by rw [hl20]; exact .inl rfl
  have HL2 : Hid (0 = l2.length) := by rw [hl20]; rfl
  have hL3 : l1.length + l2.length ≤ 100000 := by omega
  subst hcap
  have hA2 : l1.length ≤ (F.kids p).length := by omega
  have hA3 : (0 : Int) ≤ (l1.length : Int) := by omega
  have hA5 : (l1.length : Int) ≤ ((F.kids p).length : Int) := by omega
  clear h hx hk hb0 pf xf x6 c7 hc hkl hl20
  go_enter Try.func97, Try.ntmps97
  go_wp2_with fail
  refine HC.out.mono ?_
  rintro e w1 ⟨rfl, rfl⟩
  go_wp2_with (at_builtin; refine wpList_append_kn _ rfl (.tmp 9) (.tmp 15) rfl kb w1.heap.size (.slice (some ⟨w1.heap.size, 0, none⟩) 0 0) [] rfl HE.out (some ⟨b, off, none⟩) l1.length l1.length l1 rfl rfl (HR1.out _ HB0.out) (by first | omega | (simp only [List.length_nil] <;> omega)) (by simp) ?_)
  intro a1 c1 W1 hown1 hg1 _
  try simp only [List.nil_append] at hown1
  try simp only [List.nil_append]
  have hbb1 := HB1.out W1 hg1
  have HO1 := Lib.hid hown1
  have Hb1 := Lib.hid hbb1
  have hs1 := hbb1.size
  have HO1a : Hid ((W1.alloc (.cells #[.pointer (some ⟨kb x, 0, none⟩)] 77)).ownsRow w1.heap.size 77 1 (.slice a1 l1.length c1) l1.length (ptrs kb l1)) := hown1.alloc _
  have HRx : Hid (RSl (W1.alloc (.cells #[.pointer (some ⟨kb x, 0, none⟩)] 77)) (W1.alloc (.cells #[.pointer (some ⟨kb x, 0, none⟩)] 77)).heap.size (some ⟨W1.heap.size, 0, none⟩) (ptrs kb [x])) := by
    refine .inr ⟨W1.heap.size, 0, rfl, by simp, fun q hq => ?_⟩
    have e0 : q = 0 := by simp [ptrs] at hq; omega
    subst e0
    rw [World.cell?_alloc_mark]; rfl
  have Hb1a : Hid (Below w1.heap.size w1 (W1.alloc (.cells #[.pointer (some ⟨kb x, 0, none⟩)] 77))) := hbb1.alloc hbb1.size _
  have hs1a := Hb1a.out.size
  clear hg1 hown1 hbb1
  go_wp2_with (at_builtin; refine wpList_append_kn _ rfl (.tmp 17) (.tmp 19) rfl kb w1.heap.size (.slice a1 l1.length c1) l1 rfl HO1a.out (some ⟨W1.heap.size, 0, none⟩) 1 1 [x] rfl rfl HRx.out (by first | omega | (simp only [List.length_nil, List.length_cons] <;> omega)) hs1a ?_)
  intro a2 c2 W2 hown2 hg2 _
  have hbb2 := HB2.out _ W2 Hb1a.out HO1a.out hg2
  obtain ⟨X, hX⟩ : ∃ X, X = l1 ++ [x] := ⟨_, rfl⟩
  have HXl : Hid (X.length = l1.length + 1) := by rw [hX]; exact List.length_append
  have HO2 : Hid (W2.ownsRow w1.heap.size 77 1 (.slice a2 (l1.length + 1) c2) X.length (ptrs kb X)) := by rw [HXl.out, hX]; exact hown2
  have HX := Lib.hid hX
  have Hb2 := Lib.hid hbb2
  have hs2 := hbb2.size
  obtain ⟨q7, -⟩ := HCell.out W2 hbb2
  have hXn : X.length ≤ 200000 := by have h9 := HXl.out; first | omega | (simp only [List.length_nil] at h9; omega)
  clear hg2 hown2 hbb2 hX
  go_wp2_with (at_builtin; refine wpList_append_kn _ rfl (.tmp 22) (.tmp 28) rfl kb w1.heap.size (.slice a2 (l1.length + 1) c2) X rfl HO2.out (some ⟨b, off, none⟩) 0 0 l2 HL2.out rfl (HR2.out _ Hb2.out) (by first | omega | (simp only [List.length_nil] <;> omega)) hs2 ?_)
  intro a3 c3 W3 hown3 hg3 _
  have hbb3 := HB2.out W2 W3 Hb2.out HO2.out hg3
  obtain ⟨r7, f7, f6, x6⟩ := HCell.out W3 hbb3
  obtain ⟨f6b, x6b⟩ := HZ.out W3 (.slice a3 (X.length + l2.length) c3) f6 x6
  have HO3 := Lib.hid hown3
  have Hb3 := Lib.hid hbb3
  clear hg3 hown3 hbb3 q7
  go_wp2_with fail
  go_end0
  exact ⟨rfl, HFn.out W3 a3 c3 (X.length + l2.length) (X ++ l2) (by rw [HX.out]) (by simp) Hb3.out HO3.out⟩

theorem put_any {F : Fo} {S : Nat → Prop} {nd : Nat → Nd} {pl : Nat → Int} {B : Nat} {kb : Nat → Nat} {w : World} (h : Kno F S nd pl B kb w) (hBw : B ≤ w.heap.size) (p x : Nat) (hSp : S p) (hSx : S x) (hpx : p ≠ x) (hx : F.par x = none) (l1 l2 : List Nat) (hk : F.kids p = l1 ++ l2) (hlen : (F.kids p).length ≤ 100000) :
    Calls Try.prog 97 #[.pointer (some ⟨kb p, 0, none⟩), .int .i64 (l1.length : Nat), .pointer (some ⟨kb x, 0, none⟩)] w (PutPost F S nd pl B kb p l1.length x w) := by
  obtain ⟨-, -, -, ka, kc, c7, hkc, hown⟩ := h.cells hSp
  rcases hown.2 with ⟨e, e2⟩ | ⟨g, cap, cur, e, hg, hh, hn, hm, hz, ht⟩
  · rw [e] at c7
    have e3 : F.kids p = [] := List.eq_nil_of_length_eq_zero e2
    rw [hk, List.append_eq_nil_iff] at e3
    exact put_n h hBw p x hSp hSx hpx hx l1 l2 hk hlen c7 e3.1 e3.2
  · injection e with e1 _ e3
    subst e1 e3
    have hc : ∀ q (hq : q < (ptrs kb (F.kids p)).length), w.cell? ⟨g, 0 + q, none⟩ = some (ptrs kb (F.kids p))[q] := fun q hq => by
      have := hown.cells (g := g) rfl q (ptrs kb (F.kids p))[q] (List.getElem?_eq_getElem hq)
      rw [Addr.add_lit] at this
      exact this
    have hgB := (Array.getElem?_eq_some_iff.1 hh).1
    by_cases hcap : kc = l1.length
    · exact put_a h hBw p x hSp hSx hpx hx l1 l2 hk hlen g 0 kc c7 hkc hgB hc hcap
    · exact put_b h hBw p x hSp hSx hpx hx l1 l2 hk hlen g 0 kc c7 hkc hgB hc hcap
end Go.Proofs.Ytmhhfljbocbolaa

namespace Go.Proofs.Ytmhhfljbocbolaa
open Go.RowKit
set_option linter.unusedVariables false

/-- A row of nodes put beneath another one, at a place. -/
def Fo.putRow (F : Fo) (p k : Nat) (L : List Nat) : Fo := ⟨fun i => if i ∈ L then some p else F.par i, fun q => if q = p then (F.kids q).take k ++ L ++ (F.kids q).drop k else F.kids q⟩

theorem putRow_nil (F : Fo) (p k : Nat) : F.putRow p k [] = F := by
  refine Fo.ext2 (fun i => ?_) (fun q => ?_)
  · show (if i ∈ ([] : List Nat) then some p else F.par i) = _; simp
  · show (if q = p then _ else _) = _
    by_cases e : q = p
    · rw [if_pos e]; simp
    · rw [if_neg e]

theorem putRow_snoc (F : Fo) (p : Nat) {l1 l2 : List Nat} (hk : F.kids p = l1 ++ l2) (L : List Nat) (x : Nat) : (F.putRow p l1.length L).put p (l1 ++ L).length x = F.putRow p l1.length (L ++ [x]) := by
  refine Fo.ext2 (fun i => ?_) (fun q => ?_)
  · show (if i = x then some p else if i ∈ L then some p else F.par i) = (if i ∈ L ++ [x] then some p else F.par i)
    by_cases e : i = x
    · simp [e]
    · simp [e]
  · show (if q = p then insL (if q = p then _ else _) _ x else (if q = p then _ else _)) = (if q = p then _ else _)
    by_cases e : q = p
    · subst e
      simp only [if_true]
      rw [hk, List.take_left, List.drop_left, insL_split]
      simp
    · simp only [if_neg e]

theorem putRow_kids (F : Fo) (p : Nat) {l1 l2 : List Nat} (hk : F.kids p = l1 ++ l2) (L : List Nat) : (F.putRow p l1.length L).kids p = l1 ++ L ++ l2 := by
  show (if p = p then _ else _) = _
  rw [if_pos rfl, hk, List.take_left, List.drop_left]

def InsAt (op : Int) (F : Fo) (x p : Nat) (l1 l2 : List Nat) : Prop := (op = 1 ∧ p = x ∧ l2 = []) ∨ (op = 2 ∧ p = x ∧ l1 = []) ∨ (op = 4 ∧ F.par x = some p ∧ l2.head? = some x)

def InsedPost (F : Fo) (S : Nat → Prop) (nd : Nat → Nd) (pl : Nat → Int) (B : Nat) (kb : Nat → Nat) (p k : Nat) (L : List Nat) (w : World) (e : Ending) (w' : World) : Prop :=
  e = .returned (.tuple #[]) ∧ Kno (F.putRow p k L) S nd pl B kb w' ∧ KTurn S kb w w'

theorem KTurn.kept_B {S : Nat → Prop} {kb : Nat → Nat} {w w' : World} (h : KTurn S kb w w') {B : Nat} (hB : B ≤ w.heap.size) : B ≤ w'.heap.size := Nat.le_trans hB h.size

set_option maxRecDepth 100000 in
set_option maxHeartbeats 4000000 in
theorem inserted_any {F : Fo} {S : Nat → Prop} {ht : Nat → Nat} (o : F.Ok S ht) {nd : Nat → Nd} {pl : Nat → Int} {B : Nat} {kb : Nat → Nat} {w : World} (h : Kno F S nd pl B kb w) (hBw : B ≤ w.heap.size) (op : Int) (x p : Nat) (l1 l2 : List Nat) (hop : InsAt op F x p l1 l2) (hSx : S x) (hSp : S p) (hk : F.kids p = l1 ++ l2) (hlen : (F.kids p).length ≤ 90000)
    (L : List Nat) (hL : ∀ y ∈ L, S y ∧ F.par y = none ∧ p ≠ y) (hLn : L.Nodup) (hLl : L.length ≤ 1000) (base : Nat) (a : Option Addr) (c : Nat) (hown : w.ownsRow base 77 1 (.slice a L.length c) L.length (ptrs kb L)) (fv : Value) :
    Calls Try.prog 95 #[fv, .int .i64 op, .pointer (some ⟨kb x, 0, none⟩), .slice a L.length c] w (InsedPost F S nd pl B kb p l1.length L w) := by
  have hkl : (F.kids p).length = l1.length + l2.length := by rw [hk, List.length_append]
  have hk1 : l1.length ≤ 90000 := by omega
  have hk2 : l2.length ≤ 90000 := by omega
  have hPut : ∀ i, (hi : i < L.length) → ∀ W, KTurn S kb w W → Kno (F.putRow p l1.length (L.take i)) S nd pl B kb W → Calls Try.prog 97 #[.pointer (some ⟨kb p, 0, none⟩), .int .i64 ((l1.length : Int) + (i : Int)), .pointer (some ⟨kb L[i], 0, none⟩)] W (InsedPost F S nd pl B kb p l1.length (L.take (i + 1)) W) := by
    intro i hi W hT hK
    obtain ⟨y1, y2, y3⟩ := hL L[i] (List.getElem_mem hi)
    have hpar : (F.putRow p l1.length (L.take i)).par L[i] = none := by
      show (if L[i] ∈ L.take i then _ else _) = _
      rw [if_neg, y2]
      intro hm
      obtain ⟨q, hq, e⟩ := List.getElem_of_mem hm
      rw [List.getElem_take] at e
      have := (List.getElem_inj hLn).1 e
      simp only [List.length_take] at hq
      omega
    have := put_any hK (hT.kept_B hBw) p L[i] hSp y1 y3 hpar (l1 ++ L.take i) l2 (putRow_kids F p hk _) (by rw [putRow_kids F p hk]; simp only [List.length_append, List.length_take]; omega)
    have e : (((l1 ++ L.take i).length : Nat) : Int) = (l1.length : Int) + (i : Int) := by simp only [List.length_append, List.length_take]; omega
    rw [e] at this
    refine this.mono ?_
    rintro e w' ⟨rfl, k1, k2⟩
    rw [putRow_snoc F p hk, ← List.take_succ_eq_append_getElem hi] at k1
    exact ⟨rfl, k1, k2⟩
  have HPut := Lib.hid hPut
  have hrow : ∀ W, KTurn S kb w W → RSl W W.heap.size a (ptrs kb L) := fun W hT => by
    have := hT.own hown (fun i hi => by obtain ⟨_, aa, ac, ka, kc, h1, _⟩ := h.node i hi; exact own_ne hown h1 (by decide))
    obtain ⟨_, _, hv, _, hrs⟩ := RSl.own this
    cases hv
    exact hrs
  have HRow := Lib.hid hrow
  have HK0 : Hid (Kno (F.putRow p l1.length (L.take 0)) S nd pl B kb w) := by rw [Hid, List.take_zero, putRow_nil]; exact h
  have HEnd : Hid (∀ i, ¬ (i < L.length) → L.take i = L) := fun i hi => List.take_of_length_le (by omega)
  rcases hop with ⟨rfl, rfl, rfl⟩ | ⟨rfl, rfl, rfl⟩ | ⟨rfl, hpx, hhd⟩
  · obtain ⟨-, -, -, ka, kc, c7, -⟩ := h.cells hSx
    have e7 : (F.kids p).length = l1.length := by omega
    rw [e7] at c7
    obtain ⟨k, hke⟩ : ∃ k, k = l1.length := ⟨_, rfl⟩
    rw [← hke] at c7 HPut HK0 hk1 ⊢
    clear hPut hrow hown h o hk hkl hlen e7 hke hL hLn
    go_enter Try.func95, Try.ntmps95
    go_wp2_with fail
    go_loopw [10] (fun v wr => ∃ i : Nat, i ≤ L.length ∧ v = .int .i64 i ∧ Kno (F.putRow p k (L.take i)) S nd pl B kb wr ∧ KTurn S kb w wr) (fun v _ => L.length - (intOf v).toNat)
    case atStart => exact ⟨0, Nat.zero_le _, rfl, HK0.out, KTurn.refl _ _ _⟩
    case round =>
      obtain ⟨i, hi, rfl, hK, hT⟩ := hrel
      by_cases hlt : i < L.length
      · obtain ⟨b, o, rfl, hbB, hc⟩ := (HRow.out wr hT).at_ (by rw [ptrs_length]; omega)
        have g1 := hc i (by rw [ptrs_length]; exact hlt)
        rw [ptrs_at hlt] at g1
        have HCall := Lib.hid (HPut.out i hlt wr hT hK)
        have HT := Lib.hid hT
        obtain ⟨y, hy⟩ : ∃ y, y = L[i] := ⟨_, rfl⟩
        rw [← hy] at g1 HCall
        clear hc hy hK hT
        go_wp2_with fail
        refine HCall.out.mono ?_
        rintro e w2 ⟨rfl, hK2, hT2⟩
        have HT2 := Lib.hid (HT.out.trans hT2)
        have HK2 := Lib.hid hK2
        clear hK2 hT2 g1
        go_wp2_with fail
        go_roundw
        case rel => exact ⟨i + 1, by omega, by go_num, HK2.out, HT2.out⟩
        case measure => simp [intOf]; omega
      · have HT := Lib.hid hT
        have HK2 : Hid (Kno (F.putRow p k L) S nd pl B kb wr) := by have := hK; rw [HEnd.out i hlt] at this; exact this
        clear hK hT
        go_wp2_with fail
        go_end0
        exact ⟨rfl, HK2.out, HT.out⟩
  · have HP2 : Hid (∀ i, (hi : i < L.length) → ∀ W, KTurn S kb w W → Kno (F.putRow p 0 (L.take i)) S nd pl B kb W → Calls Try.prog 97 #[.pointer (some ⟨kb p, 0, none⟩), .int .i64 (i : Int), .pointer (some ⟨kb L[i], 0, none⟩)] W (InsedPost F S nd pl B kb p 0 (L.take (i + 1)) W)) := fun i hi W hT hK => by
      have := HPut.out i hi W hT hK
      have e : ((([] : List Nat).length : Nat) : Int) + (i : Int) = i := by simp
      rw [e] at this
      exact this
    clear HPut hPut
    have HPut := HP2
    clear HP2
    simp only [List.length_nil] at HK0 ⊢
    clear hrow hown h o hk hkl hlen hL hLn
    go_enter Try.func95, Try.ntmps95
    go_wp2_with fail
    go_loopw [10] (fun v wr => ∃ i : Nat, i ≤ L.length ∧ v = .int .i64 i ∧ Kno (F.putRow p 0 (L.take i)) S nd pl B kb wr ∧ KTurn S kb w wr) (fun v _ => L.length - (intOf v).toNat)
    case atStart => exact ⟨0, Nat.zero_le _, rfl, HK0.out, KTurn.refl _ _ _⟩
    case round =>
      obtain ⟨i, hi, rfl, hK, hT⟩ := hrel
      by_cases hlt : i < L.length
      · obtain ⟨b, o, rfl, hbB, hc⟩ := (HRow.out wr hT).at_ (by rw [ptrs_length]; omega)
        have g1 := hc i (by rw [ptrs_length]; exact hlt)
        rw [ptrs_at hlt] at g1
        have HCall := Lib.hid (HPut.out i hlt wr hT hK)
        have HT := Lib.hid hT
        obtain ⟨y, hy⟩ : ∃ y, y = L[i] := ⟨_, rfl⟩
        rw [← hy] at g1 HCall
        clear hc hy hK hT
        go_wp2_with fail
        refine HCall.out.mono ?_
        rintro e w2 ⟨rfl, hK2, hT2⟩
        have HT2 := Lib.hid (HT.out.trans hT2)
        have HK2 := Lib.hid hK2
        clear hK2 hT2 g1
        go_wp2_with fail
        go_roundw
        case rel => exact ⟨i + 1, by omega, by go_num, HK2.out, HT2.out⟩
        case measure => simp [intOf]; omega
      · have HT := Lib.hid hT
        have HK2 : Hid (Kno (F.putRow p 0 L) S nd pl B kb wr) := by have := hK; rw [HEnd.out i hlt] at this; exact this
        clear hK hT
        go_wp2_with fail
        go_end0
        exact ⟨rfl, HK2.out, HT.out⟩
  · obtain ⟨-, c6, -⟩ := h.cells hSx
    rw [hpx] at c6
    simp only [ptrTo, Option.map_some] at c6
    obtain ⟨l3, rfl⟩ : ∃ l3, l2 = x :: l3 := by
      cases l2 with
      | nil => simp at hhd
      | cons a l3 => exact ⟨l3, by have : a = x := by simpa using hhd
                                   rw [this]⟩
    have HPl : Hid (∀ n, Calls Try.prog 96 #[.pointer (some ⟨kb x, 0, none⟩)] (w.drewN n) fun e w' => e = .returned (.int .i64 l1.length) ∧ w' = w.drewN n) := fun n => (place_some o (h.up (below_drewN (Below.refl _ _) n)) x p hpx l1 l3 hk (by omega)).mono (fun e w' hh => ⟨hh.1, hh.2.symm⟩)
    have HDr : Hid (∀ n, Kno (F.putRow p l1.length (L.take 0)) S nd pl B kb (w.drewN n) ∧ KTurn S kb w (w.drewN n)) := fun n => ⟨HK0.out.up (below_drewN (Below.refl _ _) n), KTurn.of_below (below_drewN (Below.refl _ _) n)⟩
    obtain ⟨k, hke⟩ : ∃ k, k = l1.length := ⟨_, rfl⟩
    rw [← hke] at HPut HK0 HPl HDr hk1 ⊢
    clear hPut hrow hown h o hk hkl hlen hke hL hLn hpx hhd
    go_enter Try.func95, Try.ntmps95
    go_wp2_with fail
    go_quiet (first | (go_at_call 96; exact (HPl.out _).mono (fun _ _ hh => ⟨hh.1, _, hh.2⟩)))
    go_wp2_with fail
    go_loopw [10] (fun v wr => ∃ i : Nat, i ≤ L.length ∧ v = .int .i64 i ∧ Kno (F.putRow p k (L.take i)) S nd pl B kb wr ∧ KTurn S kb w wr) (fun v _ => L.length - (intOf v).toNat)
    case atStart => exact ⟨0, Nat.zero_le _, rfl, (HDr.out _).1, (HDr.out _).2⟩
    case round =>
      obtain ⟨i, hi, rfl, hK, hT⟩ := hrel
      by_cases hlt : i < L.length
      · obtain ⟨b, o, rfl, hbB, hc⟩ := (HRow.out wr hT).at_ (by rw [ptrs_length]; omega)
        have g1 := hc i (by rw [ptrs_length]; exact hlt)
        rw [ptrs_at hlt] at g1
        have HCall := Lib.hid (HPut.out i hlt wr hT hK)
        have HT := Lib.hid hT
        obtain ⟨y, hy⟩ : ∃ y, y = L[i] := ⟨_, rfl⟩
        rw [← hy] at g1 HCall
        clear hc hy hK hT
        go_wp2_with fail
        refine HCall.out.mono ?_
        rintro e w2 ⟨rfl, hK2, hT2⟩
        have HT2 := Lib.hid (HT.out.trans hT2)
        have HK2 := Lib.hid hK2
        clear hK2 hT2 g1
        go_wp2_with fail
        go_roundw
        case rel => exact ⟨i + 1, by omega, by go_num, HK2.out, HT2.out⟩
        case measure => simp [intOf]; omega
      · have HT := Lib.hid hT
        have HK2 : Hid (Kno (F.putRow p k L) S nd pl B kb wr) := by have := hK; rw [HEnd.out i hlt] at this; exact this
        clear hK hT
        go_wp2_with fail
        go_end0
        exact ⟨rfl, HK2.out, HT.out⟩
end Go.Proofs.Ytmhhfljbocbolaa

namespace Go.Proofs.Ytmhhfljbocbolaa
open Go.RowKit
set_option linter.unusedVariables false

theorem ptrs_congr2 {kb kb2 : Nat → Nat} {l : List Nat} (h : ∀ y ∈ l, kb2 y = kb y) : ptrs kb2 l = ptrs kb l := by
  unfold ptrs
  exact List.map_congr_left fun y hy => by rw [h y hy]

/-- Other names for blocks, where they agree. -/
theorem Kno.rename {F : Fo} {S : Nat → Prop} {nd nd2 : Nat → Nd} {pl : Nat → Int} {B : Nat} {kb kb2 : Nat → Nat} {w : World} (h : Kno F S nd pl B kb w) (hd : ∀ p c, F.par c = some p → S p ∧ S c) (hm : ∀ p c, c ∈ F.kids p → F.par c = some p) (hk : ∀ y, S y → kb2 y = kb y) (hn : ∀ y, S y → nd2 y = nd y) : Kno F S nd2 pl B kb2 w := by
  refine ⟨fun i hi => ?_, fun i j hi hj e => h.inj i j hi hj (by rw [← hk i hi, ← hk j hj]; exact e)⟩
  obtain ⟨hB, aa, ac, ka, kc, hh, h1, h2⟩ := h.node i hi
  have e1 : ptrTo kb2 (F.par i) = ptrTo kb (F.par i) := by
    cases hp : F.par i with
    | none => rfl
    | some p => simp only [ptrTo, Option.map_some, hk p (hd p i hp).1]
  have e2 : ptrs kb2 (F.kids i) = ptrs kb (F.kids i) := ptrs_congr2 fun y hy => hk y (hd i y (hm i y hy)).2
  refine ⟨by rw [hk i hi]; exact hB, aa, ac, ka, kc, ?_, by rw [hn i hi]; exact h1, by rw [e2]; exact h2⟩
  rw [hk i hi, hn i hi, hh]
  unfold knCells
  rw [e1]

/-- One knot more. -/
theorem Kno.fresh {s : FoS} {h : Nat → Nat} (o : s.F.Ok (fun i => i < s.N) h) {pl : Nat → Int} {B : Nat} {kb : Nat → Nat} {w : World} (hK : Kno s.F (fun i => i < s.N) s.nd pl B kb w) {g : Nat} (hg : ∀ y, y < s.N → kb y ≠ g) (hB : B ≤ g) {x : Nat} (hx : x < s.N) (hp : pl s.N = -1) {aa : Option Addr} {ac : Nat}
    (hh : w.heap[g]? = some (.cells #[.int .i64 (-1), .int .i64 (s.nd x).kind, .string (s.nd x).tag, .string (s.nd x).text, .slice aa (s.nd x).attrs.length ac, .int .i64 (s.nd x).size, .pointer none, .slice none 0 0] 107 (0, 0)))
    (ho : w.ownsRow B 96 2 (.slice aa (s.nd x).attrs.length ac) (s.nd x).attrs.length (flat2 (s.nd x).attrs)) :
    Kno (s.fresh x).F (fun i => i < (s.fresh x).N) (s.fresh x).nd pl B (fun y => if y = s.N then g else kb y) w := by
  have h1 := hK.rename (nd2 := (s.fresh x).nd) (kb2 := fun y => if y = s.N then g else kb y) o.dom (fun p c => (o.mem p c).1) (fun y hy => if_neg (by omega)) (fun y hy => by show (if y = s.N then _ else _) = _; rw [if_neg (by omega)])
  have hf := fresh_none o (Nat.le_refl s.N)
  refine ⟨fun i hi => ?_, fun i j hi hj e => ?_⟩
  · by_cases e : i < s.N
    · exact h1.node i e
    · have e2 : i = s.N := by have : i < s.N + 1 := hi; omega
      subst e2
      refine ⟨by rw [if_pos rfl]; exact hB, aa, ac, none, 0, ?_, ?_, ?_⟩
      · show w.heap[if s.N = s.N then g else kb s.N]? = some (.cells (knCells _ (s.F.par s.N) (if s.N = s.N then s.nd x else s.nd s.N) (pl s.N) aa ac (s.F.kids s.N).length none 0) _ _)
        rw [if_pos rfl, if_pos rfl, hf.1, hf.2, hp]; exact hh
      · show w.ownsRow B _ 2 (.slice aa (if s.N = s.N then s.nd x else s.nd s.N).attrs.length ac) (if s.N = s.N then s.nd x else s.nd s.N).attrs.length (flat2 (if s.N = s.N then s.nd x else s.nd s.N).attrs)
        rw [if_pos rfl]; exact ho
      · show w.ownsRow B _ 1 (.slice none (s.F.kids s.N).length 0) (s.F.kids s.N).length (ptrs _ (s.F.kids s.N))
        rw [hf.2]; exact World.ownsRow_nil _ _ _ _
  · have hi2 : i < s.N + 1 := hi
    have hj2 : j < s.N + 1 := hj
    change (if i = s.N then g else kb i) = (if j = s.N then g else kb j) at e
    by_cases e1 : i = s.N
    · by_cases e2 : j = s.N
      · omega
      · rw [if_pos e1, if_neg e2] at e
        exact absurd e.symm (hg j (by omega))
    · by_cases e2 : j = s.N
      · rw [if_neg e1, if_pos e2] at e
        exact absurd e (hg i (by omega))
      · rw [if_neg e1, if_neg e2] at e
        exact hK.inj i j (show i < s.N by omega) (show j < s.N by omega) e

/-- A row that is none of the others' grows, and is stored as a knot's kids. -/
theorem Kno.appendKid {F : Fo} {S : Nat → Prop} {nd : Nat → Nd} {pl : Nat → Int} {B : Nat} {kb : Nat → Nat} {w w5 : World} (h : Kno F S nd pl B kb w) {c : Nat} (hc : S c) {base n : Nat} {v : Value} {xs : List Value} (ho : w.ownsRow base 77 1 v n xs) (ha : ∀ i, S i → i ≠ c → ∀ u, w.cell? ⟨kb i, 7, none⟩ = some u → KApt v u) (hg : w.grownBy w5 v.ownBlock)
    {L : List Nat} {a2 : Option Addr} {n2 c2 : Nat} (hn2 : n2 = L.length) (ho2 : w5.ownsRow B 77 1 (.slice a2 n2 c2) n2 (ptrs kb L)) :
    Kno (F.setKids c L) S nd pl B kb (w5.setCell ⟨kb c, 7, none⟩ (.slice a2 n2 c2)) ∧ (w5.setCell ⟨kb c, 7, none⟩ (.slice a2 n2 c2)).cell? ⟨kb c, 7, none⟩ = some (.slice a2 n2 c2) ∧ ∀ i, S i → i ≠ c → (w5.setCell ⟨kb c, 7, none⟩ (.slice a2 n2 c2)).cell? ⟨kb i, 7, none⟩ = w.cell? ⟨kb i, 7, none⟩ := by
  subst hn2
  have hblk : ∀ i, S i → w5.heap[kb i]? = w.heap[kb i]? := fun i hi => by
    obtain ⟨_, _, _, _, _, hh, _, _⟩ := h.node i hi
    exact hg.block _ (Array.getElem?_eq_some_iff.1 hh).1 (fun e2 => own_ne ho hh (by decide) e2.symm)
  obtain ⟨hBc, aac, acc, kac, kcc, hhc, hc1, hc2⟩ := h.node c hc
  have hhc5 := (hblk c hc).trans hhc
  have hattr : ∀ i, S i → ∀ {aa : Option Addr} {ac : Nat}, w.ownsRow B 96 2 (.slice aa (nd i).attrs.length ac) (nd i).attrs.length (flat2 (nd i).attrs) → w5.ownsRow B 96 2 (.slice aa (nd i).attrs.length ac) (nd i).attrs.length (flat2 (nd i).attrs) := by
    intro i hi aa ac h1
    refine h1.kept hg ?_
    cases hb : (Value.slice aa (nd i).attrs.length ac).ownBlock with
    | none => exact .inl rfl
    | some b =>
      refine .inr fun e2 => ?_
      obtain ⟨g, cap, cur, hv, _, hh2, _⟩ : ∃ g cap cur, (Value.slice aa (nd i).attrs.length ac) = .slice (some ⟨g, 0, none⟩) (nd i).attrs.length cap ∧ B ≤ g ∧ w.heap[g]? = some (.cells cur 96 (0, 0)) ∧ True := by
        rcases h1.2 with ⟨e3, _⟩ | ⟨g, cap, cur, e3, e4, e5, _⟩
        · rw [e3] at hb; simp [Value.ownBlock] at hb
        · exact ⟨g, cap, cur, e3, e4, e5, trivial⟩
      rw [hv] at hb
      simp [Value.ownBlock] at hb
      subst hb
      exact own_ne ho hh2 (by decide) e2.symm
  refine ⟨⟨fun i hi => ?_, h.inj⟩, ?_, fun i hi hne => ?_⟩
  · obtain ⟨hB, aa, ac, ka, kc, hh, h1, h2⟩ := h.node i hi
    have hh5 := (hblk i hi).trans hh
    have a5 := own_setCell (hattr i hi h1) (p := ⟨kb c, 7, none⟩) (own_ne (hattr i hi h1) hhc5 (by decide)) (.slice a2 L.length c2)
    by_cases e : i = c
    · subst e
      have ek : (F.setKids i L).kids i = L := by show (if i = i then L else _) = L; rw [if_pos rfl]
      rw [ek]
      exact ⟨hB, aa, ac, a2, c2, heap_setCell_same w5 (kb i) 7 _ _ _ hh5, a5, own_setCell ho2 (p := ⟨kb i, 7, none⟩) (own_ne ho2 hh5 (by decide)) _⟩
    · have ek : (F.setKids c L).kids i = F.kids i := by show (if i = c then L else _) = _; rw [if_neg e]
      rw [ek]
      have hu : w.cell? ⟨kb i, 7, none⟩ = some (.slice ka (F.kids i).length kc) := by rw [cell_of_row w _ 7 _ _ _ hh]; rfl
      have h25 := h2.kept hg (ha i hi e _ hu).ne
      refine ⟨hB, aa, ac, ka, kc, ?_, a5, own_setCell h25 (p := ⟨kb c, 7, none⟩) (own_ne h25 hhc5 (by decide)) _⟩
      rw [Below.heap_setCell _ _ _ _ (fun e2 => e (h.inj i c hi hc e2))]
      exact hh5
  · rw [cell_of_row _ _ 7 _ _ _ (heap_setCell_same w5 (kb c) 7 _ _ _ hhc5)]; rfl
  · obtain ⟨_, aa, ac, ka, kc, hh, _, _⟩ := h.node i hi
    have e1 : (w5.setCell ⟨kb c, 7, none⟩ (.slice a2 L.length c2)).heap[kb i]? = w.heap[kb i]? := by
      rw [Below.heap_setCell _ _ _ _ (fun e2 => hne (h.inj i c hi hc e2))]
      exact hblk i hi
    exact World.cell?_of_block e1
end Go.Proofs.Ytmhhfljbocbolaa

namespace Go.Proofs.Ytmhhfljbocbolaa
open Go.RowKit
set_option linter.unusedVariables false

def CopyPost (s s' : FoS) (fb : Nat) (row : Value) (pl : Nat → Int) (B : Nat) (kb : Nat → Nat) (w : World) (e : Ending) (w' : World) : Prop :=
  ∃ kb' : Nat → Nat, e = .returned (.pointer (some ⟨kb' s.N, 0, none⟩)) ∧ (∀ y, y < s.N → kb' y = kb y) ∧ Kno s'.F (fun i => i < s'.N) s'.nd pl B kb' w' ∧ w'.heap[fb]? = some (.cells #[row, .int .i64 (s'.N : Int), .bool s'.op] 76 (0, 0)) ∧
    KTurn (fun _ => True) (fun _ => fb) w w' ∧ ∀ y, s.N ≤ y → y < s'.N → w.heap.size ≤ kb' y ∧ ∀ u b, w'.cell? ⟨kb' y, 7, none⟩ = some u → u.ownBlock = some b → w.heap.size ≤ b

theorem Kno.setFb {F : Fo} {S : Nat → Prop} {nd : Nat → Nd} {pl : Nat → Int} {B : Nat} {kb : Nat → Nat} {w : World} (h : Kno F S nd pl B kb w) {fb : Nat} {cs : Array Value} (hf : w.heap[fb]? = some (.cells cs 76 (0, 0))) (j : Nat) (v : Value) : Kno F S nd pl B kb (w.setCell ⟨fb, j, none⟩ v) := by
  refine ⟨fun i hi => ?_, h.inj⟩
  obtain ⟨hB, aa, ac, ka, kc, hh, h1, h2⟩ := h.node i hi
  refine ⟨hB, aa, ac, ka, kc, ?_, own_setCell h1 (p := ⟨fb, j, none⟩) (own_ne h1 hf (by decide)) v, own_setCell h2 (p := ⟨fb, j, none⟩) (own_ne h2 hf (by decide)) v⟩
  rw [Below.heap_setCell _ _ _ _ (types_ne hh hf (by decide))]; exact hh

theorem Kno.five {F : Fo} {S : Nat → Prop} {nd : Nat → Nd} {pl : Nat → Int} {B : Nat} {kb : Nat → Nat} {w : World} (h : Kno F S nd pl B kb w) {i : Nat} (hi : S i) :
    ∃ aa ac, w.cell? ⟨kb i, 1, none⟩ = some (.int .i64 (nd i).kind) ∧ w.cell? ⟨kb i, 2, none⟩ = some (.string (nd i).tag) ∧ w.cell? ⟨kb i, 3, none⟩ = some (.string (nd i).text) ∧ w.cell? ⟨kb i, 4, none⟩ = some (.slice aa (nd i).attrs.length ac) ∧ w.cell? ⟨kb i, 5, none⟩ = some (.int .i64 (nd i).size) ∧ w.ownsRow B 96 2 (.slice aa (nd i).attrs.length ac) (nd i).attrs.length (flat2 (nd i).attrs) := by
  obtain ⟨hB, aa, ac, ka, kc, hh, h1, h2⟩ := h.node i hi
  exact ⟨aa, ac, by rw [cell_of_row w _ 1 _ _ _ hh]; rfl, by rw [cell_of_row w _ 2 _ _ _ hh]; rfl, by rw [cell_of_row w _ 3 _ _ _ hh]; rfl, by rw [cell_of_row w _ 4 _ _ _ hh]; rfl, by rw [cell_of_row w _ 5 _ _ _ hh]; rfl, h1⟩

theorem KTurn.fb_set {w w' : World} {fb : Nat} (h : KTurn (fun _ => True) (fun _ => fb) w w') (j : Nat) (v : Value) : KTurn (fun _ => True) (fun _ => fb) w (w'.setCell ⟨fb, j, none⟩ v) := KTurn.set (S := fun _ => True) (kb := fun _ => fb) h (i := 0) trivial j v
theorem KTurn.fb_low {w w' : World} {fb b : Nat} (h : KTurn (fun _ => True) (fun _ => fb) w w') (hb : b < w.heap.size) (hne : b ≠ fb) : w'.heap[b]? = w.heap[b]? := h.block b hb (fun _ _ => hne)

set_option maxRecDepth 100000 in
set_option maxHeartbeats 4000000 in
theorem copied_shut {s : FoS} {h : Nat → Nat} (o : s.F.Ok (fun i => i < s.N) h) {pl : Nat → Int} {B : Nat} {kb : Nat → Nat} {w : World} (hK : Kno s.F (fun i => i < s.N) s.nd pl B kb w) (hBw : B ≤ w.heap.size) {x : Nat} (hx : x < s.N) (hp : pl s.N = -1) {fb : Nat} {row : Value}
    (hf : w.heap[fb]? = some (.cells #[row, .int .i64 (s.N : Int), .bool s.op] 76 (0, 0))) (hN : s.N + 1 ≤ 100000) (h6 : 600 ≤ s.N) :
    Calls Try.prog 94 #[.pointer (some ⟨fb, 0, none⟩), .pointer (some ⟨kb x, 0, none⟩)] w (CopyPost s (s.fresh x).shut fb row pl B kb w) := by
  have f1 : w.cell? ⟨fb, 1, none⟩ = some (.int .i64 (s.N : Int)) := by rw [cell_of_row w _ 1 _ _ _ hf]; rfl
  have ff := frozen_of_row w fb 1 _ _ hf
  obtain ⟨W1, hW1⟩ : ∃ W1, W1 = w.setCell ⟨fb, 1, none⟩ (.int .i64 ((s.N : Int) + 1)) := ⟨_, rfl⟩
  have hf1 : W1.heap[fb]? = some (.cells #[row, .int .i64 ((s.N : Int) + 1), .bool s.op] 76 (0, 0)) := by rw [hW1]; exact heap_setCell_same w fb 1 _ _ _ hf
  have f3 : w.cell? ⟨fb, 2, none⟩ = some (.bool s.op) := by rw [cell_of_row w _ 2 _ _ _ hf]; rfl
  have ff2 := frozen_of_row w fb 2 _ _ hf
  obtain ⟨W2, hW2⟩ : ∃ W2, W2 = W1.setCell ⟨fb, 2, none⟩ (.bool true) := ⟨_, rfl⟩
  have hf2 : W2.heap[fb]? = some (.cells #[row, .int .i64 ((s.N : Int) + 1), .bool true] 76 (0, 0)) := by rw [hW2]; exact heap_setCell_same W1 fb 2 _ _ _ hf1
  have hK2 : Kno s.F (fun i => i < s.N) s.nd pl B kb W2 := by rw [hW2]; refine Kno.setFb ?_ hf1 2 _; rw [hW1]; exact hK.setFb hf 1 _
  have hT2 : KTurn (fun _ => True) (fun _ => fb) w W2 := by rw [hW2, hW1]; exact ((KTurn.refl _ _ w).fb_set 1 _).fb_set 2 _
  obtain ⟨aa, ac, c1, c2, c3, c4, c5, ho⟩ := hK2.five hx
  have hsz : W2.heap.size = w.heap.size := by rw [hW2, hW1]; simp [World.setCell]
  have HN : Hid (CopyPost s (s.fresh x).shut fb row pl B kb w (.returned (.pointer (some ⟨W2.heap.size, 0, none⟩))) (W2.alloc (.cells #[.int .i64 (-1), .int .i64 (s.nd x).kind, .string (s.nd x).tag, .string (s.nd x).text, .slice aa (s.nd x).attrs.length ac, .int .i64 (s.nd x).size, .pointer none, .slice none 0 0] 107))) := by
    have hK3 := hK2.up ((Below.refl W2.heap.size W2).alloc (Nat.le_refl _) (.cells #[.int .i64 (-1), .int .i64 (s.nd x).kind, .string (s.nd x).tag, .string (s.nd x).text, .slice aa (s.nd x).attrs.length ac, .int .i64 (s.nd x).size, .pointer none, .slice none 0 0] 107))
    have hnew := heap_alloc_new W2 (.cells #[.int .i64 (-1), .int .i64 (s.nd x).kind, .string (s.nd x).tag, .string (s.nd x).text, .slice aa (s.nd x).attrs.length ac, .int .i64 (s.nd x).size, .pointer none, .slice none 0 0] 107)
    refine ⟨fun y => if y = s.N then W2.heap.size else kb y, by simp, fun y hy => if_neg (by omega), Kno.fresh o hK3 (fun y hy => Nat.ne_of_lt (hK2.lt hy)) (by omega) hx hp hnew (ho.alloc _), ?_, ?_, fun y h1 h2 => ?_⟩
    · rw [((Below.refl W2.heap.size W2).alloc (Nat.le_refl _) _).block _ (Array.getElem?_eq_some_iff.1 hf2).1, hf2]; rfl
    · exact hT2.trans (KTurn.of_below ((Below.refl _ _).alloc (Nat.le_refl _) _))
    · have e : y = s.N := by have : y < s.N + 1 := h2; omega
      subst e
      simp only [if_true]
      refine ⟨by omega, fun u b hu hb => ?_⟩
      rw [cell_of_row _ _ 7 _ _ _ hnew] at hu
      injection hu with hu
      rw [← hu] at hb
      simp [Value.ownBlock] at hb
  rw [hsz] at HN
  have hlt : 600 < (s.N : Int) + 1 := by omega
  clear hf hK hK2 hf1 hf2 hT2 hsz o ho hp hx
  subst hW2
  subst hW1
  go_enter Try.func94, Try.ntmps94
  go_wp2_with fail
  go_ret
  exact HN.out
end Go.Proofs.Ytmhhfljbocbolaa

namespace Go.Proofs.Ytmhhfljbocbolaa
open Go.RowKit
set_option linter.unusedVariables false

def cpK (d : Nat) (s : FoS) (x i : Nat) : FoS := ((s.F.kids x).take i).foldl (cstep (cpy d) s.N) (s.fresh x)

theorem cpK_zero (d : Nat) (s : FoS) (x : Nat) : cpK d s x 0 = s.fresh x := by simp [cpK]
theorem cpK_succ (d : Nat) (s : FoS) (x : Nat) {i : Nat} (hi : i < (s.F.kids x).length) : cpK d s x (i + 1) = (cpy d (cpK d s x i) (s.F.kids x)[i]).putB s.N s.N (cpK d s x i).N := by
  unfold cpK
  rw [List.take_succ_eq_append_getElem hi, List.foldl_append]
  rfl
theorem cpK_end (d : Nat) (s : FoS) (x : Nat) (h6 : ¬ 600 ≤ s.N) : cpK d s x (s.F.kids x).length = cpy (d + 1) s x := by
  show _ = (if 600 ≤ s.N then _ else _)
  rw [if_neg h6]
  unfold cpK
  rw [List.take_length]

theorem cpK_ok {s : FoS} {h : Nat → Nat} (o : s.F.Ok (fun i => i < s.N) h) {x d : Nat} (hx : x < s.N) (hd : h x ≤ d + 1) (i : Nat) (hi : i ≤ (s.F.kids x).length) : (∃ h', Ext s (cpK d s x i) h h' x) ∧ ((cpK d s x i).F.kids s.N).length = i ∧ (cpK d s x i).N ≤ (cpK d s x (s.F.kids x).length).N := by
  have hk : ∀ k ∈ s.F.kids x, k < s.N ∧ h k < h x ∧ h k ≤ d := fun k hk => by
    have h1 := (o.mem x k).1 hk
    have h2 := o.dom x k h1
    have h3 := o.ht x k h1
    exact ⟨h2.2, h3, by omega⟩
  obtain ⟨h1, e1, e2, e3⟩ := cpy_fold (cpy_ok d) (h := h) ((s.F.kids x).take i) (s.fresh x) _ (ext_fresh o hx) (fun k hm => hk k (List.mem_of_mem_take hm))
  obtain ⟨h2, e4, e5, e6⟩ := cpy_fold (cpy_ok d) (h := h) ((s.F.kids x).drop i) (cpK d s x i) h1 e1 (fun k hm => hk k (List.mem_of_mem_drop hm))
  refine ⟨⟨h1, e1⟩, ?_, ?_⟩
  · have : (s.fresh x).F.kids s.N = [] := (fresh_none o (Nat.le_refl _)).2
    rw [this] at e2
    simp only [List.length_nil, List.length_take] at e2
    unfold cpK
    omega
  · have : (s.F.kids x).foldl (cstep (cpy d) s.N) (s.fresh x) = ((s.F.kids x).drop i).foldl (cstep (cpy d) s.N) (cpK d s x i) := by
      unfold cpK
      rw [← List.foldl_append, List.take_append_drop]
    have e7 : cpK d s x (s.F.kids x).length = (s.F.kids x).foldl (cstep (cpy d) s.N) (s.fresh x) := by unfold cpK; rw [List.take_length]
    rw [e7, this]; exact e6

/-- What holds at the head of each round. -/
structure CpL (d : Nat) (s : FoS) (x fb : Nat) (row : Value) (pl : Nat → Int) (B : Nat) (kb : Nat → Nat) (w : World) (i : Nat) (kb2 : Nat → Nat) (ka : Option Addr) (kc : Nat) (wr : World) : Prop where
  kno : Kno (cpK d s x i).F (fun y => y < (cpK d s x i).N) (cpK d s x i).nd pl B kb2 wr
  old : ∀ y, y < s.N → kb2 y = kb y
  me : kb2 s.N = w.heap.size
  cell : wr.cell? ⟨w.heap.size, 7, none⟩ = some (.slice ka i kc)
  own : wr.ownsRow w.heap.size 77 1 (.slice ka i kc) i (ptrs kb2 ((cpK d s x i).F.kids s.N))
  apt : ∀ y, y < (cpK d s x i).N → y ≠ s.N → ∀ u, wr.cell? ⟨kb2 y, 7, none⟩ = some u → KApt (.slice ka i kc) u
  fst : wr.heap[fb]? = some (.cells #[row, .int .i64 ((cpK d s x i).N : Int), .bool (cpK d s x i).op] 76 (0, 0))
  turn : KTurn (fun _ => True) (fun _ => fb) w wr
  new : ∀ y, s.N ≤ y → y < (cpK d s x i).N → w.heap.size ≤ kb2 y ∧ ∀ u b, wr.cell? ⟨kb2 y, 7, none⟩ = some u → u.ownBlock = some b → w.heap.size ≤ b

theorem Kno.row7 {F : Fo} {S : Nat → Prop} {nd : Nat → Nd} {pl : Nat → Int} {B : Nat} {kb : Nat → Nat} {w : World} (h : Kno F S nd pl B kb w) {i : Nat} (hi : S i) : ∃ u, w.cell? ⟨kb i, 7, none⟩ = some u ∧ ∀ b, u.ownBlock = some b → b < w.heap.size := by
  obtain ⟨-, -, -, ka, kc, c7, -, ho⟩ := h.cells hi
  exact ⟨_, c7, fun b hb => (ho.lt b hb).2⟩

set_option maxHeartbeats 1000000 in
theorem cpl_step {d : Nat} {s : FoS} {h : Nat → Nat} (o : s.F.Ok (fun i => i < s.N) h) {x : Nat} (hx : x < s.N) (hd : h x ≤ d + 1) {fb : Nat} {row : Value} {pl : Nat → Int} {B : Nat} {kb : Nat → Nat} {w : World} {i : Nat} {kb2 : Nat → Nat} {ka : Option Addr} {kc : Nat} {wr : World} (hBw : B ≤ w.heap.size) (hfw : fb < w.heap.size)
    (H : CpL d s x fb row pl B kb w i kb2 ka kc wr) (hi : i < (s.F.kids x).length) {e : Ending} {w2 : World} (P : CopyPost (cpK d s x i) (cpy d (cpK d s x i) (s.F.kids x)[i]) fb row pl B kb2 wr e w2) :
    ∃ (kr : Nat) (kb3 : Nat → Nat) (L : List Nat), e = .returned (.pointer (some ⟨kr, 0, none⟩)) ∧ L.length = i ∧ w2.cell? ⟨kr, 6, none⟩ = some (.pointer none) ∧ w2.frozen? ⟨kr, 6, none⟩ = false ∧
      (w2.setCell ⟨kr, 6, none⟩ (.pointer (some ⟨w.heap.size, 0, none⟩))).cell? ⟨w.heap.size, 7, none⟩ = some (.slice ka i kc) ∧
      ((w2.setCell ⟨kr, 6, none⟩ (.pointer (some ⟨w.heap.size, 0, none⟩))).alloc (.cells #[.pointer (some ⟨kr, 0, none⟩)] 77)).ownsRow w.heap.size 77 1 (.slice ka i kc) L.length (ptrs kb3 L) ∧
      RSl ((w2.setCell ⟨kr, 6, none⟩ (.pointer (some ⟨w.heap.size, 0, none⟩))).alloc (.cells #[.pointer (some ⟨kr, 0, none⟩)] 77)) ((w2.setCell ⟨kr, 6, none⟩ (.pointer (some ⟨w.heap.size, 0, none⟩))).alloc (.cells #[.pointer (some ⟨kr, 0, none⟩)] 77)).heap.size (some ⟨w2.heap.size, 0, none⟩) (ptrs kb3 [(cpK d s x i).N]) ∧
      w.heap.size ≤ ((w2.setCell ⟨kr, 6, none⟩ (.pointer (some ⟨w.heap.size, 0, none⟩))).alloc (.cells #[.pointer (some ⟨kr, 0, none⟩)] 77)).heap.size ∧
      ∀ a2 c2 n2 w5, n2 = i + 1 → ((w2.setCell ⟨kr, 6, none⟩ (.pointer (some ⟨w.heap.size, 0, none⟩))).alloc (.cells #[.pointer (some ⟨kr, 0, none⟩)] 77)).grownBy w5 (Value.slice ka i kc).ownBlock → w5.ownsRow w.heap.size 77 1 (.slice a2 n2 c2) n2 (ptrs kb3 (L ++ [(cpK d s x i).N])) →
        ((Value.slice a2 n2 c2).ownBlock = (Value.slice ka i kc).ownBlock ∨ (Value.slice a2 n2 c2).ownBlock = some ((w2.setCell ⟨kr, 6, none⟩ (.pointer (some ⟨w.heap.size, 0, none⟩))).alloc (.cells #[.pointer (some ⟨kr, 0, none⟩)] 77)).heap.size) →
        w5.cell? ⟨w.heap.size, 7, none⟩ = some (.slice ka i kc) ∧ w5.frozen? ⟨w.heap.size, 7, none⟩ = false ∧ CpL d s x fb row pl B kb w (i + 1) kb3 a2 c2 (w5.setCell ⟨w.heap.size, 7, none⟩ (.slice a2 n2 c2)) := by
  obtain ⟨kb3, rfl, hold, hK, hf, hT, hnew⟩ := P
  obtain ⟨⟨hi', eA⟩, hlen, -⟩ := cpK_ok o hx hd i (Nat.le_of_lt hi)
  have hkA : (s.F.kids x)[i] < (cpK d s x i).N := by
    have := (o.dom _ _ ((o.mem x _).1 (List.getElem_mem hi))).2
    have := eA.lt; omega
  have hkh : hi' (s.F.kids x)[i] ≤ d := by
    have h1 := (o.mem x _).1 (List.getElem_mem hi)
    rw [eA.hold _ (o.dom _ _ h1).2]
    have := o.ht _ _ h1; omega
  obtain ⟨hb', eB⟩ := cpy_ok d (cpK d s x i) hi' _ eA.ok hkA hkh
  have hsucc := cpK_succ d s x hi
  obtain ⟨b, hb⟩ : ∃ b, b = cpy d (cpK d s x i) (s.F.kids x)[i] := ⟨_, rfl⟩
  rw [← hb] at hK hf eB hsucc hnew
  obtain ⟨a, ha⟩ : ∃ a, a = cpK d s x i := ⟨_, rfl⟩
  have Hkno := H.kno
  have Hme := H.me
  have Hcell := H.cell
  have Hown := H.own
  have Hapt := H.apt
  have Hturn := H.turn
  have Hn := H.new
  have Hold := H.old
  rw [← ha] at hold hnew eB hsucc Hkno Hown Hapt Hn eA hlen hkA ⊢
  have hsa := eA.lt
  have hab := eB.lt
  have sS : s.N < b.N := by omega
  have hme3 : kb3 s.N = w.heap.size := (hold _ hsa).trans Hme
  have hkr : wr.heap.size ≤ kb3 a.N := (hnew a.N (Nat.le_refl _) hab).1
  have hww := Hturn.size
  have hgr : w.heap.size < wr.heap.size := by rw [← Hme]; exact Hkno.lt hsa
  have hne : kb3 a.N ≠ w.heap.size := by omega
  have hwr2 := hT.size
  obtain ⟨fz, c6, -⟩ := hK.cells (i := a.N) hab
  rw [eB.root] at c6
  have hbk : b.F.kids s.N = a.F.kids s.N := eB.kids _ hsa
  have hfbg : w.heap.size ≠ fb := by omega
  -- the worlds
  have hK3 := hK.setPar (p := a.N) hab (some s.N)
  simp only [ptrTo, Option.map_some, hme3] at hK3
  obtain ⟨w3, hw3⟩ : ∃ w3, w3 = w2.setCell ⟨kb3 a.N, 6, none⟩ (.pointer (some ⟨w.heap.size, 0, none⟩)) := ⟨_, rfl⟩
  rw [← hw3] at hK3
  have hs3 : w3.heap.size = w2.heap.size := by rw [hw3]; simp [World.setCell]
  have hcell2 : w2.cell? ⟨w.heap.size, 7, none⟩ = some (.slice ka i kc) := (World.cell?_of_block (a := ⟨w.heap.size, 7, none⟩) (hT.fb_low hgr hfbg)).trans Hcell
  have hcell3 : w3.cell? ⟨w.heap.size, 7, none⟩ = some (.slice ka i kc) := by rw [hw3, World.cell?_setCell_far _ _ _ _ (by exact hne)]; exact hcell2
  have hown2 : w2.ownsRow w.heap.size 77 1 (.slice ka i kc) i (ptrs kb3 (a.F.kids s.N)) := by
    have e1 : ptrs kb3 (a.F.kids s.N) = ptrs kb2 (a.F.kids s.N) := ptrs_congr2 fun y hy => hold y ((eA.ok.dom _ _ ((eA.ok.mem _ y).1 hy)).2)
    rw [e1]
    exact KTurn.own hT Hown (fun q _ => own_ne Hown H.fst (by decide))
  have hrow2 : ∃ cs, w2.heap[kb3 a.N]? = some (.cells cs 107 (0, 0)) := by
    obtain ⟨_, _, _, _, _, hh, _, _⟩ := hK.node a.N hab
    exact ⟨_, hh⟩
  obtain ⟨crs, hcrs⟩ := hrow2
  have hown3 : w3.ownsRow w.heap.size 77 1 (.slice ka i kc) i (ptrs kb3 (a.F.kids s.N)) := by rw [hw3]; exact own_setCell hown2 (p := ⟨kb3 a.N, 6, none⟩) (own_ne hown2 hcrs (by decide)) _
  have hcell3' : ∀ y, y < b.N → ∀ u, w3.cell? ⟨kb3 y, 7, none⟩ = some u → w2.cell? ⟨kb3 y, 7, none⟩ = some u := by
    intro y hy u hu
    obtain ⟨_, _, _, _, _, hh, _, _⟩ := hK.node y hy
    by_cases e : kb3 y = kb3 a.N
    · rw [hw3, e] at hu
      rw [e] at hh ⊢
      rw [cell_of_row _ _ 7 _ _ _ (heap_setCell_same w2 _ 6 _ _ _ hh)] at hu
      rw [cell_of_row w2 _ 7 _ _ _ hh]
      simpa using hu
    · rw [hw3, World.cell?_setCell_far _ _ _ _ (by exact fun e2 => e e2.symm)] at hu
      exact hu
  have hapt3 : ∀ y, y < b.N → y ≠ s.N → ∀ u, w3.cell? ⟨kb3 y, 7, none⟩ = some u → KApt (.slice ka i kc) u := by
    intro y hy hys u hu
    have hu2 := hcell3' y hy u hu
    by_cases e : y < a.N
    · rw [hold y e] at hu2
      rw [World.cell?_of_block (a := ⟨kb2 y, 7, none⟩) (hT.fb_low (Hkno.lt e) (by
        obtain ⟨_, _, _, _, _, hh, _, _⟩ := Hkno.node y e
        exact types_ne hh H.fst (by decide)))] at hu2
      exact Hapt y e hys u hu2
    · intro q h1 h2
      have h3 := (hnew y (by omega) hy).2 u q hu2 h2
      have h4 := (Hown.lt q h1).2
      omega
  obtain ⟨w4, hw4⟩ : ∃ w4, w4 = w3.alloc (.cells #[.pointer (some ⟨kb3 a.N, 0, none⟩)] 77) := ⟨_, rfl⟩
  have hb34 : Below w3.heap.size w3 w4 := by rw [hw4]; exact (Below.refl _ _).alloc (Nat.le_refl _) _
  have hK4 := hK3.up hb34
  have hs4 : w4.heap.size = w3.heap.size + 1 := by rw [hw4]; simp
  have hc34 : ∀ y, y < b.N → w4.cell? ⟨kb3 y, 7, none⟩ = w3.cell? ⟨kb3 y, 7, none⟩ := fun y hy => hb34.cell (p := ⟨kb3 y, 7, none⟩) (hK3.lt hy)
  refine ⟨kb3 a.N, kb3, a.F.kids s.N, rfl, hlen, c6, fz 6, by rw [← hw3]; exact hcell3, by rw [← hw3, hlen]; exact hown3.alloc _, ?_, by rw [← hw3, ← hw4]; omega, ?_⟩
  · rw [← hw3]
    refine .inr ⟨w2.heap.size, 0, rfl, by simp [hs3], fun q hq => ?_⟩
    have e0 : q = 0 := by simp [ptrs] at hq; omega
    subst e0
    rw [← hs3, World.cell?_alloc_mark]; rfl
  · intro a2 c2 n2 w5 hn2 hg ho5 hat
    subst hn2
    rw [← hw3, ← hw4] at hg hat
    have hown4 : w4.ownsRow w.heap.size 77 1 (.slice ka i kc) i (ptrs kb3 (a.F.kids s.N)) := by rw [hw4]; exact hown3.alloc _
    have hapt4 : ∀ y, y < b.N → y ≠ s.N → ∀ u, w4.cell? ⟨kb3 y, 7, none⟩ = some u → KApt (.slice ka i kc) u := fun y hy hys u hu => hapt3 y hy hys u (by rw [← hc34 y hy]; exact hu)
    have hL1 : (a.F.kids s.N ++ [a.N]).length = i + 1 := by simp [hlen]
    have hKE := Kno.appendKid hK4 (c := s.N) sS hown4 hapt4 hg (L := a.F.kids s.N ++ [a.N]) (a2 := a2) (c2 := c2) (n2 := i + 1) hL1.symm (own_base ho5 hBw)
    rw [hme3] at hKE
    obtain ⟨k1, k2, k3⟩ := hKE
    have hF : (b.F.setPar a.N (some s.N)).setKids s.N (a.F.kids s.N ++ [a.N]) = (cpK d s x (i + 1)).F := by
      rw [hsucc]
      refine Fo.ext2 (fun q => rfl) (fun q => ?_)
      show (if q = s.N then a.F.kids s.N ++ [a.N] else b.F.kids q) = (if q = s.N then insB s.N a.N (b.F.kids q) else b.F.kids q)
      by_cases e : q = s.N
      · subst e
        rw [if_pos rfl, if_pos rfl, hbk, insB_end]
        intro hm
        have := eA.ok.ht _ _ ((eA.ok.mem _ _).1 hm); omega
      · rw [if_neg e, if_neg e]
    have hN1 : (cpK d s x (i + 1)).N = b.N := by rw [hsucc]; rfl
    have hnd1 : (cpK d s x (i + 1)).nd = b.nd := by rw [hsucc]; rfl
    have hop1 : (cpK d s x (i + 1)).op = b.op := by rw [hsucc]; rfl
    have hb45 : ∀ q, q < w4.heap.size → (Value.slice ka i kc).ownBlock ≠ some q → w5.heap[q]? = w4.heap[q]? := fun q hq hn => hg.block q hq (fun e => hn e.symm)
    obtain ⟨_, _, _, _, _, hhme, _, _⟩ := hK4.node s.N sS
    rw [hme3] at hhme
    have h5me : w5.heap[w.heap.size]? = w4.heap[w.heap.size]? := hb45 _ (by omega) (own_ne hown4 hhme (by decide))
    have hg5 := h5me.trans hhme
    refine ⟨?_, frozen_of_row w5 _ 7 _ _ hg5, ⟨by rw [hN1, hnd1, ← hF]; exact k1, fun y hy => (hold y (by omega)).trans (Hold y hy), hme3, k2, ?_, ?_, ?_, ?_, ?_⟩⟩
    · rw [World.cell?_of_block (a := ⟨w.heap.size, 7, none⟩) h5me, hb34.cell (p := ⟨w.heap.size, 7, none⟩) (show w.heap.size < w3.heap.size by omega)]; exact hcell3
    · have hk5 : (cpK d s x (i + 1)).F.kids s.N = a.F.kids s.N ++ [a.N] := by rw [← hF]; show (if s.N = s.N then _ else _) = _; rw [if_pos rfl]
      rw [hk5]
      exact own_setCell ho5 (p := ⟨w.heap.size, 7, none⟩) (own_ne ho5 hg5 (by decide)) _
    · intro y hy hys u hu
      rw [hN1] at hy
      rw [k3 y hy hys] at hu
      obtain ⟨u', hu', hlt⟩ := hK4.row7 (i := y) hy
      rw [hu] at hu'; cases hu'
      exact (hapt4 y hy hys u hu).step hat (fun q hq => hlt q hq)
    · rw [hN1, hop1, Below.heap_setCell _ _ _ _ (by exact fun e => hfbg e.symm)]
      have hf3 : w3.heap[fb]? = some (.cells #[row, .int .i64 (b.N : Int), .bool b.op] 76 (0, 0)) := by
        rw [hw3, Below.heap_setCell _ _ _ _ (by show fb ≠ kb3 a.N; omega)]; exact hf
      have hf4 := (hb34.block fb (by omega)).trans hf3
      rw [hb45 fb (by omega) (own_ne hown4 hf4 (by decide))]
      exact hf4
    · refine ⟨?_, ?_, ?_, ?_, fun q hq hn => ?_⟩
      · show w5.os = _; rw [hg.os, hb34.os, hw3]; show w2.os = _; rw [hT.os]; exact Hturn.os
      · show w5.tape = _; rw [hg.tape, hb34.tape, hw3]; show w2.tape = _; rw [hT.tape]; exact Hturn.tape
      · show w5.output = _; rw [hg.output, hb34.output, hw3]; show w2.output = _; rw [hT.output]; exact Hturn.output
      · have := hg.size; have : (w5.setCell ⟨w.heap.size, 7, none⟩ (.slice a2 (i + 1) c2)).heap.size = w5.heap.size := by simp [World.setCell]
        omega
      · have hqf : q ≠ fb := hn 0 trivial
        rw [Below.heap_setCell _ _ _ _ (by show q ≠ w.heap.size; omega), hb45 q (by omega) (fun e => by have := (hown4.lt q e).1; omega), hb34.block q (by omega), hw3, Below.heap_setCell _ _ _ _ (by show q ≠ kb3 a.N; omega), hT.fb_low (by omega) hqf]
        exact Hturn.fb_low hq hqf
    · intro y h1 h2
      rw [hN1] at h2
      by_cases e : y = s.N
      · subst e
        refine ⟨by rw [hme3]; exact Nat.le_refl _, fun u q hu hq => ?_⟩
        rw [hme3, k2] at hu
        cases hu
        exact (ho5.lt q hq).1
      · rw [k3 y h2 e, hc34 y h2]
        by_cases e2 : y < a.N
        · refine ⟨by rw [hold y e2]; exact (Hn y h1 e2).1, fun u q hu hq => ?_⟩
          have hu2 := hcell3' y h2 u hu
          rw [hold y e2] at hu2
          rw [World.cell?_of_block (a := ⟨kb2 y, 7, none⟩) (hT.fb_low (Hkno.lt e2) (by
            obtain ⟨_, _, _, _, _, hh, _, _⟩ := Hkno.node y e2
            exact types_ne hh H.fst (by decide)))] at hu2
          exact (Hn y h1 e2).2 u q hu2 hq
        · have h3 := hnew y (by omega) h2
          exact ⟨by omega, fun u q hu hq => by have := h3.2 u q (hcell3' y h2 u hu) hq; omega⟩
end Go.Proofs.Ytmhhfljbocbolaa

namespace Go.Proofs.Ytmhhfljbocbolaa
open Go.RowKit
set_option linter.unusedVariables false

def nodeC (x : Nd) (aa : Option Addr) (ac : Nat) : Array Value := #[.int .i64 (-1), .int .i64 x.kind, .string x.tag, .string x.text, .slice aa x.attrs.length ac, .int .i64 x.size, .pointer none, .slice none 0 0]

theorem copied_start {d : Nat} {s : FoS} {h : Nat → Nat} (o : s.F.Ok (fun i => i < s.N) h) {pl : Nat → Int} {B : Nat} {kb : Nat → Nat} {w : World} (hK : Kno s.F (fun i => i < s.N) s.nd pl B kb w) (hBw : B ≤ w.heap.size) {x : Nat} (hx : x < s.N) (hp : pl s.N = -1) {fb : Nat} {row : Value}
    (hf : w.heap[fb]? = some (.cells #[row, .int .i64 (s.N : Int), .bool s.op] 76 (0, 0))) (aa : Option Addr) (ac : Nat) {w3 : World} {a1 : Option Addr} {c1 : Nat}
    (hg : (((w.setCell ⟨fb, 1, none⟩ (.int .i64 ((s.N : Int) + 1))).alloc (.cells (nodeC (s.nd x) aa ac) 107)).alloc (.cells #[] 96)).grownBy w3 (some (w.heap.size + 1))) (ho : w3.ownsRow (w.heap.size + 1) 96 2 (.slice a1 (s.nd x).attrs.length c1) (s.nd x).attrs.length (flat2 (s.nd x).attrs)) :
    w3.cell? ⟨w.heap.size, 4, none⟩ = some (.slice aa (s.nd x).attrs.length ac) ∧ w3.frozen? ⟨w.heap.size, 4, none⟩ = false ∧ ∃ kb2, CpL d s x fb row pl B kb w 0 kb2 none 0 (w3.setCell ⟨w.heap.size, 4, none⟩ (.slice a1 (s.nd x).attrs.length c1)) := by
  obtain ⟨W1, hW1⟩ : ∃ W1, W1 = w.setCell ⟨fb, 1, none⟩ (.int .i64 ((s.N : Int) + 1)) := ⟨_, rfl⟩
  have hf1 : W1.heap[fb]? = some (.cells #[row, .int .i64 ((s.N : Int) + 1), .bool s.op] 76 (0, 0)) := by rw [hW1]; exact heap_setCell_same w fb 1 _ _ _ hf
  have hK1 : Kno s.F (fun i => i < s.N) s.nd pl B kb W1 := by rw [hW1]; exact hK.setFb hf 1 _
  have hT1 : KTurn (fun _ => True) (fun _ => fb) w W1 := by rw [hW1]; exact (KTurn.refl _ _ w).fb_set 1 _
  have hs1 : W1.heap.size = w.heap.size := by rw [hW1]; simp [World.setCell]
  have hfw : fb < w.heap.size := (Array.getElem?_eq_some_iff.1 hf).1
  rw [← hW1] at hg
  obtain ⟨W2, hW2⟩ : ∃ W2, W2 = W1.alloc (.cells (nodeC (s.nd x) aa ac) 107) := ⟨_, rfl⟩
  have hnew : W2.heap[w.heap.size]? = some (.cells (nodeC (s.nd x) aa ac) 107 (0, 0)) := by rw [hW2, ← hs1]; exact heap_alloc_new W1 _
  have hs2 : W2.heap.size = w.heap.size + 1 := by rw [hW2]; simp [hs1]
  have hb12 : Below W1.heap.size W1 W2 := by rw [hW2]; exact (Below.refl _ _).alloc (Nat.le_refl _) _
  rw [← hW2] at hg
  have hb23 : Below W2.heap.size W2 w3 := ((Below.refl W2.heap.size W2).alloc (Nat.le_refl _) (.cells #[] 96)).grown hg (by simp) (fun k e => by cases e; omega)
  have hnew3 := (hb23.block w.heap.size (by omega)).trans hnew
  have hK3 := (hK1.up hb12).up hb23
  have hgk : ∀ y, y < s.N → kb y ≠ w.heap.size := fun y hy => Nat.ne_of_lt (hK.lt hy)
  have hf3 := (hb23.block fb (by omega)).trans ((hb12.block fb (by omega)).trans hf1)
  refine ⟨by rw [cell_of_row w3 _ 4 _ _ _ hnew3]; rfl, frozen_of_row w3 _ 4 _ _ hnew3, fun y => if y = s.N then w.heap.size else kb y, ?_⟩
  obtain ⟨w4, hw4⟩ : ∃ w4, w4 = w3.setCell ⟨w.heap.size, 4, none⟩ (.slice a1 (s.nd x).attrs.length c1) := ⟨_, rfl⟩
  have hnew4 : w4.heap[w.heap.size]? = some (.cells #[.int .i64 (-1), .int .i64 (s.nd x).kind, .string (s.nd x).tag, .string (s.nd x).text, .slice a1 (s.nd x).attrs.length c1, .int .i64 (s.nd x).size, .pointer none, .slice none 0 0] 107 (0, 0)) := by rw [hw4]; exact heap_setCell_same w3 _ 4 _ _ _ hnew3
  have hK4 : Kno s.F (fun i => i < s.N) s.nd pl B kb w4 := by
    refine ⟨fun i hi => ?_, hK3.inj⟩
    obtain ⟨hB, ba, bc, ka, kc, hh, h1, h2⟩ := hK3.node i hi
    refine ⟨hB, ba, bc, ka, kc, ?_, ?_, ?_⟩
    · rw [hw4, Below.heap_setCell _ _ _ _ (by exact hgk i hi)]; exact hh
    · rw [hw4]; exact own_setCell h1 (p := ⟨w.heap.size, 4, none⟩) (own_ne h1 hnew3 (by decide)) _
    · rw [hw4]; exact own_setCell h2 (p := ⟨w.heap.size, 4, none⟩) (own_ne h2 hnew3 (by decide)) _
  have ho4 : w4.ownsRow B 96 2 (.slice a1 (s.nd x).attrs.length c1) (s.nd x).attrs.length (flat2 (s.nd x).attrs) := by rw [hw4]; exact own_base (own_setCell ho (p := ⟨w.heap.size, 4, none⟩) (own_ne ho hnew3 (by decide)) _) (by omega)
  have hKF := Kno.fresh o hK4 hgk hBw hx hp hnew4 ho4
  have hc7 : w4.cell? ⟨w.heap.size, 7, none⟩ = some (.slice none 0 0) := by rw [cell_of_row w4 _ 7 _ _ _ hnew4]; rfl
  rw [← hw4]
  have hf0 := fresh_none o (Nat.le_refl s.N)
  refine ⟨by rw [cpK_zero]; exact hKF, fun y hy => if_neg (by omega), if_pos rfl, hc7, ?_, fun y _ _ u _ => KApt.nil _ _ _, ?_, ?_, fun y h1 h2 => ?_⟩
  · rw [cpK_zero]
    have : (s.fresh x).F.kids s.N = [] := hf0.2
    rw [this]; exact World.ownsRow_nil _ _ _ _
  · rw [cpK_zero, hw4, Below.heap_setCell _ _ _ _ (by show fb ≠ w.heap.size; omega)]; exact hf3
  · have e1 : KTurn (fun _ => True) (fun _ => fb) w w3 := hT1.trans ((KTurn.of_below hb12).trans (KTurn.of_below hb23))
    refine ⟨by rw [hw4]; exact e1.os, by rw [hw4]; exact e1.tape, by rw [hw4]; exact e1.output, by rw [hw4]; simpa [World.setCell] using e1.size, fun q hq hn => ?_⟩
    rw [hw4, Below.heap_setCell _ _ _ _ (by show q ≠ w.heap.size; omega)]
    exact e1.block q hq hn
  · rw [cpK_zero] at h2
    have e : y = s.N := by have : y < s.N + 1 := h2; omega
    subst e
    simp only [if_true]
    refine ⟨Nat.le_refl _, fun u q hu hq => ?_⟩
    rw [hc7] at hu
    cases hu
    simp [Value.ownBlock] at hq

set_option maxRecDepth 100000 in
set_option maxHeartbeats 4000000 in
theorem copied_walk {d : Nat} {s : FoS} {h : Nat → Nat} (o : s.F.Ok (fun i => i < s.N) h) {pl : Nat → Int} {B : Nat} {kb : Nat → Nat} {w : World} (hK : Kno s.F (fun i => i < s.N) s.nd pl B kb w) (hBw : B ≤ w.heap.size) {x : Nat} (hx : x < s.N) (hd : h x ≤ d + 1) (hp : pl s.N = -1) {fb : Nat} {row : Value}
    (hf : w.heap[fb]? = some (.cells #[row, .int .i64 (s.N : Int), .bool s.op] 76 (0, 0))) (hN : (cpK d s x (s.F.kids x).length).N ≤ 100000) (h6 : ¬ 600 ≤ s.N) (hnb : NdB (s.nd x)) (hal : (s.nd x).attrs.length ≤ 1000)
    (hih : ∀ i (hi : i < (s.F.kids x).length) kb2 ka kc wr, CpL d s x fb row pl B kb w i kb2 ka kc wr → Calls Try.prog 94 #[.pointer (some ⟨fb, 0, none⟩), .pointer (some ⟨kb2 (s.F.kids x)[i], 0, none⟩)] wr (CopyPost (cpK d s x i) (cpy d (cpK d s x i) (s.F.kids x)[i]) fb row pl B kb2 wr)) :
    Calls Try.prog 94 #[.pointer (some ⟨fb, 0, none⟩), .pointer (some ⟨kb x, 0, none⟩)] w (CopyPost s (cpK d s x (s.F.kids x).length) fb row pl B kb w) := by
  have f1 : w.cell? ⟨fb, 1, none⟩ = some (.int .i64 (s.N : Int)) := by rw [cell_of_row w _ 1 _ _ _ hf]; rfl
  have ff := frozen_of_row w fb 1 _ _ hf
  have hfw : fb < w.heap.size := (Array.getElem?_eq_some_iff.1 hf).1
  have hkx : kb x < w.heap.size := hK.lt hx
  have hkl : (s.F.kids x).length ≤ 600 := by
    have := o.kids_le (fun i hi => hi) x; omega
  have HStart := Lib.hid (fun (aa : Option Addr) (ac : Nat) (w3 : World) (a1 : Option Addr) (c1 : Nat) => copied_start (d := d) (w3 := w3) (a1 := a1) (c1 := c1) o hK hBw hx hp hf aa ac)
  have HIH := Lib.hid hih
  have HStep := Lib.hid (fun (i : Nat) (kb2 : Nat → Nat) (ka : Option Addr) (kc : Nat) (wr : World) (H : CpL d s x fb row pl B kb w i kb2 ka kc wr) (hi : i < (s.F.kids x).length) (e : Ending) (w2 : World) (P : CopyPost (cpK d s x i) (cpy d (cpK d s x i) (s.F.kids x)[i]) fb row pl B kb2 wr e w2) => cpl_step o hx hd hBw hfw H hi P)
  have HKid : Hid (∀ i (hi : i < (s.F.kids x).length), (s.F.kids x)[i] < s.N) := fun i hi => (o.dom _ _ ((o.mem x _).1 (List.getElem_mem hi))).2
  obtain ⟨aa0, ac0, hr0⟩ : ∃ aa ac, w.cell? ⟨kb x, 4, none⟩ = some (.slice aa (s.nd x).attrs.length ac) := by obtain ⟨aa, ac, _, _, _, c4, _⟩ := hK.five hx; exact ⟨aa, ac, c4⟩
  obtain ⟨-, -, -, ka, kc, c7, hkc, hown⟩ := hK.cells hx
  have hfx : kb x ≠ fb := by obtain ⟨_, _, _, _, _, hh, _, _⟩ := hK.node x hx; exact types_ne hh hf (by decide)
  have hRow : ∀ wr, KTurn (fun _ => True) (fun _ => fb) w wr → wr.cell? ⟨kb x, 7, none⟩ = some (.slice ka (s.F.kids x).length kc) ∧ RSl wr wr.heap.size ka (ptrs kb (s.F.kids x)) := by
    intro wr hT
    refine ⟨(World.cell?_of_block (a := ⟨kb x, 7, none⟩) (hT.fb_low hkx hfx)).trans c7, ?_⟩
    obtain ⟨_, _, hv, _, hrs⟩ := RSl.own (KTurn.own hT hown (fun q _ => own_ne hown hf (by decide)))
    cases hv
    exact hrs
  have HRow := Lib.hid hRow
  obtain ⟨W1, hW1⟩ : ∃ W1, W1 = w.setCell ⟨fb, 1, none⟩ (.int .i64 ((s.N : Int) + 1)) := ⟨_, rfl⟩
  have hK1 : Kno s.F (fun i => i < s.N) s.nd pl B kb W1 := by rw [hW1]; exact hK.setFb hf 1 _
  obtain ⟨aa, ac, c1, c2, c3, c4, c5, ho⟩ := hK1.five hx
  obtain ⟨W2, hW2⟩ : ∃ W2, W2 = (W1.alloc (.cells #[.int .i64 (-1), .int .i64 (s.nd x).kind, .string (s.nd x).tag, .string (s.nd x).text, .slice aa (s.nd x).attrs.length ac, .int .i64 (s.nd x).size, .pointer none, .slice none 0 0] 107)).alloc (.cells #[] 96) := ⟨_, rfl⟩
  have hs1 : W1.heap.size = w.heap.size := by rw [hW1]; simp [World.setCell]
  have hb2 : Below W1.heap.size W1 W2 := by rw [hW2]; exact ((Below.refl _ _).alloc (Nat.le_refl _) _).alloc (by simp) _
  have HAsl : Hid (ASl W2 W2.heap.size aa (s.nd x).attrs) := by rw [hW2]; exact asl_own2 ((ho.alloc _).alloc _) hnb.len hnb.ats
  have HOwn : Hid (W2.ownsRow (w.heap.size + 1) 96 2 (.slice (some ⟨w.heap.size + 1, 0, none⟩) 0 0) 0 []) := by
    have := own_emptyS (W1.alloc (.cells #[.int .i64 (-1), .int .i64 (s.nd x).kind, .string (s.nd x).tag, .string (s.nd x).text, .slice aa (s.nd x).attrs.length ac, .int .i64 (s.nd x).size, .pointer none, .slice none 0 0] 107)) 96 2
    have e : (W1.alloc (.cells #[.int .i64 (-1), .int .i64 (s.nd x).kind, .string (s.nd x).tag, .string (s.nd x).text, .slice aa (s.nd x).attrs.length ac, .int .i64 (s.nd x).size, .pointer none, .slice none 0 0] 107)).heap.size = w.heap.size + 1 := by simp [hs1]
    rw [e] at this
    rw [hW2]; exact this
  have c4b : W2.cell? ⟨kb x, 4, none⟩ = some (.slice aa (s.nd x).attrs.length ac) := (hb2.cell (p := ⟨kb x, 4, none⟩) (by show kb x < W1.heap.size; omega)).trans c4
  have hlt : ¬ (600 < (s.N : Int) + 1) := by omega
  have hN1 : s.N ≤ 600 := by omega
  have HSt2 : Hid (∀ (w3 : World) (a1 : Option Addr) (c1 : Nat), W2.grownBy w3 (Value.slice (some ⟨w.heap.size + 1, 0, none⟩) 0 0).ownBlock → w3.ownsRow (w.heap.size + 1) 96 2 (.slice a1 (s.nd x).attrs.length c1) (s.nd x).attrs.length (flat2 (s.nd x).attrs) → w3.cell? ⟨w.heap.size, 4, none⟩ = some (.slice aa (s.nd x).attrs.length ac) ∧ w3.frozen? ⟨w.heap.size, 4, none⟩ = false ∧ ∃ kb2, CpL d s x fb row pl B kb w 0 kb2 none 0 (w3.setCell ⟨w.heap.size, 4, none⟩ (.slice a1 (s.nd x).attrs.length c1))) := fun w3 a1 c1 hg hoo => by
    rw [hW2, hW1] at hg
    exact HStart.out aa ac w3 a1 c1 hg hoo
  have hsw : w.heap.size + 1 ≤ W2.heap.size := by rw [hW2]; simp [hs1]
  have HSw := Lib.hid hsw
  subst hW2
  subst hW1
  clear hK hf hih hRow hK1 ho hb2 hnb hown c7 hs1 hsw hp hr0 HStart o hd hx
  go_enter Try.func94, Try.ntmps94
  go_wp2_with (at_builtin; refine wpList_append_at rfl (.tmp 36) (.tmp 41) rfl (w.heap.size + 1) (.slice (some ⟨w.heap.size + 1, 0, none⟩) 0 0) [] rfl HOwn.out aa (s.nd x).attrs.length ac (s.nd x).attrs rfl rfl HAsl.out (by first | omega | (simp only [List.length_nil]; omega)) HSw.out ?_)
  intro a1 c1' w3 hown1 hg1 _
  try simp only [List.nil_append] at hown1
  try simp only [List.nil_append]
  obtain ⟨d4, f4, kb2, hcl⟩ := HSt2.out w3 a1 c1' hg1 hown1
  have HCl := Lib.hid hcl
  clear hown1 hg1 hcl c1 c2 c3 c4 c4b f1 ff
  go_wp2_with fail
  go_loopw [6, 7] (fun v v7 wr => ∃ (i : Nat) (kb2 : Nat → Nat) (ka : Option Addr) (kc : Nat), i ≤ (s.F.kids x).length ∧ v = .int .i64 i ∧ CpL d s x fb row pl B kb w i kb2 ka kc wr) (fun v _ _ => (s.F.kids x).length - (intOf v).toNat)
  case atStart => exact ⟨0, kb2, none, 0, Nat.zero_le _, rfl, HCl.out⟩
  case round =>
    obtain ⟨i, kb4, k4, kc4, hi, rfl, hC⟩ := hrel
    obtain ⟨q7, hrs⟩ := HRow.out wr hC.turn
    have HC := Lib.hid hC
    by_cases hlti : i < (s.F.kids x).length
    · obtain ⟨b, off, rfl, hbB, hc⟩ := hrs.at_ (by rw [ptrs_length]; omega)
      have g1 := hc i (by rw [ptrs_length]; exact hlti)
      rw [ptrs_at hlti, ← hC.old _ (HKid.out i hlti)] at g1
      have HCall := Lib.hid (HIH.out i hlti kb4 k4 kc4 wr hC)
      have HSt := Lib.hid (fun e w2 => HStep.out i kb4 k4 kc4 wr hC hlti e w2)
      obtain ⟨y, hy⟩ : ∃ y, y = kb4 (s.F.kids x)[i] := ⟨_, rfl⟩
      rw [← hy] at g1 HCall
      clear hc hrs hy hC
      go_wp2_with fail
      refine HCall.out.mono ?_
      intro e w2 hP
      obtain ⟨kr, kb5, L, rfl, hLl, z6, zf, z7, zo, zr, zs, zend⟩ := HSt.out e w2 hP
      have HZo := Lib.hid zo
      have HZr := Lib.hid zr
      have HZs := Lib.hid zs
      have HZe := Lib.hid zend
      have HLl := Lib.hid hLl
      clear hP zo zr zs zend hLl g1 q7
      go_wp2_with (at_builtin; refine wpList_append_kn _ rfl (.tmp 72) (.tmp 74) rfl kb5 w.heap.size (.slice k4 i kc4) L rfl HZo.out (some ⟨w2.heap.size, 0, none⟩) 1 1 [(cpK d s x i).N] rfl rfl HZr.out (by have := HLl.out; simp only [List.length_cons, List.length_nil]; omega) HZs.out ?_)
      intro a2 c2 w5 hown2 hg2 hat2
      obtain ⟨y7, yf, hC5⟩ := HZe.out a2 c2 (L.length + 1) w5 (by rw [HLl.out]) hg2 (by simpa using hown2) (by simpa using hat2)
      have HC5 := Lib.hid hC5
      clear hown2 hg2 hat2 hC5
      go_wp2_with fail
      go_roundw
      case rel => exact ⟨i + 1, kb5, a2, c2, by omega, by go_num, HC5.out⟩
      case measure => simp [intOf]; omega
    · have e : i = (s.F.kids x).length := by omega
      have HF : Hid (CopyPost s (cpK d s x (s.F.kids x).length) fb row pl B kb w (.returned (.pointer (some ⟨w.heap.size, 0, none⟩))) wr) := by
        rw [← e]
        exact ⟨kb4, by rw [hC.me], hC.old, hC.kno, hC.fst, hC.turn, hC.new⟩
      clear e hrs hC
      go_wp2_with fail
      go_ret
      exact HF.out

theorem copied_any (d : Nat) : ∀ {s : FoS} {h : Nat → Nat} (o : s.F.Ok (fun i => i < s.N) h) {pl : Nat → Int} {B : Nat} {kb : Nat → Nat} {w : World} (hK : Kno s.F (fun i => i < s.N) s.nd pl B kb w) (hBw : B ≤ w.heap.size) {x : Nat} (hx : x < s.N) (hd : h x ≤ d) (hp : ∀ y, s.N ≤ y → pl y = -1) {fb : Nat} {row : Value}
    (hf : w.heap[fb]? = some (.cells #[row, .int .i64 (s.N : Int), .bool s.op] 76 (0, 0))) (hN : (cpy d s x).N ≤ 100000) (hnb : ∀ y, y < s.N → NdB (s.nd y) ∧ (s.nd y).attrs.length ≤ 1000),
    Calls Try.prog 94 #[.pointer (some ⟨fb, 0, none⟩), .pointer (some ⟨kb x, 0, none⟩)] w (CopyPost s (cpy d s x) fb row pl B kb w) := by
  induction d with
  | zero =>
    intro s h o pl B kb w hK hBw x hx hd hp fb row hf hN hnb
    by_cases h6 : 600 ≤ s.N
    · have e : cpy 0 s x = (s.fresh x).shut := by show (if 600 ≤ s.N then _ else _) = _; rw [if_pos h6]
      rw [e] at hN ⊢
      exact copied_shut o hK hBw hx (hp _ (Nat.le_refl _)) hf hN h6
    · have e : cpy 0 s x = s.fresh x := by show (if 600 ≤ s.N then _ else _) = _; rw [if_neg h6]
      have hk : s.F.kids x = [] := List.eq_nil_iff_forall_not_mem.2 fun c hc => by
        have := o.ht _ _ ((o.mem x c).1 hc); omega
      have e2 : cpK 0 s x (s.F.kids x).length = s.fresh x := by rw [hk]; exact cpK_zero 0 s x
      have := copied_walk (d := 0) o hK hBw hx (by omega) (hp _ (Nat.le_refl _)) hf (by rw [e2, ← e]; exact hN) h6 (hnb x hx).1 (hnb x hx).2 (fun i hi => by rw [hk] at hi; simp at hi)
      rw [e2] at this
      rw [e]; exact this
  | succ d ih =>
    intro s h o pl B kb w hK hBw x hx hd hp fb row hf hN hnb
    by_cases h6 : 600 ≤ s.N
    · have e : cpy (d + 1) s x = (s.fresh x).shut := by show (if 600 ≤ s.N then _ else _) = _; rw [if_pos h6]
      rw [e] at hN ⊢
      exact copied_shut o hK hBw hx (hp _ (Nat.le_refl _)) hf hN h6
    · have e := cpK_end d s x h6
      rw [← e] at hN ⊢
      refine copied_walk o hK hBw hx hd (hp _ (Nat.le_refl _)) hf hN h6 (hnb x hx).1 (hnb x hx).2 fun i hi kb2 ka kc wr H => ?_
      obtain ⟨⟨h', eA⟩, -, -⟩ := cpK_ok o hx hd i (Nat.le_of_lt hi)
      obtain ⟨-, -, hle⟩ := cpK_ok o hx hd (i + 1) hi
      have h1 := (o.mem x _).1 (List.getElem_mem hi)
      have h2 := (o.dom _ _ h1).2
      have h3 := o.ht _ _ h1
      have hlt := eA.lt
      refine ih eA.ok H.kno (Nat.le_trans hBw H.turn.size) (by omega) (by rw [eA.hold _ h2]; omega) (fun y hy => hp y (by omega)) H.fst ?_ (fun y hy => ?_)
      · rw [cpK_succ d s x hi] at hle
        exact Nat.le_trans (show (cpy d (cpK d s x i) (s.F.kids x)[i]).N ≤ _ from hle) hN
      · by_cases e2 : y < s.N
        · rw [eA.ndo y e2]; exact hnb y e2
        · obtain ⟨z, hz, e3⟩ := eA.newn y (by omega) hy
          rw [e3]; exact hnb z hz
end Go.Proofs.Ytmhhfljbocbolaa

namespace Go.Proofs.Ytmhhfljbocbolaa
set_option linter.unusedVariables false

def FoS.row (s : FoS) (p k : Nat) (L : List Nat) : FoS := { s with F := s.F.putRow p k L }

/-- What stands above a node hangs on what stands above those alone. -/
theorem up_same {F G : Fo} {p : Nat} (h : ∀ z, F.Up z p → G.par z = F.par z) (y : Nat) : F.Up y p ↔ G.Up y p := by
  have key : ∀ {y q : Nat}, F.Up y q → (∀ z, F.Up z q → G.par z = F.par z) → G.Up y q := by
    intro y q u
    induction u with
    | self => intro _; exact .self
    | @step q' p' h1 h2 ih => intro hh; exact .step (by rw [hh q' .self]; exact h1) (ih fun z hz => hh z (.step h1 hz))
  have key2 : ∀ {y q : Nat}, G.Up y q → (∀ z, F.Up z q → G.par z = F.par z) → F.Up y q := by
    intro y q u
    induction u with
    | self => intro _; exact .self
    | @step q' p' h1 h2 ih =>
      intro hh
      have e : F.par q' = some p' := by rw [← hh q' .self]; exact h1
      exact .step e (ih fun z hz => hh z (.step e hz))
  exact ⟨fun u => key u h, fun u => key2 u h⟩

theorem list_max (h : Nat → Nat) : ∀ L : List Nat, ∃ M, ∀ y ∈ L, h y ≤ M := by
  intro L
  induction L with
  | nil => exact ⟨0, by simp⟩
  | cons a L ih =>
    obtain ⟨M, hM⟩ := ih
    refine ⟨M + h a, fun y hy => ?_⟩
    rcases List.mem_cons.1 hy with rfl | hy
    · omega
    · have := hM y hy; omega

theorem row_ok {F : Fo} {S : Nat → Prop} {h : Nat → Nat} (o : F.Ok S h) {p : Nat} {l1 l2 L : List Nat} (hk : F.kids p = l1 ++ l2) (hp : S p) (hL : ∀ r ∈ L, S r ∧ F.par r = none ∧ ¬ F.Up r p) (hn : L.Nodup) :
    ∃ h', (F.putRow p l1.length L).Ok S h' ∧ ∀ y, ¬ F.Up y p → h' y = h y := by
  obtain ⟨M, hM⟩ := list_max h L
  have hdis : ∀ a ∈ F.kids p, a ∉ L := fun a ha haL => by
    have := (o.mem p a).1 ha
    rw [(hL a haL).2.1] at this; cases this
  have hkk := putRow_kids F p hk L
  classical
  refine ⟨fun y => if F.Up y p then h y + M + 1 else h y, ⟨fun q => ?_, fun q c => ?_, fun q c hc => ?_, fun q c hc => ?_⟩, fun y hy => if_neg hy⟩
  · by_cases e : q = p
    · subst e
      rw [hkk]
      have h1 := o.nodup q
      rw [hk] at h1 hdis
      have hperm : (l1 ++ L ++ l2).Perm (L ++ (l1 ++ l2)) := by
        rw [List.append_assoc]
        exact (List.perm_append_comm_assoc l1 L l2)
      refine hperm.nodup_iff.2 (List.nodup_append.2 ⟨hn, h1, fun a ha b hb e => ?_⟩)
      subst e
      exact hdis a hb ha
    · have : (F.putRow p l1.length L).kids q = F.kids q := if_neg e
      rw [this]; exact o.nodup q
  · show c ∈ (F.putRow p l1.length L).kids q ↔ (if c ∈ L then some p else F.par c) = some q
    by_cases e : q = p
    · subst e
      rw [hkk]
      by_cases hc : c ∈ L
      · simp [hc]
      · rw [if_neg hc, ← o.mem, hk]
        simp [hc]
    · have : (F.putRow p l1.length L).kids q = F.kids q := if_neg e
      rw [this, o.mem]
      by_cases hc : c ∈ L
      · rw [if_pos hc, (hL c hc).2.1]
        constructor
        · intro h; cases h
        · intro h; cases h; exact absurd rfl e
      · rw [if_neg hc]
  · change (if c ∈ L then some p else F.par c) = some q at hc
    by_cases e : c ∈ L
    · rw [if_pos e] at hc; cases hc; exact ⟨hp, (hL c e).1⟩
    · rw [if_neg e] at hc; exact o.dom q c hc
  · change (if c ∈ L then some p else F.par c) = some q at hc
    show (if F.Up c p then h c + M + 1 else h c) < (if F.Up q p then h q + M + 1 else h q)
    by_cases e : c ∈ L
    · rw [if_pos e] at hc; cases hc
      have := hM c e
      rw [if_neg (hL c e).2.2, if_pos .self]; omega
    · rw [if_neg e] at hc
      have := o.ht q c hc
      by_cases u : F.Up c p
      · rw [if_pos u, if_pos (up_above hc u)]; omega
      · rw [if_neg u]; split <;> omega

/-- A row that is put where a node does not stand leaves what stands above that one. -/
theorem row_up {F : Fo} {p k : Nat} {L : List Nat} {x : Nat} (hx : ∀ r ∈ L, ¬ F.Up r x) (y : Nat) : F.Up y x ↔ (F.putRow p k L).Up y x := by
  refine up_same (fun z hz => ?_) y
  show (if z ∈ L then some p else F.par z) = F.par z
  rw [if_neg fun hm => hx z hm hz]

theorem up_old {s a : FoS} {h : Nat → Nat} (o : s.F.Ok (fun i => i < s.N) h) (hpar : ∀ y, y < s.N → a.F.par y = s.F.par y) {y p : Nat} (hp : p < s.N) : s.F.Up y p ↔ a.F.Up y p := by
  refine up_same (fun z hz => hpar z ?_) y
  have key : ∀ {z q : Nat}, s.F.Up z q → q < s.N → z < s.N := by
    intro z q u
    induction u with
    | self => exact fun h => h
    | step h1 _ ih => exact fun _ => ih (o.dom _ _ h1).1
  exact key hz hp

theorem cpy_row (d : Nat) : ∀ (s : FoS) (h : Nat → Nat) (x p k : Nat) (L : List Nat), s.F.Ok (fun i => i < s.N) h → x < s.N → h x ≤ d → ¬ s.F.Up x p → p < s.N → (∀ r ∈ L, r < s.N) → cpy d (s.row p k L) x = (cpy d s x).row p k L := by
  induction d with
  | zero =>
    intro s h x p k L o hx hd hu hp hL
    show (if 600 ≤ s.N then ((s.row p k L).fresh x).shut else (s.row p k L).fresh x) = (if 600 ≤ s.N then (s.fresh x).shut else s.fresh x).row p k L
    split <;> rfl
  | succ d ih =>
    intro s h x p k L o hx hd hu hp hL
    have hxp : x ≠ p := fun e => hu (by rw [e]; exact .self)
    have hkx : (s.row p k L).F.kids x = s.F.kids x := if_neg hxp
    show (if 600 ≤ s.N then ((s.row p k L).fresh x).shut else ((s.row p k L).F.kids x).foldl (cstep (cpy d) s.N) ((s.row p k L).fresh x)) = (if 600 ≤ s.N then (s.fresh x).shut else (s.F.kids x).foldl (cstep (cpy d) s.N) (s.fresh x)).row p k L
    split
    · rfl
    · rw [hkx]
      have key : ∀ (M : List Nat) (a : FoS) (ha : Nat → Nat), Ext s a h ha x → (∀ c ∈ M, s.F.par c = some x) → M.foldl (cstep (cpy d) s.N) (a.row p k L) = (M.foldl (cstep (cpy d) s.N) a).row p k L := by
        intro M
        induction M with
        | nil => intro a ha e _; rfl
        | cons c M ihM =>
          intro a ha e hM
          have h1 := hM c List.mem_cons_self
          have h2 := (o.dom x c h1).2
          have h3 := o.ht x c h1
          have hlt := e.lt
          have hac : ha c ≤ d := by rw [e.hold c h2]; omega
          have hna : ¬ a.F.Up c p := fun u => hu (up_above h1 ((up_old o e.par hp).2 u))
          have e1 := ih a ha c p k L e.ok (by omega) hac hna (by omega) (fun r hr => by have := hL r hr; omega)
          obtain ⟨hb, eb⟩ := cpy_ok d a ha c e.ok (by omega) hac
          obtain ⟨e2, _⟩ := ext_step e h2 eb h3
          show M.foldl (cstep (cpy d) s.N) ((cpy d (a.row p k L) c).putB s.N s.N a.N) = _
          have e3 : (cpy d (a.row p k L) c).putB s.N s.N a.N = ((cpy d a c).putB s.N s.N a.N).row p k L := by
            rw [e1]
            unfold FoS.putB FoS.row Fo.putRow
            congr 1
            refine Fo.ext2 (fun i => ?_) (fun q => ?_)
            · show (if i = a.N then some s.N else if i ∈ L then some p else (cpy d a c).F.par i) = (if i ∈ L then some p else if i = a.N then some s.N else (cpy d a c).F.par i)
              by_cases ei : i = a.N
              · have : i ∉ L := fun hm => by have := hL i hm; omega
                rw [if_pos ei, if_neg this, if_pos ei]
              · rw [if_neg ei, if_neg ei]
            · show (if q = s.N then insB s.N a.N (if q = p then _ else _) else (if q = p then _ else _)) = (if q = p then List.take k (if q = s.N then _ else _) ++ L ++ List.drop k (if q = s.N then _ else _) else (if q = s.N then _ else _))
              by_cases eq : q = p
              · have : q ≠ s.N := by omega
                simp only [if_pos eq, if_neg this]
              · simp only [if_neg eq]
          rw [e3]
          exact ihM _ _ e2 (fun c' hc' => hM c' (List.mem_cons_of_mem _ hc'))
      exact key (s.F.kids x) (s.fresh x) _ (ext_fresh o hx) (fun c hc => (o.mem x c).1 hc)
end Go.Proofs.Ytmhhfljbocbolaa

namespace Go.Proofs.Ytmhhfljbocbolaa
set_option linter.unusedVariables false

def innS (last : Bool) (s : FoS) (ws : List Nat) : FoS := ws.foldl (fun s w => if last then s.cut w else cpy 200 s w) s
def roots : FoS → List Nat → List Nat
  | _, [] => []
  | s, w :: ws => s.N :: roots (cpy 200 s w) ws
def innL (last : Bool) (s : FoS) (ws : List Nat) : List Nat := if last then ws else roots s ws
def kpar (op : Int) (F : Fo) (x : Nat) : Nat := if op = 4 then (F.par x).getD 0 else x
def kpos (op : Int) (F : Fo) (x p : Nat) : Nat := if op = 2 then 0 else ((F.kids p).takeWhile fun c => !decide (c = x)).length
def insOne (op : Int) (last : Bool) (s : FoS) (x : Nat) (ws : List Nat) : FoS :=
  (innS last s ws).row (kpar op (innS last s ws).F x) (kpos op (innS last s ws).F x (kpar op (innS last s ws).F x)) (innL last s ws)
def insN (op : Int) (s : FoS) (xs ws : List Nat) : Nat → FoS
  | 0 => s
  | i + 1 => insOne op (decide (i + 1 = xs.length)) (insN op s xs ws i) (xs.getD i 0) ws

theorem innS_snoc (last : Bool) (s : FoS) (ws : List Nat) (w : Nat) : innS last s (ws ++ [w]) = if last then (innS last s ws).cut w else cpy 200 (innS last s ws) w := by simp [innS]
theorem roots_snoc (w : Nat) : ∀ (ws : List Nat) (s : FoS), roots s (ws ++ [w]) = roots s ws ++ [(innS false s ws).N] := by
  intro ws
  induction ws with
  | nil => intro s; rfl
  | cons a ws ih => intro s; show s.N :: roots (cpy 200 s a) (ws ++ [w]) = _; rw [ih]; rfl
theorem innL_snoc (last : Bool) (s : FoS) (ws : List Nat) (w : Nat) : innL last s (ws ++ [w]) = innL last s ws ++ [if last then w else (innS last s ws).N] := by
  cases last
  · exact roots_snoc w ws s
  · rfl
theorem innL_length (last : Bool) (s : FoS) : ∀ ws : List Nat, (innL last s ws).length = ws.length := by
  cases last
  · intro ws
    induction ws generalizing s with
    | nil => rfl
    | cons a ws ih => show (s.N :: roots (cpy 200 s a) ws).length = _; have := ih (cpy 200 s a); simp only [innL, Bool.false_eq_true, if_false] at this; simp [this]
  · intro ws; rfl

theorem Fo.Up.tr {F : Fo} {a b c : Nat} (u : F.Up a b) (v : F.Up b c) : F.Up a c := by
  induction v with
  | self => exact u
  | step h1 _ ih => exact .step h1 ih
theorem Fo.Up.lt_of {F : Fo} {N : Nat} {h : Nat → Nat} (o : F.Ok (fun i => i < N) h) {z q : Nat} (u : F.Up z q) (hq : q < N) : z < N := by
  induction u with
  | self => exact hq
  | step h1 _ ih => exact ih (o.dom _ _ h1).1

/-- Between the targets: what is known of the forest. -/
structure Inv (n : Nat) (F0 : Fo) (h0 : Nat → Nat) (nd0 : Nat → Nd) (op : Int) (xs ws : List Nat) (s : FoS) (h : Nat → Nat) : Prop where
  ok : s.F.Ok (fun i => i < s.N) h
  le : n ≤ s.N
  sub : ∀ w ∈ ws, ∀ y, F0.Up w y → s.F.kids y = F0.kids y ∧ h y = h0 y
  up : ∀ w ∈ ws, ∀ x ∈ xs, ¬ s.F.Up w x
  par : op = 4 → ∀ x ∈ xs, s.F.par x ≠ none
  nds : ∀ y, y < s.N → ∃ z, z < n ∧ s.nd y = nd0 z

/-- While nodes are copied: all that was is as it was. -/
structure InnC (n : Nat) (nd0 : Nat → Nd) (s a : FoS) (h ha : Nat → Nat) (l : List Nat) : Prop where
  ok : a.F.Ok (fun i => i < a.N) ha
  le : s.N ≤ a.N
  hold : ∀ y, y < s.N → ha y = h y
  kids : ∀ y, y < s.N → a.F.kids y = s.F.kids y
  par : ∀ y, y < s.N → a.F.par y = s.F.par y
  ndo : ∀ y, y < s.N → a.nd y = s.nd y
  nds : ∀ y, y < a.N → ∃ z, z < n ∧ a.nd y = nd0 z
  root : ∀ r ∈ l, s.N ≤ r ∧ r < a.N ∧ a.F.par r = none
  nodup : l.Nodup

theorem innC {n : Nat} {F0 : Fo} {h0 : Nat → Nat} {nd0 : Nat → Nd} {op : Int} {xs ws : List Nat} {s : FoS} {h : Nat → Nat} (I : Inv n F0 h0 nd0 op xs ws s h) (hh : ∀ w ∈ ws, w < n ∧ h0 w ≤ 200) : ∀ (j : Nat), ∃ ha, InnC n nd0 s (innS false s (ws.take j)) h ha (innL false s (ws.take j)) := by
  have hw : ∀ w ∈ ws, w < s.N ∧ h w ≤ 200 := fun w hm => ⟨by have := (hh w hm).1; have := I.le; omega, by rw [(I.sub w hm w .self).2]; exact (hh w hm).2⟩
  intro j
  induction j with
  | zero => exact ⟨h, I.ok, Nat.le_refl _, fun _ _ => rfl, fun _ _ => rfl, fun _ _ => rfl, fun _ _ => rfl, I.nds, fun r hr => by simp [innL, roots] at hr, by simp [innL, roots]⟩
  | succ j ih =>
    obtain ⟨ha, A⟩ := ih
    by_cases hj : j < ws.length
    · obtain ⟨w1, w2⟩ := hw ws[j] (List.getElem_mem hj)
      have hle := A.le
      obtain ⟨hb, E⟩ := cpy_ok 200 (innS false s (ws.take j)) ha ws[j] A.ok (by omega) (by rw [A.hold _ w1]; exact w2)
      have hlt := E.lt
      rw [List.take_succ_eq_append_getElem hj, innS_snoc, innL_snoc]
      simp only [Bool.false_eq_true, if_false]
      refine ⟨hb, E.ok, by omega, fun y hy => (E.hold y (by omega)).trans (A.hold y hy), fun y hy => (E.kids y (by omega)).trans (A.kids y hy), fun y hy => (E.par y (by omega)).trans (A.par y hy), fun y hy => (E.ndo y (by omega)).trans (A.ndo y hy), fun y hy => ?_, fun r hr => ?_, ?_⟩
      · by_cases e : y < (innS false s (ws.take j)).N
        · rw [E.ndo y e]; exact A.nds y e
        · obtain ⟨z, hz, e2⟩ := E.newn y (by omega) hy
          rw [e2]; exact A.nds z hz
      · rcases List.mem_append.1 hr with h1 | h1
        · obtain ⟨r1, r2, r3⟩ := A.root r h1
          exact ⟨r1, by omega, (E.par r r2).trans r3⟩
        · rw [List.mem_singleton] at h1
          subst h1
          exact ⟨hle, hlt, E.root⟩
      · refine List.nodup_append.2 ⟨A.nodup, by simp, fun a ha b hb e => ?_⟩
        rw [List.mem_singleton] at hb
        have := (A.root a ha).2.1
        omega
    · have e : ws.take (j + 1) = ws.take j := by rw [List.take_of_length_le (by omega), List.take_of_length_le (by omega)]
      rw [e]; exact ⟨ha, A⟩

/-- While nodes are cut. -/
structure InnT (s a : FoS) (h : Nat → Nat) (l : List Nat) : Prop where
  ok : a.F.Ok (fun i => i < a.N) h
  N : a.N = s.N
  nd : a.nd = s.nd
  op : a.op = s.op
  par : ∀ y, a.F.par y = if y ∈ l then none else s.F.par y
  kids : ∀ y, a.F.kids y = (s.F.kids y).filter fun c => !decide (c ∈ l)

theorem innT {s : FoS} {h : Nat → Nat} (o : s.F.Ok (fun i => i < s.N) h) (ws : List Nat) : InnT s (innS true s ws) h ws := by
  have key : ∀ (ws : List Nat) (s : FoS), (innS true s ws).F = cutAll s.F ws ∧ (innS true s ws).N = s.N ∧ (innS true s ws).nd = s.nd ∧ (innS true s ws).op = s.op := by
    intro ws
    induction ws with
    | nil => intro s; exact ⟨rfl, rfl, rfl, rfl⟩
    | cons w ws ih => intro s; exact ih (s.cut w)
  obtain ⟨k1, k2, k3, k4⟩ := key ws s
  refine ⟨by rw [k1, k2]; exact cutAll_ok o ws, k2, k3, k4, fun y => by rw [k1, cutAll_par], fun y => by rw [k1, cutAll_kids]⟩

theorem up_sub {F0 G : Fo} {w : Nat} (hm0 : ∀ p c, c ∈ F0.kids p ↔ F0.par c = some p) (hm : ∀ p c, c ∈ G.kids p ↔ G.par c = some p) (hk : ∀ y, F0.Up w y → G.kids y = F0.kids y) {y : Nat} (u : F0.Up w y) : G.Up w y := by
  induction u with
  | self => exact .self
  | @step y p h1 h2 ih =>
    refine .step ((hm p y).1 ?_) ih
    rw [hk p h2]
    exact (hm0 p y).2 h1

theorem tw_split (x : Nat) (K : List Nat) : K = (K.takeWhile fun c => !decide (c = x)) ++ K.dropWhile (fun c => !decide (c = x)) := (List.takeWhile_append_dropWhile).symm
theorem tw_not (x : Nat) : ∀ K : List Nat, x ∉ (K.takeWhile fun c => !decide (c = x)) := by
  intro K
  induction K with
  | nil => simp
  | cons a K ih =>
    rw [List.takeWhile_cons]
    by_cases e : a = x
    · simp [e]
    · simp [e, Ne.symm e, ih]
theorem tw_all {x : Nat} : ∀ {K : List Nat}, x ∉ K → (K.takeWhile fun c => !decide (c = x)) = K := by
  intro K
  induction K with
  | nil => intro _; rfl
  | cons a K ih =>
    intro h
    have h1 : a ≠ x := fun e => h (by rw [e]; exact List.mem_cons_self)
    rw [List.takeWhile_cons]
    simp only [decide_eq_false h1, Bool.not_false, if_true]
    rw [ih fun hm => h (List.mem_cons_of_mem _ hm)]
theorem tw_head (x : Nat) : ∀ K : List Nat, K.dropWhile (fun c => !decide (c = x)) = [] ∨ (K.dropWhile fun c => !decide (c = x)).head? = some x := by
  intro K
  induction K with
  | nil => exact .inl rfl
  | cons a K ih =>
    rw [List.dropWhile_cons]
    by_cases e : a = x
    · subst e; exact .inr (by simp)
    · simp only [decide_eq_false e, Bool.not_false, if_true]; exact ih
theorem tw_mem {x : Nat} : ∀ {K : List Nat}, x ∈ K → (K.dropWhile fun c => !decide (c = x)).head? = some x := by
  intro K
  induction K with
  | nil => intro h; cases h
  | cons a K ih =>
    intro h
    rw [List.dropWhile_cons]
    by_cases e : a = x
    · subst e; simp
    · simp only [decide_eq_false e, Bool.not_false, if_true]
      refine ih ?_
      rcases List.mem_cons.1 h with h | h
      · exact absurd h.symm e
      · exact h

/-- The place of a row, in parts. -/
theorem kpos_parts (op : Int) (hop : op = 1 ∨ op = 2 ∨ op = 4) {F : Fo} {S : Nat → Prop} {h : Nat → Nat} (o : F.Ok S h) {x : Nat} (hx : op = 4 → F.par x ≠ none) :
    ∃ l1 l2, F.kids (kpar op F x) = l1 ++ l2 ∧ l1.length = kpos op F x (kpar op F x) ∧ InsAt op F x (kpar op F x) l1 l2 ∧ x ∉ l1 ∧ (op ≠ 2 → l2 = [] ∨ l2.head? = some x) := by
  rcases hop with rfl | rfl | rfl
  · have e : kpar 1 F x = x := rfl
    rw [e]
    have hn : x ∉ F.kids x := fun hm => by have := o.ht _ _ ((o.mem _ _).1 hm); omega
    have e2 : ((F.kids x).takeWhile fun c => !decide (c = x)) = F.kids x := by
      exact tw_all hn
    refine ⟨F.kids x, [], by simp, ?_, .inl ⟨rfl, rfl, rfl⟩, hn, fun _ => .inl rfl⟩
    unfold kpos
    rw [if_neg (by decide), e2]
  · exact ⟨[], F.kids x, rfl, rfl, .inr (.inl ⟨rfl, rfl, rfl⟩), by simp, fun h => absurd rfl h⟩
  · cases hp : F.par x with
    | none => exact absurd hp (hx rfl)
    | some p =>
      have e : kpar 4 F x = p := by unfold kpar; rw [if_pos rfl, hp]; rfl
      rw [e]
      have hm := (o.mem p x).2 hp
      refine ⟨_, _, tw_split x (F.kids p), ?_, .inr (.inr ⟨rfl, hp, tw_mem hm⟩), tw_not x _, fun _ => .inr (tw_mem hm)⟩
      unfold kpos
      rw [if_neg (by decide)]

theorem kpar_lt {op : Int} {F : Fo} {N : Nat} {h : Nat → Nat} (o : F.Ok (fun i => i < N) h) {x : Nat} (hxN : x < N) (hx : op = 4 → F.par x ≠ none) : kpar op F x < N ∧ F.Up (kpar op F x) x := by
  unfold kpar
  by_cases e : op = 4
  · rw [if_pos e]
    cases hp : F.par x with
    | none => exact absurd hp (hx e)
    | some p => exact ⟨(o.dom p x hp).1, .step hp .self⟩
  · rw [if_neg e]; exact ⟨hxN, .self⟩

/-- The next target, with copies. -/
theorem inv_next {n : Nat} {F0 : Fo} {h0 : Nat → Nat} {nd0 : Nat → Nd} {op : Int} (hop : op = 1 ∨ op = 2 ∨ op = 4) (o0 : F0.Ok (fun i => i < n) h0) {xs ws : List Nat} {s : FoS} {h : Nat → Nat} (I : Inv n F0 h0 nd0 op xs ws s h) (hh : ∀ w ∈ ws, w < n ∧ h0 w ≤ 200) (hxs : ∀ x ∈ xs, x < n) {x : Nat} (hx : x ∈ xs) :
    ∃ h', Inv n F0 h0 nd0 op xs ws (insOne op false s x ws) h' := by
  obtain ⟨ha, A0⟩ := innC I hh ws.length
  rw [List.take_length] at A0
  obtain ⟨a, hA⟩ : ∃ a, a = innS false s ws := ⟨_, rfl⟩
  have hins : insOne op false s x ws = a.row (kpar op a.F x) (kpos op a.F x (kpar op a.F x)) (innL false s ws) := by rw [hA]; rfl
  rw [← hA] at A0
  have hxs' : ∀ z ∈ xs, z < s.N := fun z hz => by have := hxs z hz; have := I.le; omega
  have hxN := hxs' x hx
  have hpx : op = 4 → a.F.par x ≠ none := fun e => by rw [A0.par x hxN]; exact I.par e x hx
  obtain ⟨hpN, hpU⟩ := kpar_lt A0.ok (Nat.lt_of_lt_of_le hxN A0.le) hpx
  obtain ⟨l1, l2, hk, hl1, hIn, -⟩ := kpos_parts op hop A0.ok hpx
  have hpUs : s.F.Up (kpar op a.F x) x := (up_old I.ok A0.par hxN).2 hpU
  have hps : kpar op a.F x < s.N := hpUs.lt_of I.ok hxN
  obtain ⟨p, hp⟩ : ∃ p, p = kpar op a.F x := ⟨_, rfl⟩
  rw [← hp] at hins hk hl1 hpN hpUs hps
  have hwp : ∀ w ∈ ws, ¬ s.F.Up w p := fun w hw u => I.up w hw x hx (u.tr hpUs)
  have hL : ∀ r ∈ innL false s ws, r < a.N ∧ a.F.par r = none ∧ ¬ a.F.Up r p := fun r hr => by
    obtain ⟨r1, r2, r3⟩ := A0.root r hr
    refine ⟨r2, r3, fun u => ?_⟩
    have := ((up_old I.ok A0.par hps).2 u).lt_of I.ok hps
    omega
  obtain ⟨h', ok', hh'⟩ := row_ok A0.ok hk hpN hL A0.nodup
  rw [hl1] at ok'
  have hs0 : ∀ w ∈ ws, ∀ y, F0.Up w y → s.F.Up w y := fun w hw y u => up_sub o0.mem I.ok.mem (fun y hy => (I.sub w hw y hy).1) u
  have hwN : ∀ w ∈ ws, ∀ y, F0.Up w y → y < s.N := fun w hw y u => by
    have h1 := o0.up_mem (S := fun i => i < n) (hh w hw).1 u
    have := I.le
    exact Nat.lt_of_lt_of_le h1 this
  refine ⟨h', ?_⟩
  rw [hins]
  refine ⟨ok', Nat.le_trans I.le A0.le, fun w hw y u => ?_, fun w hw z hz => ?_, fun e z hz => ?_, A0.nds⟩
  · have yN := hwN w hw y u
    have us := hs0 w hw y u
    have hyp : ¬ s.F.Up y p := fun v => hwp w hw (us.tr v)
    have hya : ¬ a.F.Up y p := fun v => hyp ((up_old I.ok A0.par hps).2 v)
    have e1 : (a.row p (kpos op a.F x p) (innL false s ws)).F.kids y = a.F.kids y := if_neg fun e => hyp (by rw [e]; exact .self)
    rw [e1, A0.kids y yN, hh' y hya, A0.hold y yN]
    exact I.sub w hw y u
  · intro u
    have hzN := hxs' z hz
    have hr : ∀ r ∈ innL false s ws, ¬ a.F.Up r z := fun r hr v => by
      have h1 := (A0.root r hr).1
      have := ((up_old I.ok A0.par hzN).2 v).lt_of I.ok hzN
      omega
    exact I.up w hw z hz ((up_old I.ok A0.par hzN).2 ((row_up hr w).2 u))
  · have hzN := hxs' z hz
    show (if z ∈ innL false s ws then some p else a.F.par z) ≠ none
    split
    · simp
    · rw [A0.par z hzN]; exact I.par e z hz

/-- The last target: the nodes themselves. -/
theorem inv_last {n : Nat} {F0 : Fo} {h0 : Nat → Nat} {nd0 : Nat → Nd} {op : Int} (hop : op = 1 ∨ op = 2 ∨ op = 4) {xs ws : List Nat} {s : FoS} {h : Nat → Nat} (I : Inv n F0 h0 nd0 op xs ws s h) (hn : ws.Nodup) (hh : ∀ w ∈ ws, w < n) (hxs : ∀ x ∈ xs, x < n) {x : Nat} (hx : x ∈ xs) :
    ∃ h', (insOne op true s x ws).F.Ok (fun i => i < (insOne op true s x ws).N) h' ∧ (insOne op true s x ws).N = s.N ∧ (insOne op true s x ws).nd = s.nd ∧ (insOne op true s x ws).op = s.op := by
  have T := innT I.ok ws
  obtain ⟨a, hA⟩ : ∃ a, a = innS true s ws := ⟨_, rfl⟩
  have hins : insOne op true s x ws = a.row (kpar op a.F x) (kpos op a.F x (kpar op a.F x)) ws := by rw [hA]; rfl
  rw [← hA] at T
  have hxN : x < s.N := by have := hxs x hx; have := I.le; omega
  have hxw : x ∉ ws := fun hm => I.up x hm x hx .self
  have hpx : op = 4 → a.F.par x ≠ none := fun e => by rw [T.par x, if_neg hxw]; exact I.par e x hx
  obtain ⟨hpN, hpU⟩ := kpar_lt T.ok (by rw [T.N]; exact hxN) hpx
  obtain ⟨l1, l2, hk, hl1, -⟩ := kpos_parts op hop T.ok hpx
  have hsub : ∀ {y q : Nat}, a.F.Up y q → s.F.Up y q := by
    intro y q u
    induction u with
    | self => exact .self
    | step h1 _ ih =>
      rw [T.par] at h1
      split at h1
      · cases h1
      · exact .step h1 ih
  obtain ⟨h', ok', -⟩ := row_ok T.ok hk hpN (L := ws) (fun r hr => ⟨by rw [T.N]; have := hh r hr; have := I.le; omega, by rw [T.par, if_pos hr], fun u => I.up r hr x hx (hsub (u.tr hpU))⟩) hn
  rw [hl1] at ok'
  rw [hins]
  exact ⟨h', ok', T.N, T.nd, T.op⟩

/-- What inserted wants. -/
theorem ins_ready {n : Nat} {F0 : Fo} {h0 : Nat → Nat} {nd0 : Nat → Nd} {op : Int} (hop : op = 1 ∨ op = 2 ∨ op = 4) {xs ws : List Nat} {s : FoS} {h : Nat → Nat} (I : Inv n F0 h0 nd0 op xs ws s h) (hn : ws.Nodup) (hh : ∀ w ∈ ws, w < n ∧ h0 w ≤ 200) (hxs : ∀ x ∈ xs, x < n) {x : Nat} (hx : x ∈ xs) (last : Bool) :
    ∃ h2 l1 l2, (innS last s ws).F.Ok (fun i => i < (innS last s ws).N) h2 ∧ (innS last s ws).F.kids (kpar op (innS last s ws).F x) = l1 ++ l2 ∧ l1.length = kpos op (innS last s ws).F x (kpar op (innS last s ws).F x) ∧ InsAt op (innS last s ws).F x (kpar op (innS last s ws).F x) l1 l2 ∧ x < (innS last s ws).N ∧ kpar op (innS last s ws).F x < (innS last s ws).N ∧
      (∀ y ∈ innL last s ws, y < (innS last s ws).N ∧ (innS last s ws).F.par y = none ∧ kpar op (innS last s ws).F x ≠ y ∧ ¬ (innS last s ws).F.Up y (kpar op (innS last s ws).F x)) ∧ (innL last s ws).Nodup := by
  have hxN : x < s.N := by have := hxs x hx; have := I.le; omega
  cases last
  · obtain ⟨ha, A⟩ := innC I hh ws.length
    rw [List.take_length] at A
    have hpx : op = 4 → (innS false s ws).F.par x ≠ none := fun e => by rw [A.par x hxN]; exact I.par e x hx
    obtain ⟨hpN, hpU⟩ := kpar_lt A.ok (Nat.lt_of_lt_of_le hxN A.le) hpx
    obtain ⟨l1, l2, hk, hl1, hIn, -⟩ := kpos_parts op hop A.ok hpx
    have hps := ((up_old I.ok A.par hxN).2 hpU).lt_of I.ok hxN
    exact ⟨ha, l1, l2, A.ok, hk, hl1, hIn, Nat.lt_of_lt_of_le hxN A.le, hpN, fun y hy => ⟨(A.root y hy).2.1, (A.root y hy).2.2, by have := (A.root y hy).1; omega, fun u => by
      have h1 := (A.root y hy).1
      have := ((up_old I.ok A.par hps).2 u).lt_of I.ok hps
      omega⟩, A.nodup⟩
  · have T := innT I.ok ws
    have hxw : x ∉ ws := fun hm => I.up x hm x hx .self
    have hpx : op = 4 → (innS true s ws).F.par x ≠ none := fun e => by rw [T.par x, if_neg hxw]; exact I.par e x hx
    obtain ⟨hpN, hpU⟩ := kpar_lt T.ok (by rw [T.N]; exact hxN) hpx
    obtain ⟨l1, l2, hk, hl1, hIn, -⟩ := kpos_parts op hop T.ok hpx
    have hsub : ∀ {y q : Nat}, (innS true s ws).F.Up y q → s.F.Up y q := by
      intro y q u
      induction u with
      | self => exact .self
      | step h1 _ ih =>
        rw [T.par] at h1
        split at h1
        · cases h1
        · exact .step h1 ih
    refine ⟨h, l1, l2, T.ok, hk, hl1, hIn, by rw [T.N]; exact hxN, hpN, fun y hy => ?_, hn⟩
    have hy2 : y ∈ ws := hy
    exact ⟨by rw [T.N]; have := (hh y hy2).1; have := I.le; omega, by rw [T.par, if_pos hy2], fun e => I.up y hy2 x hx (by rw [← e]; exact hsub hpU), fun u => I.up y hy2 x hx (hsub (u.tr hpU))⟩
end Go.Proofs.Ytmhhfljbocbolaa

namespace Go.Proofs.Ytmhhfljbocbolaa
open Go.RowKit
set_option linter.unusedVariables false

def KRows (S : Nat → Prop) (kb : Nat → Nat) (w w' : World) : Prop := ∀ y, S y → ∀ u, w'.cell? ⟨kb y, 7, none⟩ = some u → w.cell? ⟨kb y, 7, none⟩ = some u ∨ ∀ b, u.ownBlock = some b → w.heap.size ≤ b
def Cut2Post (F : Fo) (S : Nat → Prop) (nd : Nat → Nd) (pl : Nat → Int) (B : Nat) (kb : Nat → Nat) (i : Nat) (w : World) (e : Ending) (w' : World) : Prop :=
  e = .returned (.tuple #[]) ∧ (Kno (F.cut i) S nd pl B kb w' ∧ KRows S kb w w') ∧ KTurn S kb w w'

set_option maxRecDepth 100000 in
set_option maxHeartbeats 4000000 in
theorem cut2_b {F : Fo} {S : Nat → Prop} {ht : Nat → Nat} (o : F.Ok S ht) {nd : Nat → Nd} {pl : Nat → Int} {B : Nat} {kb : Nat → Nat} {w : World} (h : Kno F S nd pl B kb w) (hBw : B ≤ w.heap.size) (i p : Nat) (hp : F.par i = some p) (l1 l2 : List Nat) (hk : F.kids p = l1 ++ i :: l2) (hlen : (F.kids p).length ≤ 100000)
    (ka : Option Addr) (kc : Nat) (c7 : w.cell? ⟨kb p, 7, none⟩ = some (.slice ka (F.kids p).length kc)) (hkc : (F.kids p).length ≤ kc) (hown : w.ownsRow B 77 1 (.slice ka (F.kids p).length kc) (F.kids p).length (ptrs kb (F.kids p))) (hcap : ¬ kc = l1.length + 1) :
    Calls Try.prog 73 #[.pointer (some ⟨kb i, 0, none⟩)] w (Cut2Post F S nd pl B kb i w) := by
  have HP := Lib.hid (place_some o h i p hp l1 l2 hk hlen)
  obtain ⟨hSp, hSi⟩ := o.dom p i hp
  have hpi : p ≠ i := fun e => by have := o.ht p i hp; rw [e] at this; omega
  have hne : kb p ≠ kb i := fun e => hpi (h.inj p i hSp hSi e)
  obtain ⟨if_, c6, -⟩ := h.cells hSi
  obtain ⟨pf, -⟩ := h.cells hSp
  rw [hp] at c6
  simp only [ptrTo, Option.map_some] at c6
  obtain ⟨_, _, hv, _, hrs⟩ := RSl.own hown
  cases hv
  have hkl : (F.kids p).length = l1.length + l2.length + 1 := by rw [hk]; simp; omega
  obtain ⟨b, off, rfl, hbB, hc⟩ := hrs.at_ (by rw [ptrs_length]; omega)
  have hlp := h.lt hSp
  have hli := h.lt hSi
  have hnd := o.nodup p
  have HL2 : Hid ((F.kids p).length - (l1.length + 1) = l2.length) := by unfold Hid; omega
  have HL3 : Hid (l1.length + l2.length ≤ 100000) := by unfold Hid; omega
  have hb0 : Below w.heap.size w (w.alloc (.cells #[] 77)).drew := ((Below.refl _ _).alloc (Nat.le_refl _) _).drew
  have HB0 := Lib.hid hb0
  have HE : Hid ((w.alloc (.cells #[] 77)).drew.ownsRow w.heap.size 77 1 (.slice (some ⟨w.heap.size, 0, none⟩) 0 0) 0 []) := own_empty w 77
  have HR1 : Hid (∀ W, Below w.heap.size w W → RSl W W.heap.size (some ⟨b, off, none⟩) (ptrs kb l1)) := by
    intro W hb
    rcases Nat.eq_zero_or_pos l1.length with h0 | h0
    · rw [List.eq_nil_of_length_eq_zero h0]; exact .inl rfl
    · refine .inr ⟨b, off, rfl, by have := hb.size; omega, fun q hq => ?_⟩
      rw [ptrs_length] at hq
      rw [hb.cell (p := ⟨b, _, none⟩) hbB, hc q (by rw [ptrs_length]; omega), ptrs_at hq, ptrs_at (by omega)]
      simp only [hk]
      rw [List.getElem_append_left hq]
  have HR2 : Hid (∀ W, Below w.heap.size w W → RSl W W.heap.size (some ⟨b, off + (l1.length + 1), none⟩) (ptrs kb l2)) := by
    intro W hb
    refine .inr ⟨b, off + (l1.length + 1), rfl, by have := hb.size; omega, fun q hq => ?_⟩
    rw [ptrs_length] at hq
    have e : off + (l1.length + 1) + q = off + (l1.length + 1 + q) := by omega
    rw [e, hb.cell (p := ⟨b, _, none⟩) hbB, hc (l1.length + 1 + q) (by rw [ptrs_length]; omega), ptrs_at hq, ptrs_at (by omega)]
    simp only [hk]
    rw [List.getElem_append_right (by omega)]
    have e2 : l1.length + 1 + q - l1.length = q + 1 := by omega
    simp only [e2, List.getElem_cons_succ]
  have hcell : ∀ W, Below w.heap.size w W → W.cell? ⟨kb i, 6, none⟩ = some (.pointer (some ⟨kb p, 0, none⟩)) ∧ W.cell? ⟨kb p, 7, none⟩ = some (.slice (some ⟨b, off, none⟩) (F.kids p).length kc) := fun W hb => ⟨(hb.cell (p := ⟨kb i, _, none⟩) hli).trans c6, (hb.cell (p := ⟨kb p, _, none⟩) hlp).trans c7⟩
  have hfz : ∀ W, Below w.heap.size w W → (∀ j, W.frozen? ⟨kb p, j, none⟩ = false) ∧ (∀ j, W.frozen? ⟨kb i, j, none⟩ = false) := fun W hb => ⟨fun j => (World.frozen?_of_block (hb.block _ hlp)).trans (pf j), fun j => (World.frozen?_of_block (hb.block _ hli)).trans (if_ j)⟩
  have HC1 := Lib.hid (hcell _ hb0)
  have HB1 : Hid (∀ w1, (w.alloc (.cells #[] 77)).drew.grownBy w1 (Value.slice (some ⟨w.heap.size, 0, none⟩) 0 0).ownBlock → Below w.heap.size w w1 ∧ (w1.cell? ⟨kb i, 6, none⟩ = some (.pointer (some ⟨kb p, 0, none⟩)) ∧ w1.cell? ⟨kb p, 7, none⟩ = some (.slice (some ⟨b, off, none⟩) (F.kids p).length kc))) := by
    intro w1 hg
    have hb : Below w.heap.size w w1 := hb0.grown hg hb0.size (fun k e => by cases e; exact Nat.le_refl _)
    exact ⟨hb, hcell _ hb⟩
  have HB2 : Hid (∀ w1 w2, Below w.heap.size w w1 → ∀ {a1 : Option Addr} {c1 : Nat}, w1.ownsRow w.heap.size 77 1 (.slice a1 l1.length c1) l1.length (ptrs kb l1) → w1.grownBy w2 (Value.slice a1 l1.length c1).ownBlock → Below w.heap.size w w2 ∧ (w2.cell? ⟨kb i, 6, none⟩ = some (.pointer (some ⟨kb p, 0, none⟩)) ∧ w2.cell? ⟨kb p, 7, none⟩ = some (.slice (some ⟨b, off, none⟩) (F.kids p).length kc)) ∧ w2.frozen? ⟨kb p, 7, none⟩ = false ∧ w2.frozen? ⟨kb i, 6, none⟩ = false ∧ True) := by
    intro w1 w2 hb a1 c1 ho hg
    have hb2 : Below w.heap.size w w2 := hb.grown hg hb.size (fun k e => (ho.lt k e).1)
    exact ⟨hb2, hcell _ hb2, (hfz _ hb2).1 7, (hfz _ hb2).2 6, trivial⟩
  have HZ : Hid (∀ (w2 : World) (v : Value), w2.cell? ⟨kb i, 6, none⟩ = some (.pointer (some ⟨kb p, 0, none⟩)) → w2.frozen? ⟨kb i, 6, none⟩ = false → (w2.setCell ⟨kb p, 7, none⟩ v).cell? ⟨kb i, 6, none⟩ = some (.pointer (some ⟨kb p, 0, none⟩)) ∧ (w2.setCell ⟨kb p, 7, none⟩ v).frozen? ⟨kb i, 6, none⟩ = false) := by
    intro w2 v h1 h2
    exact ⟨by rw [World.cell?_setCell_far _ _ _ _ (by exact hne)]; exact h1, by rw [World.frozen?_setCell]; exact h2⟩
  have HF : Hid (∀ (w2 : World) (a2 : Option Addr) (c2 : Nat), Below w.heap.size w w2 → w2.ownsRow w.heap.size 77 1 (.slice a2 (l1 ++ l2).length c2) (l1 ++ l2).length (ptrs kb (l1 ++ l2)) →
      (Kno (F.cut i) S nd pl B kb ((w2.setCell ⟨kb p, 7, none⟩ (.slice a2 (l1 ++ l2).length c2)).setCell ⟨kb i, 6, none⟩ (.pointer none)) ∧ KRows S kb w ((w2.setCell ⟨kb p, 7, none⟩ (.slice a2 (l1 ++ l2).length c2)).setCell ⟨kb i, 6, none⟩ (.pointer none))) ∧ KTurn S kb w ((w2.setCell ⟨kb p, 7, none⟩ (.slice a2 (l1 ++ l2).length c2)).setCell ⟨kb i, 6, none⟩ (.pointer none))) := by
    intro w2 a2 c2 hb ho
    have hk1 := ((h.up hb).setKids hSp (own_base ho hBw)).setPar hSi none
    have e : (F.setKids p (l1 ++ l2)).setPar i none = F.cut i := by
      refine Fo.ext2 (fun q => rfl) (fun q => ?_)
      show (if q = p then l1 ++ l2 else F.kids q) = (F.kids q).filter _
      by_cases e : q = p
      · rw [if_pos e, e, hk, filter_split (by rw [← hk]; exact hnd)]
      · rw [if_neg e, filter_ne_self]
        intro hm
        rw [o.mem, hp] at hm
        cases hm; exact e rfl
    rw [e] at hk1
    refine ⟨⟨hk1, fun y hy u hu => ?_⟩, ((KTurn.of_below hb).set hSp 7 _).set hSi 6 _⟩
    have hu2 : (w2.setCell ⟨kb p, 7, none⟩ (.slice a2 (l1 ++ l2).length c2)).cell? ⟨kb y, 7, none⟩ = some u := by
      exact (World.cell?_setCell_other (w2.setCell ⟨kb p, 7, none⟩ (.slice a2 (l1 ++ l2).length c2)) ⟨kb i, 6, none⟩ ⟨kb y, 7, none⟩ (.pointer none) (by simp)).symm.trans hu
    by_cases e : y = p
    · subst e
      obtain ⟨_, _, _, _, _, hhp, _, _⟩ := (h.up hb).node y hSp
      rw [cell_of_row _ _ 7 _ _ _ (heap_setCell_same w2 _ 7 _ _ _ hhp)] at hu2
      have e9 : u = .slice a2 (l1 ++ l2).length c2 := by injection hu2 with hu2; exact hu2.symm
      subst e9
      exact .inr fun b hb => (ho.lt b hb).1
    · rw [World.cell?_setCell_far _ _ _ _ (by exact fun e2 => e (h.inj y p hy hSp e2.symm)), hb.cell (p := ⟨kb y, 7, none⟩) (h.lt hy)] at hu2
      exact .inl hu2
  have hl1 : l1.length < (F.kids p).length := by omega
  have hA : l1.length ≤ kc := by omega
  have hA1 : l1.length + 1 ≤ kc := by omega
  have hA2 : l1.length + 1 ≤ (F.kids p).length := by omega
  have hA3 : (0 : Int) ≤ (l1.length : Int) + 1 := by omega
  have hA4 : ((l1.length : Int) + 1).toNat = l1.length + 1 := by omega
  have hA5 : (l1.length : Int) + 1 ≤ ((F.kids p).length : Int) := by omega
  have hA6 : IntKind.i64.wrap ((l1.length : Int) + 1) = (l1.length : Int) + 1 := IntWalk.i64_in _ (by omega)
  clear h hp hown hrs hk pf if_ hc hcell hfz hb0 hkl hnd
  go_enter Try.func73, Try.ntmps73
  go_wp2_with fail
  refine HP.out.mono ?_
  rintro e w1 ⟨rfl, rfl⟩
  go_wp2_with fail
  refine wp_region_G (G3 28 28 28 (fun w' => w'.cell? ⟨kb i, 6, none⟩ = some (.pointer (some ⟨kb p, 0, none⟩)) ∧ w'.cell? ⟨kb p, 7, none⟩ = some (.slice (some ⟨b, off, none⟩) (F.kids p).length kc)) (fun _ => True) (fun _ => True)) (by kernel_rfl) ?_
  have hG0 : G3 28 28 28 (fun w' => w'.cell? ⟨kb i, 6, none⟩ = some (.pointer (some ⟨kb p, 0, none⟩)) ∧ w'.cell? ⟨kb p, 7, none⟩ = some (.slice (some ⟨b, off, none⟩) (F.kids p).length kc)) (fun _ => True) (fun _ => True) (Array.replicate 29 false) w.drew := ⟨fun _ => ⟨c6, c7⟩, fun _ => trivial, fun _ => trivial⟩
  refine wpAnyG_take0 (i := 0) (v := ?v0) rfl (by decide +kernel) (by decide +kernel) (by decide +kernel) (fun _ _ _ h => h) (fun l w => G3.set (by decide) (by decide) (by decide) l w) (Or.inl ⟨by rfl, ?hy0⟩) hG0 (fun hG1 => ?rest0)
  case hy0 => intro W' _; go_simp <;> with_reducible rfl
  clear hG0
  simp only [Act.put, List.setIfInBounds_toArray]
  refine wpAnyG_take0 (i := 1) (v := ?v1) rfl (by decide +kernel) (by decide +kernel) (by decide +kernel) (fun _ _ _ h => h) (fun l w => G3.set (by decide) (by decide) (by decide) l w) (Or.inl ⟨by rfl, ?hy1⟩) hG1 (fun hG2 => ?rest1)
  case hy1 => intro W' _; go_simp <;> with_reducible rfl
  clear hG1
  simp only [Act.put]
  refine wpAnyG_take0 (i := 2) (v := ?v2) rfl (by decide +kernel) (by decide +kernel) (by decide +kernel) (fun _ _ _ h => h) (fun l w => G3.set (by decide) (by decide) (by decide) l w) (Or.inl ⟨by rfl, ?hy2⟩) hG2 (fun hG3 => ?rest2)
  case hy2 => intro W' _; go_simp <;> with_reducible rfl
  clear hG2
  simp only [Act.put]
  refine wpAnyG_take (i := 3) (f := 28) (v := ?v3) rfl (by decide +kernel) (by decide +kernel) (by decide +kernel) (by decide +kernel) rfl rfl (fun _ _ _ h => h) (fun _ _ h g => g.1 h) (fun l w => G3.set (by decide) (by decide) (by decide) l w) (Or.inl ⟨by rfl, ?hy3⟩) hG3 (fun hG4 => ?rest3)
  case hy3 => intro W' hS; (try dsimp only at hS); go_simp <;> with_reducible rfl
  clear hG3
  simp only [Act.put]
  refine wpAnyG_take0 (i := 5) (v := ?v5) rfl (by decide +kernel) (by decide +kernel) (by decide +kernel) (fun _ _ _ h => h) (fun l w => G3.set (by decide) (by decide) (by decide) l w) (Or.inl ⟨by rfl, ?hy5⟩) hG4 (fun hG5 => ?rest5)
  case hy5 => intro W' _; go_simp <;> with_reducible rfl
  clear hG4
  simp only [Act.put]
  refine wpAnyG_take0 (i := 6) (v := ?v6) rfl (by decide +kernel) (by decide +kernel) (by decide +kernel) (fun _ _ _ h => h) (fun l w => G3.set (by decide) (by decide) (by decide) l w) (Or.inl ⟨by rfl, ?hy6⟩) hG5 (fun hG6 => ?rest6)
  case hy6 => intro W' _; go_simp <;> with_reducible rfl
  clear hG5
  simp only [Act.put]
  refine wpAnyG_take0 (i := 7) (v := ?v7) rfl (by decide +kernel) (by decide +kernel) (by decide +kernel) (fun _ _ _ h => h) (fun l w => G3.set (by decide) (by decide) (by decide) l w) (Or.inl ⟨by rfl, ?hy7⟩) hG6 (fun hG7 => ?rest7)
  case hy7 => intro W' _; go_simp <;> with_reducible rfl
  clear hG6
  simp only [Act.put]
  refine wpAnyG_take (i := 8) (f := 28) (v := ?v8) rfl (by decide +kernel) (by decide +kernel) (by decide +kernel) (by decide +kernel) rfl rfl (fun _ _ _ h => h) (fun _ _ h g => g.1 h) (fun l w => G3.set (by decide) (by decide) (by decide) l w) (Or.inl ⟨by rfl, ?hy8⟩) hG7 (fun hG8 => ?rest8)
  case hy8 => intro W' hS; (try dsimp only at hS); go_simp <;> with_reducible rfl
  clear hG7
  simp only [Act.put]
  refine wpAnyG_take0 (i := 9) (v := ?v9) rfl (by decide +kernel) (by decide +kernel) (by decide +kernel) (fun _ _ _ h => h) (fun l w => G3.set (by decide) (by decide) (by decide) l w) (Or.inl ⟨by rfl, ?hy9⟩) hG8 (fun hG9 => ?rest9)
  case hy9 => intro W' _; go_simp <;> with_reducible rfl
  clear hG8
  simp only [Act.put]
  refine wpAnyG_take0 (i := 10) (v := ?v10) rfl (by decide +kernel) (by decide +kernel) (by decide +kernel) (fun _ _ _ h => h) (fun l w => G3.set (by decide) (by decide) (by decide) l w) (Or.inl ⟨by rfl, ?hy10⟩) hG9 (fun hG10 => ?rest10)
  case hy10 => intro W' _; go_simp <;> with_reducible rfl
  clear hG9
  simp only [Act.put]
  refine wpAnyG_take (i := 11) (f := 28) (v := ?v11) rfl (by decide +kernel) (by decide +kernel) (by decide +kernel) (by decide +kernel) rfl rfl (fun _ _ _ h => h) (fun _ _ h g => g.1 h) (fun l w => G3.set (by decide) (by decide) (by decide) l w) (Or.inl ⟨by rfl, ?hy11⟩) hG10 (fun hG11 => ?rest11)
  case hy11 => intro W' hS; (try dsimp only at hS); go_simp <;> with_reducible rfl
  clear hG10
  simp only [Act.put]
  refine wpAnyG_take0 (i := 12) (v := ?v12) rfl (by decide +kernel) (by decide +kernel) (by decide +kernel) (fun _ _ _ h => h) (fun l w => G3.set (by decide) (by decide) (by decide) l w) (Or.inl ⟨by rfl, ?hy12⟩) hG11 (fun hG12 => ?rest12)
  case hy12 => intro W' _; go_simp <;> with_reducible rfl
  clear hG11
  simp only [Act.put]
  refine wpAnyG_take0 (i := 13) (v := ?v13) rfl (by decide +kernel) (by decide +kernel) (by decide +kernel) (fun _ _ _ h => h) (fun l w => G3.set (by decide) (by decide) (by decide) l w) (Or.inl ⟨by rfl, ?hy13⟩) hG12 (fun hG13 => ?rest13)
  case hy13 => intro W' _; go_simp <;> with_reducible rfl
  clear hG12
  simp only [Act.put]
  refine wpAnyG_take0 (i := 15) (v := ?v15) rfl (by decide +kernel) (by decide +kernel) (by decide +kernel) (fun _ _ _ h => h) (fun l w => G3.set (by decide) (by decide) (by decide) l w) (Or.inl ⟨by rfl, ?hy15⟩) hG13 (fun hG14 => ?rest15)
  case hy15 => intro W' _; go_simp <;> with_reducible rfl
  clear hG13
  simp only [Act.put]
  refine wpAnyG_take0 (i := 16) (v := ?v16) rfl (by decide +kernel) (by decide +kernel) (by decide +kernel) (fun _ _ _ h => h) (fun l w => G3.set (by decide) (by decide) (by decide) l w) (Or.inl ⟨by rfl, ?hy16⟩) hG14 (fun hG15 => ?rest16)
  case hy16 => intro W' _; go_simp <;> with_reducible rfl
  clear hG14
  simp only [Act.put]
  refine wpAnyG_take0 (i := 17) (v := ?v17) rfl (by decide +kernel) (by decide +kernel) (by decide +kernel) (fun _ _ _ h => h) (fun l w => G3.set (by decide) (by decide) (by decide) l w) (Or.inl ⟨by rfl, ?hy17⟩) hG15 (fun hG16 => ?rest17)
  case hy17 => intro W' _; go_simp <;> with_reducible rfl
  clear hG15
  simp only [Act.put]
  refine wpAnyG_take (i := 18) (f := 28) (v := ?v18) rfl (by decide +kernel) (by decide +kernel) (by decide +kernel) (by decide +kernel) rfl rfl (fun _ _ _ h => h) (fun _ _ h g => g.1 h) (fun l w => G3.set (by decide) (by decide) (by decide) l w) (Or.inl ⟨by rfl, ?hy18⟩) hG16 (fun hG17 => ?rest18)
  case hy18 => intro W' hS; (try dsimp only at hS); go_simp <;> with_reducible rfl
  clear hG16
  simp only [Act.put]
  refine wpAnyG_take0 (i := 19) (v := ?v19) rfl (by decide +kernel) (by decide +kernel) (by decide +kernel) (fun _ _ _ h => h) (fun l w => G3.set (by decide) (by decide) (by decide) l w) (Or.inl ⟨by rfl, ?hy19⟩) hG17 (fun hG18 => ?rest19)
  case hy19 => intro W' _; go_simp <;> with_reducible rfl
  clear hG17
  simp only [Act.put]
  refine wpAnyG_take0 (i := 20) (v := ?v20) rfl (by decide +kernel) (by decide +kernel) (by decide +kernel) (fun _ _ _ h => h) (fun l w => G3.set (by decide) (by decide) (by decide) l w) (Or.inl ⟨by rfl, ?hy20⟩) hG18 (fun hG19 => ?rest20)
  case hy20 => intro W' _; go_simp <;> with_reducible rfl
  clear hG18
  simp only [Act.put]
  refine wpAnyG_take (i := 21) (f := 28) (v := ?v21) rfl (by decide +kernel) (by decide +kernel) (by decide +kernel) (by decide +kernel) rfl rfl (fun _ _ _ h => h) (fun _ _ h g => g.1 h) (fun l w => G3.set (by decide) (by decide) (by decide) l w) (Or.inl ⟨by rfl, ?hy21⟩) hG19 (fun hG20 => ?rest21)
  case hy21 => intro W' hS; (try dsimp only at hS); go_simp <;> with_reducible rfl
  clear hG19
  simp only [Act.put]
  refine wpAnyG_take0 (i := 22) (v := ?v22) rfl (by decide +kernel) (by decide +kernel) (by decide +kernel) (fun _ _ _ h => h) (fun l w => G3.set (by decide) (by decide) (by decide) l w) (Or.inl ⟨by rfl, ?hy22⟩) hG20 (fun hG21 => ?rest22)
  case hy22 => intro W' _; go_simp <;> with_reducible rfl
  clear hG20
  simp only [Act.put]
  refine wpAnyG_take0 (i := 23) (v := ?v23) rfl (by decide +kernel) (by decide +kernel) (by decide +kernel) (fun _ _ _ h => h) (fun l w => G3.set (by decide) (by decide) (by decide) l w) (Or.inl ⟨by rfl, ?hy23⟩) hG21 (fun hG22 => ?rest23)
  case hy23 => intro W' _; go_simp <;> with_reducible rfl
  clear hG21
  simp only [Act.put]
  refine wpAnyG_take0 (i := 24) (v := ?v24) rfl (by decide +kernel) (by decide +kernel) (by decide +kernel) (fun _ _ _ h => h) (fun l w => G3.set (by decide) (by decide) (by decide) l w) (Or.inl ⟨by rfl, ?hy24⟩) hG22 (fun hG23 => ?rest24)
  case hy24 => intro W' _; go_simp <;> with_reducible rfl
  clear hG22
  simp only [Act.put]
  refine wpAnyG_one (i := 4) (by decide +kernel) rfl (fun K' hK => ?_)
  go_simp
  refine hK.out _ _ ⟨fun _ => HC1.out, fun _ => trivial, fun _ => trivial⟩ (fun hG9 => ?_); clear hK K' hG9 hG23
  refine wpAnyG_one (i := 14) (by decide +kernel) rfl (fun K' hK => ?_)
  refine step_append_kn _ rfl (.tmp 11) (.tmp 20) rfl kb w.heap.size (.slice (some ⟨w.heap.size, 0, none⟩) 0 0) [] rfl HE.out (some ⟨b, off, none⟩) l1.length kc l1 rfl rfl (HR1.out _ HB0.out) (by simp; omega) (by simp) ?_
  intro a1 c1 w1 hown1 hg1 hat1
  obtain ⟨hb1, hc1⟩ := HB1.out w1 hg1
  simp only [List.nil_append] at hown1 hat1 ⊢
  have HO1 := Lib.hid hown1
  have Hb1 := Lib.hid hb1
  refine hK.out _ _ ⟨fun _ => hc1, fun _ => trivial, fun _ => trivial⟩ (fun hG9 => ?_); clear hK K' hG9 hg1 hat1 hown1 hb1
  refine wpAnyG_one (i := 25) (by decide +kernel) rfl (fun K' hK => ?_)
  refine step_append_kn _ rfl (.tmp 21) (.tmp 31) rfl kb w.heap.size (.slice a1 l1.length c1) l1 rfl HO1.out (some ⟨b, off + (l1.length + 1), none⟩) ((F.kids p).length - (l1.length + 1)) (kc - (l1.length + 1)) l2 HL2.out rfl (HR2.out _ Hb1.out) (by have := HL3.out; omega) Hb1.out.size ?_
  intro a2 c2 w2 hown2 hg2 hat2
  obtain ⟨hb2, hc2, hf2, hf6, hc6⟩ := HB2.out w1 w2 Hb1.out HO1.out hg2
  have HO2 := Lib.hid hown2
  have Hb2 := Lib.hid hb2
  refine hK.out _ _ ⟨fun _ => hc2, fun _ => trivial, fun _ => trivial⟩ (fun hG9 => ?_); clear hK K' hG9 hg2 hat2 hown2 hb2
  refine wpAnyG_one (i := 26) (by decide +kernel) rfl (fun K' hK => ?_)
  go_simp
  refine hK.out _ _ ⟨fun _ => hc2, fun _ => trivial, fun _ => trivial⟩ (fun hG9 => ?_); clear hK K' hG9
  refine wpAnyG_one (i := 27) (by decide +kernel) rfl (fun K' hK => ?_)
  go_simp
  refine hK.out _ _ ⟨fun _ => hc2, fun _ => trivial, fun _ => trivial⟩ (fun hG9 => ?_); clear hK K' hG9
  refine wpAnyG_one (i := 28) (by decide +kernel) rfl (fun K' hK => ?_)
  obtain ⟨hc26, hc27⟩ := hc2
  go_simp
  refine hK.out _ _ ⟨fun h => absurd h (by decide), fun h => absurd h (by decide), fun h => absurd h (by decide)⟩ (fun hG9 => ?_); clear hK K' hG9
  refine wpAnyG_done (by decide +kernel) ?_ _
  obtain ⟨c6z, f6z⟩ := HZ.out w2 (.slice a2 (l1 ++ l2).length c2) hc26 hf6
  have eL : (l1 ++ l2).length = l1.length + l2.length := List.length_append
  rw [eL] at c6z f6z
  clear eL
  go_wp2_with fail
  go_end0
  have := HF.out w2 a2 c2 Hb2.out HO2.out
  rw [List.length_append] at this
  exact ⟨rfl, this.1, this.2⟩

set_option maxRecDepth 100000 in
set_option maxHeartbeats 4000000 in
theorem cut2_a {F : Fo} {S : Nat → Prop} {ht : Nat → Nat} (o : F.Ok S ht) {nd : Nat → Nd} {pl : Nat → Int} {B : Nat} {kb : Nat → Nat} {w : World} (h : Kno F S nd pl B kb w) (hBw : B ≤ w.heap.size) (i p : Nat) (hp : F.par i = some p) (l1 l2 : List Nat) (hk : F.kids p = l1 ++ i :: l2) (hlen : (F.kids p).length ≤ 100000)
    (ka : Option Addr) (kc : Nat) (c7 : w.cell? ⟨kb p, 7, none⟩ = some (.slice ka (F.kids p).length kc)) (hkc : (F.kids p).length ≤ kc) (hown : w.ownsRow B 77 1 (.slice ka (F.kids p).length kc) (F.kids p).length (ptrs kb (F.kids p))) (hcap : kc = l1.length + 1) :
    Calls Try.prog 73 #[.pointer (some ⟨kb i, 0, none⟩)] w (Cut2Post F S nd pl B kb i w) := by
  have HP := Lib.hid (place_some o h i p hp l1 l2 hk hlen)
  obtain ⟨hSp, hSi⟩ := o.dom p i hp
  have hpi : p ≠ i := fun e => by have := o.ht p i hp; rw [e] at this; omega
  have hne : kb p ≠ kb i := fun e => hpi (h.inj p i hSp hSi e)
  obtain ⟨if_, c6, -⟩ := h.cells hSi
  obtain ⟨pf, -⟩ := h.cells hSp
  rw [hp] at c6
  simp only [ptrTo, Option.map_some] at c6
  obtain ⟨_, _, hv, _, hrs⟩ := RSl.own hown
  cases hv
  have hkl : (F.kids p).length = l1.length + l2.length + 1 := by rw [hk]; simp; omega
  obtain ⟨b, off, rfl, hbB, hc⟩ := hrs.at_ (by rw [ptrs_length]; omega)
  have hlp := h.lt hSp
  have hli := h.lt hSi
  have hnd := o.nodup p
  have HL2 : Hid ((F.kids p).length - (l1.length + 1) = l2.length) := by unfold Hid; omega
  have HL3 : Hid (l1.length + l2.length ≤ 100000) := by unfold Hid; omega
  have hb0 : Below w.heap.size w (w.alloc (.cells #[] 77)).drew := ((Below.refl _ _).alloc (Nat.le_refl _) _).drew
  have HB0 := Lib.hid hb0
  have HE : Hid ((w.alloc (.cells #[] 77)).drew.ownsRow w.heap.size 77 1 (.slice (some ⟨w.heap.size, 0, none⟩) 0 0) 0 []) := own_empty w 77
  have HR1 : Hid (∀ W, Below w.heap.size w W → RSl W W.heap.size (some ⟨b, off, none⟩) (ptrs kb l1)) := by
    intro W hb
    rcases Nat.eq_zero_or_pos l1.length with h0 | h0
    · rw [List.eq_nil_of_length_eq_zero h0]; exact .inl rfl
    · refine .inr ⟨b, off, rfl, by have := hb.size; omega, fun q hq => ?_⟩
      rw [ptrs_length] at hq
      rw [hb.cell (p := ⟨b, _, none⟩) hbB, hc q (by rw [ptrs_length]; omega), ptrs_at hq, ptrs_at (by omega)]
      simp only [hk]
      rw [List.getElem_append_left hq]
  have hl20 : l2 = [] := List.eq_nil_of_length_eq_zero (by omega)
  have HL4 : Hid (0 = l2.length) := by rw [hl20]; rfl
  have HR2 : Hid (∀ W, RSl W W.heap.size (some ⟨b, off, none⟩) (ptrs kb l2)) := by
    intro W
    rw [hl20]; exact .inl rfl
  have hcell : ∀ W, Below w.heap.size w W → W.cell? ⟨kb i, 6, none⟩ = some (.pointer (some ⟨kb p, 0, none⟩)) ∧ W.cell? ⟨kb p, 7, none⟩ = some (.slice (some ⟨b, off, none⟩) (F.kids p).length kc) := fun W hb => ⟨(hb.cell (p := ⟨kb i, _, none⟩) hli).trans c6, (hb.cell (p := ⟨kb p, _, none⟩) hlp).trans c7⟩
  have hfz : ∀ W, Below w.heap.size w W → (∀ j, W.frozen? ⟨kb p, j, none⟩ = false) ∧ (∀ j, W.frozen? ⟨kb i, j, none⟩ = false) := fun W hb => ⟨fun j => (World.frozen?_of_block (hb.block _ hlp)).trans (pf j), fun j => (World.frozen?_of_block (hb.block _ hli)).trans (if_ j)⟩
  have HC1 := Lib.hid (hcell _ hb0)
  have HB1 : Hid (∀ w1, (w.alloc (.cells #[] 77)).drew.grownBy w1 (Value.slice (some ⟨w.heap.size, 0, none⟩) 0 0).ownBlock → Below w.heap.size w w1 ∧ (w1.cell? ⟨kb i, 6, none⟩ = some (.pointer (some ⟨kb p, 0, none⟩)) ∧ w1.cell? ⟨kb p, 7, none⟩ = some (.slice (some ⟨b, off, none⟩) (F.kids p).length kc))) := by
    intro w1 hg
    have hb : Below w.heap.size w w1 := hb0.grown hg hb0.size (fun k e => by cases e; exact Nat.le_refl _)
    exact ⟨hb, hcell _ hb⟩
  have HB2 : Hid (∀ w1 w2, Below w.heap.size w w1 → ∀ {a1 : Option Addr} {c1 : Nat}, w1.ownsRow w.heap.size 77 1 (.slice a1 l1.length c1) l1.length (ptrs kb l1) → w1.grownBy w2 (Value.slice a1 l1.length c1).ownBlock → Below w.heap.size w w2 ∧ (w2.cell? ⟨kb i, 6, none⟩ = some (.pointer (some ⟨kb p, 0, none⟩)) ∧ w2.cell? ⟨kb p, 7, none⟩ = some (.slice (some ⟨b, off, none⟩) (F.kids p).length kc)) ∧ w2.frozen? ⟨kb p, 7, none⟩ = false ∧ w2.frozen? ⟨kb i, 6, none⟩ = false ∧ True) := by
    intro w1 w2 hb a1 c1 ho hg
    have hb2 : Below w.heap.size w w2 := hb.grown hg hb.size (fun k e => (ho.lt k e).1)
    exact ⟨hb2, hcell _ hb2, (hfz _ hb2).1 7, (hfz _ hb2).2 6, trivial⟩
  have HZ : Hid (∀ (w2 : World) (v : Value), w2.cell? ⟨kb i, 6, none⟩ = some (.pointer (some ⟨kb p, 0, none⟩)) → w2.frozen? ⟨kb i, 6, none⟩ = false → (w2.setCell ⟨kb p, 7, none⟩ v).cell? ⟨kb i, 6, none⟩ = some (.pointer (some ⟨kb p, 0, none⟩)) ∧ (w2.setCell ⟨kb p, 7, none⟩ v).frozen? ⟨kb i, 6, none⟩ = false) := by
    intro w2 v h1 h2
    exact ⟨by rw [World.cell?_setCell_far _ _ _ _ (by exact hne)]; exact h1, by rw [World.frozen?_setCell]; exact h2⟩
  have HF : Hid (∀ (w2 : World) (a2 : Option Addr) (c2 : Nat), Below w.heap.size w w2 → w2.ownsRow w.heap.size 77 1 (.slice a2 (l1 ++ l2).length c2) (l1 ++ l2).length (ptrs kb (l1 ++ l2)) →
      (Kno (F.cut i) S nd pl B kb ((w2.setCell ⟨kb p, 7, none⟩ (.slice a2 (l1 ++ l2).length c2)).setCell ⟨kb i, 6, none⟩ (.pointer none)) ∧ KRows S kb w ((w2.setCell ⟨kb p, 7, none⟩ (.slice a2 (l1 ++ l2).length c2)).setCell ⟨kb i, 6, none⟩ (.pointer none))) ∧ KTurn S kb w ((w2.setCell ⟨kb p, 7, none⟩ (.slice a2 (l1 ++ l2).length c2)).setCell ⟨kb i, 6, none⟩ (.pointer none))) := by
    intro w2 a2 c2 hb ho
    have hk1 := ((h.up hb).setKids hSp (own_base ho hBw)).setPar hSi none
    have e : (F.setKids p (l1 ++ l2)).setPar i none = F.cut i := by
      refine Fo.ext2 (fun q => rfl) (fun q => ?_)
      show (if q = p then l1 ++ l2 else F.kids q) = (F.kids q).filter _
      by_cases e : q = p
      · rw [if_pos e, e, hk, filter_split (by rw [← hk]; exact hnd)]
      · rw [if_neg e, filter_ne_self]
        intro hm
        rw [o.mem, hp] at hm
        cases hm; exact e rfl
    rw [e] at hk1
    refine ⟨⟨hk1, fun y hy u hu => ?_⟩, ((KTurn.of_below hb).set hSp 7 _).set hSi 6 _⟩
    have hu2 : (w2.setCell ⟨kb p, 7, none⟩ (.slice a2 (l1 ++ l2).length c2)).cell? ⟨kb y, 7, none⟩ = some u := by
      exact (World.cell?_setCell_other (w2.setCell ⟨kb p, 7, none⟩ (.slice a2 (l1 ++ l2).length c2)) ⟨kb i, 6, none⟩ ⟨kb y, 7, none⟩ (.pointer none) (by simp)).symm.trans hu
    by_cases e : y = p
    · subst e
      obtain ⟨_, _, _, _, _, hhp, _, _⟩ := (h.up hb).node y hSp
      rw [cell_of_row _ _ 7 _ _ _ (heap_setCell_same w2 _ 7 _ _ _ hhp)] at hu2
      have e9 : u = .slice a2 (l1 ++ l2).length c2 := by injection hu2 with hu2; exact hu2.symm
      subst e9
      exact .inr fun b hb => (ho.lt b hb).1
    · rw [World.cell?_setCell_far _ _ _ _ (by exact fun e2 => e (h.inj y p hy hSp e2.symm)), hb.cell (p := ⟨kb y, 7, none⟩) (h.lt hy)] at hu2
      exact .inl hu2
  have hl1 : l1.length < (F.kids p).length := by omega
  have hA : l1.length ≤ kc := by omega
  have hA1 : l1.length + 1 ≤ kc := by omega
  have hA2 : l1.length + 1 ≤ (F.kids p).length := by omega
  have hA3 : (0 : Int) ≤ (l1.length : Int) + 1 := by omega
  have hA4 : ((l1.length : Int) + 1).toNat = l1.length + 1 := by omega
  have hA5 : (l1.length : Int) + 1 ≤ ((F.kids p).length : Int) := by omega
  have hA6 : IntKind.i64.wrap ((l1.length : Int) + 1) = (l1.length : Int) + 1 := IntWalk.i64_in _ (by omega)
  clear h hp hown hrs hk pf if_ hc hcell hfz hb0 hkl hnd hl20
  subst hcap
  have hX : (l1.length : Int) ≤ (l1.length : Int) + 1 := by omega
  go_enter Try.func73, Try.ntmps73
  go_wp2_with fail
  refine HP.out.mono ?_
  rintro e w1 ⟨rfl, rfl⟩
  go_wp2_with fail
  refine wp_region_G (G3 28 28 28 (fun w' => w'.cell? ⟨kb i, 6, none⟩ = some (.pointer (some ⟨kb p, 0, none⟩)) ∧ w'.cell? ⟨kb p, 7, none⟩ = some (.slice (some ⟨b, off, none⟩) (F.kids p).length (l1.length + 1))) (fun _ => True) (fun _ => True)) (by kernel_rfl) ?_
  have hG0 : G3 28 28 28 (fun w' => w'.cell? ⟨kb i, 6, none⟩ = some (.pointer (some ⟨kb p, 0, none⟩)) ∧ w'.cell? ⟨kb p, 7, none⟩ = some (.slice (some ⟨b, off, none⟩) (F.kids p).length (l1.length + 1))) (fun _ => True) (fun _ => True) (Array.replicate 29 false) w.drew := ⟨fun _ => ⟨c6, c7⟩, fun _ => trivial, fun _ => trivial⟩
  refine wpAnyG_take0 (i := 0) (v := ?v0) rfl (by decide +kernel) (by decide +kernel) (by decide +kernel) (fun _ _ _ h => h) (fun l w => G3.set (by decide) (by decide) (by decide) l w) (Or.inl ⟨by rfl, ?hy0⟩) hG0 (fun hG1 => ?rest0)
  case hy0 => intro W' _; go_simp <;> with_reducible rfl
  clear hG0
  simp only [Act.put, List.setIfInBounds_toArray]
  refine wpAnyG_take0 (i := 1) (v := ?v1) rfl (by decide +kernel) (by decide +kernel) (by decide +kernel) (fun _ _ _ h => h) (fun l w => G3.set (by decide) (by decide) (by decide) l w) (Or.inl ⟨by rfl, ?hy1⟩) hG1 (fun hG2 => ?rest1)
  case hy1 => intro W' _; go_simp <;> with_reducible rfl
  clear hG1
  simp only [Act.put]
  refine wpAnyG_take0 (i := 2) (v := ?v2) rfl (by decide +kernel) (by decide +kernel) (by decide +kernel) (fun _ _ _ h => h) (fun l w => G3.set (by decide) (by decide) (by decide) l w) (Or.inl ⟨by rfl, ?hy2⟩) hG2 (fun hG3 => ?rest2)
  case hy2 => intro W' _; go_simp <;> with_reducible rfl
  clear hG2
  simp only [Act.put]
  refine wpAnyG_take (i := 3) (f := 28) (v := ?v3) rfl (by decide +kernel) (by decide +kernel) (by decide +kernel) (by decide +kernel) rfl rfl (fun _ _ _ h => h) (fun _ _ h g => g.1 h) (fun l w => G3.set (by decide) (by decide) (by decide) l w) (Or.inl ⟨by rfl, ?hy3⟩) hG3 (fun hG4 => ?rest3)
  case hy3 => intro W' hS; (try dsimp only at hS); go_simp <;> with_reducible rfl
  clear hG3
  simp only [Act.put]
  refine wpAnyG_take0 (i := 5) (v := ?v5) rfl (by decide +kernel) (by decide +kernel) (by decide +kernel) (fun _ _ _ h => h) (fun l w => G3.set (by decide) (by decide) (by decide) l w) (Or.inl ⟨by rfl, ?hy5⟩) hG4 (fun hG5 => ?rest5)
  case hy5 => intro W' _; go_simp <;> with_reducible rfl
  clear hG4
  simp only [Act.put]
  refine wpAnyG_take0 (i := 6) (v := ?v6) rfl (by decide +kernel) (by decide +kernel) (by decide +kernel) (fun _ _ _ h => h) (fun l w => G3.set (by decide) (by decide) (by decide) l w) (Or.inl ⟨by rfl, ?hy6⟩) hG5 (fun hG6 => ?rest6)
  case hy6 => intro W' _; go_simp <;> with_reducible rfl
  clear hG5
  simp only [Act.put]
  refine wpAnyG_take0 (i := 7) (v := ?v7) rfl (by decide +kernel) (by decide +kernel) (by decide +kernel) (fun _ _ _ h => h) (fun l w => G3.set (by decide) (by decide) (by decide) l w) (Or.inl ⟨by rfl, ?hy7⟩) hG6 (fun hG7 => ?rest7)
  case hy7 => intro W' _; go_simp <;> with_reducible rfl
  clear hG6
  simp only [Act.put]
  refine wpAnyG_take (i := 8) (f := 28) (v := ?v8) rfl (by decide +kernel) (by decide +kernel) (by decide +kernel) (by decide +kernel) rfl rfl (fun _ _ _ h => h) (fun _ _ h g => g.1 h) (fun l w => G3.set (by decide) (by decide) (by decide) l w) (Or.inl ⟨by rfl, ?hy8⟩) hG7 (fun hG8 => ?rest8)
  case hy8 => intro W' hS; (try dsimp only at hS); go_simp <;> with_reducible rfl
  clear hG7
  simp only [Act.put]
  refine wpAnyG_take0 (i := 9) (v := ?v9) rfl (by decide +kernel) (by decide +kernel) (by decide +kernel) (fun _ _ _ h => h) (fun l w => G3.set (by decide) (by decide) (by decide) l w) (Or.inl ⟨by rfl, ?hy9⟩) hG8 (fun hG9 => ?rest9)
  case hy9 => intro W' _; go_simp <;> with_reducible rfl
  clear hG8
  simp only [Act.put]
  refine wpAnyG_take0 (i := 10) (v := ?v10) rfl (by decide +kernel) (by decide +kernel) (by decide +kernel) (fun _ _ _ h => h) (fun l w => G3.set (by decide) (by decide) (by decide) l w) (Or.inl ⟨by rfl, ?hy10⟩) hG9 (fun hG10 => ?rest10)
  case hy10 => intro W' _; go_simp <;> with_reducible rfl
  clear hG9
  simp only [Act.put]
  refine wpAnyG_take (i := 11) (f := 28) (v := ?v11) rfl (by decide +kernel) (by decide +kernel) (by decide +kernel) (by decide +kernel) rfl rfl (fun _ _ _ h => h) (fun _ _ h g => g.1 h) (fun l w => G3.set (by decide) (by decide) (by decide) l w) (Or.inl ⟨by rfl, ?hy11⟩) hG10 (fun hG11 => ?rest11)
  case hy11 => intro W' hS; (try dsimp only at hS); go_simp <;> with_reducible rfl
  clear hG10
  simp only [Act.put]
  refine wpAnyG_take0 (i := 12) (v := ?v12) rfl (by decide +kernel) (by decide +kernel) (by decide +kernel) (fun _ _ _ h => h) (fun l w => G3.set (by decide) (by decide) (by decide) l w) (Or.inl ⟨by rfl, ?hy12⟩) hG11 (fun hG12 => ?rest12)
  case hy12 => intro W' _; go_simp <;> with_reducible rfl
  clear hG11
  simp only [Act.put]
  refine wpAnyG_take0 (i := 13) (v := ?v13) rfl (by decide +kernel) (by decide +kernel) (by decide +kernel) (fun _ _ _ h => h) (fun l w => G3.set (by decide) (by decide) (by decide) l w) (Or.inl ⟨by rfl, ?hy13⟩) hG12 (fun hG13 => ?rest13)
  case hy13 => intro W' _; go_simp <;> with_reducible rfl
  clear hG12
  simp only [Act.put]
  refine wpAnyG_take0 (i := 15) (v := ?v15) rfl (by decide +kernel) (by decide +kernel) (by decide +kernel) (fun _ _ _ h => h) (fun l w => G3.set (by decide) (by decide) (by decide) l w) (Or.inl ⟨by rfl, ?hy15⟩) hG13 (fun hG14 => ?rest15)
  case hy15 => intro W' _; go_simp <;> with_reducible rfl
  clear hG13
  simp only [Act.put]
  refine wpAnyG_take0 (i := 16) (v := ?v16) rfl (by decide +kernel) (by decide +kernel) (by decide +kernel) (fun _ _ _ h => h) (fun l w => G3.set (by decide) (by decide) (by decide) l w) (Or.inl ⟨by rfl, ?hy16⟩) hG14 (fun hG15 => ?rest16)
  case hy16 => intro W' _; go_simp <;> with_reducible rfl
  clear hG14
  simp only [Act.put]
  refine wpAnyG_take0 (i := 17) (v := ?v17) rfl (by decide +kernel) (by decide +kernel) (by decide +kernel) (fun _ _ _ h => h) (fun l w => G3.set (by decide) (by decide) (by decide) l w) (Or.inl ⟨by rfl, ?hy17⟩) hG15 (fun hG16 => ?rest17)
  case hy17 => intro W' _; go_simp <;> with_reducible rfl
  clear hG15
  simp only [Act.put]
  refine wpAnyG_take (i := 18) (f := 28) (v := ?v18) rfl (by decide +kernel) (by decide +kernel) (by decide +kernel) (by decide +kernel) rfl rfl (fun _ _ _ h => h) (fun _ _ h g => g.1 h) (fun l w => G3.set (by decide) (by decide) (by decide) l w) (Or.inl ⟨by rfl, ?hy18⟩) hG16 (fun hG17 => ?rest18)
  case hy18 => intro W' hS; (try dsimp only at hS); go_simp <;> with_reducible rfl
  clear hG16
  simp only [Act.put]
  refine wpAnyG_take0 (i := 19) (v := ?v19) rfl (by decide +kernel) (by decide +kernel) (by decide +kernel) (fun _ _ _ h => h) (fun l w => G3.set (by decide) (by decide) (by decide) l w) (Or.inl ⟨by rfl, ?hy19⟩) hG17 (fun hG18 => ?rest19)
  case hy19 => intro W' _; go_simp <;> with_reducible rfl
  clear hG17
  simp only [Act.put]
  refine wpAnyG_take0 (i := 20) (v := ?v20) rfl (by decide +kernel) (by decide +kernel) (by decide +kernel) (fun _ _ _ h => h) (fun l w => G3.set (by decide) (by decide) (by decide) l w) (Or.inl ⟨by rfl, ?hy20⟩) hG18 (fun hG19 => ?rest20)
  case hy20 => intro W' _; go_simp <;> with_reducible rfl
  clear hG18
  simp only [Act.put]
  refine wpAnyG_take (i := 21) (f := 28) (v := ?v21) rfl (by decide +kernel) (by decide +kernel) (by decide +kernel) (by decide +kernel) rfl rfl (fun _ _ _ h => h) (fun _ _ h g => g.1 h) (fun l w => G3.set (by decide) (by decide) (by decide) l w) (Or.inl ⟨by rfl, ?hy21⟩) hG19 (fun hG20 => ?rest21)
  case hy21 => intro W' hS; (try dsimp only at hS); go_simp <;> with_reducible rfl
  clear hG19
  simp only [Act.put]
  refine wpAnyG_take0 (i := 22) (v := ?v22) rfl (by decide +kernel) (by decide +kernel) (by decide +kernel) (fun _ _ _ h => h) (fun l w => G3.set (by decide) (by decide) (by decide) l w) (Or.inl ⟨by rfl, ?hy22⟩) hG20 (fun hG21 => ?rest22)
  case hy22 => intro W' _; go_simp <;> with_reducible rfl
  clear hG20
  simp only [Act.put]
  refine wpAnyG_take0 (i := 23) (v := ?v23) rfl (by decide +kernel) (by decide +kernel) (by decide +kernel) (fun _ _ _ h => h) (fun l w => G3.set (by decide) (by decide) (by decide) l w) (Or.inl ⟨by rfl, ?hy23⟩) hG21 (fun hG22 => ?rest23)
  case hy23 => intro W' _; go_simp <;> with_reducible rfl
  clear hG21
  simp only [Act.put]
  refine wpAnyG_take0 (i := 24) (v := ?v24) rfl (by decide +kernel) (by decide +kernel) (by decide +kernel) (fun _ _ _ h => h) (fun l w => G3.set (by decide) (by decide) (by decide) l w) (Or.inl ⟨by rfl, ?hy24⟩) hG22 (fun hG23 => ?rest24)
  case hy24 => intro W' _; go_simp <;> with_reducible rfl
  clear hG22
  simp only [Act.put]
  refine wpAnyG_one (i := 4) (by decide +kernel) rfl (fun K' hK => ?_)
  go_simp
  refine hK.out _ _ ⟨fun _ => HC1.out, fun _ => trivial, fun _ => trivial⟩ (fun hG9 => ?_); clear hK K' hG9 hG23
  refine wpAnyG_one (i := 14) (by decide +kernel) rfl (fun K' hK => ?_)
  refine step_append_kn _ rfl (.tmp 11) (.tmp 20) rfl kb w.heap.size (.slice (some ⟨w.heap.size, 0, none⟩) 0 0) [] rfl HE.out (some ⟨b, off, none⟩) l1.length (l1.length + 1) l1 rfl rfl (HR1.out _ HB0.out) (by simp; omega) (by simp) ?_
  intro a1 c1 w1 hown1 hg1 hat1
  obtain ⟨hb1, hc1⟩ := HB1.out w1 hg1
  simp only [List.nil_append] at hown1 hat1 ⊢
  have HO1 := Lib.hid hown1
  have Hb1 := Lib.hid hb1
  refine hK.out _ _ ⟨fun _ => hc1, fun _ => trivial, fun _ => trivial⟩ (fun hG9 => ?_); clear hK K' hG9 hg1 hat1 hown1 hb1
  refine wpAnyG_one (i := 25) (by decide +kernel) rfl (fun K' hK => ?_)
  refine step_append_kn _ rfl (.tmp 21) (.tmp 31) rfl kb w.heap.size (.slice a1 l1.length c1) l1 rfl HO1.out (some ⟨b, off, none⟩) 0 0 l2 HL4.out rfl (HR2.out _) (by have := HL3.out; omega) Hb1.out.size ?_
  intro a2 c2 w2 hown2 hg2 hat2
  obtain ⟨hb2, hc2, hf2, hf6, hc6⟩ := HB2.out w1 w2 Hb1.out HO1.out hg2
  have HO2 := Lib.hid hown2
  have Hb2 := Lib.hid hb2
  refine hK.out _ _ ⟨fun _ => hc2, fun _ => trivial, fun _ => trivial⟩ (fun hG9 => ?_); clear hK K' hG9 hg2 hat2 hown2 hb2
  refine wpAnyG_one (i := 26) (by decide +kernel) rfl (fun K' hK => ?_)
  go_simp
  refine hK.out _ _ ⟨fun _ => hc2, fun _ => trivial, fun _ => trivial⟩ (fun hG9 => ?_); clear hK K' hG9
  refine wpAnyG_one (i := 27) (by decide +kernel) rfl (fun K' hK => ?_)
  go_simp
  refine hK.out _ _ ⟨fun _ => hc2, fun _ => trivial, fun _ => trivial⟩ (fun hG9 => ?_); clear hK K' hG9
  refine wpAnyG_one (i := 28) (by decide +kernel) rfl (fun K' hK => ?_)
  obtain ⟨hc26, hc27⟩ := hc2
  go_simp
  refine hK.out _ _ ⟨fun h => absurd h (by decide), fun h => absurd h (by decide), fun h => absurd h (by decide)⟩ (fun hG9 => ?_); clear hK K' hG9
  refine wpAnyG_done (by decide +kernel) ?_ _
  obtain ⟨c6z, f6z⟩ := HZ.out w2 (.slice a2 (l1 ++ l2).length c2) hc26 hf6
  have eL : (l1 ++ l2).length = l1.length + l2.length := List.length_append
  rw [eL] at c6z f6z
  clear eL
  go_wp2_with fail
  go_end0
  have := HF.out w2 a2 c2 Hb2.out HO2.out
  rw [List.length_append] at this
  exact ⟨rfl, this.1, this.2⟩

set_option maxRecDepth 100000 in
set_option maxHeartbeats 1000000 in
theorem cut2_any {F : Fo} {S : Nat → Prop} {ht : Nat → Nat} (o : F.Ok S ht) {nd : Nat → Nd} {pl : Nat → Int} {B : Nat} {kb : Nat → Nat} {w : World} (h : Kno F S nd pl B kb w) (hBw : B ≤ w.heap.size) (i : Nat) (hi : S i) (hlen : ∀ p, (F.kids p).length ≤ 100000) :
    Calls Try.prog 73 #[.pointer (some ⟨kb i, 0, none⟩)] w (Cut2Post F S nd pl B kb i w) := by
  cases hp : F.par i with
  | none =>
    have HP := Lib.hid (place_none h i hi hp)
    have HE := Lib.hid (Fo.cut_none o hp)
    have HK := Lib.hid h
    clear h hp hBw
    go_enter Try.func73, Try.ntmps73
    go_wp2_with fail
    refine HP.out.mono ?_
    rintro e w1 ⟨rfl, rfl⟩
    go_wp2_with fail
    go_end0
    exact ⟨rfl, ⟨by rw [HE.out]; exact HK.out, fun y hy u hu => .inl hu⟩, KTurn.refl _ _ _⟩
  | some p =>
    obtain ⟨l1, l2, hk⟩ := split_at ((o.mem p i).2 hp)
    obtain ⟨-, -, -, ka, kc, c7, hkc, hown⟩ := h.cells (o.dom p i hp).1
    by_cases hcap : kc = l1.length + 1
    · exact cut2_a o h hBw i p hp l1 l2 hk (hlen p) ka kc c7 hkc hown hcap
    · exact cut2_b o h hBw i p hp l1 l2 hk (hlen p) ka kc c7 hkc hown hcap
end Go.Proofs.Ytmhhfljbocbolaa

namespace Go.Proofs.Ytmhhfljbocbolaa
open Go.RowKit
set_option linter.unusedVariables false

def plN (n : Nat) : Nat → Int := fun i => if i < n then (i : Int) else -1
def kfb (n fb : Nat) (kb : Nat → Nat) : Nat → Nat := fun i => if i < n then kb i else fb

structure RS (n g fc fb : Nat) (kb : Nat → Nat) (w : World) (s : FoS) (kb' : Nat → Nat) (wr : World) : Prop where
  kno : Kno s.F (fun i => i < s.N) s.nd (plN n) fb kb' wr
  fst : wr.heap[fb]? = some (.cells #[.slice (some ⟨g, 0, none⟩) n fc, .int .i64 (s.N : Int), .bool s.op] 76 (0, 0))
  old : ∀ y, y < n → kb' y = kb y
  new : ∀ y, n ≤ y → y < s.N → w.heap.size ≤ kb' y
  turn : KTurn (fun _ => True) (kfb n fb kb) w wr

/-- The row that grows is no knot's. -/
def LApt (s : FoS) (kb' : Nat → Nat) (v : Value) (wr : World) : Prop := ∀ y, y < s.N → ∀ u, wr.cell? ⟨kb' y, 7, none⟩ = some u → KApt v u

section
variable {n g fc fb : Nat} {kb : Nat → Nat} {w : World} {s : FoS} {kb' : Nat → Nat} {wr : World}

theorem RS.kept (R : RS n g fc fb kb w s kb' wr) {base e size m : Nat} {v : Value} {xs : List Value} (ho : w.ownsRow base e size v m xs) (hk : ∀ i, i < n → v.ownBlock ≠ some (kb i)) (hf : v.ownBlock ≠ some fb) : wr.ownsRow base e size v m xs :=
  KTurn.own R.turn ho fun i _ => by
    unfold kfb
    split
    · rename_i h; exact hk i h
    · exact hf

theorem RS.below (R : RS n g fc fb kb w s kb' wr) (hf : fb ≤ w.heap.size) (hk : ∀ i, i < n → fb ≤ kb i) : Below fb w wr :=
  R.turn.below hf fun i _ => by
    unfold kfb
    split
    · rename_i h; exact hk i h
    · exact Nat.le_refl _

theorem KTurn.kfb_of_fb {w wr w2 : World} (T : KTurn (fun _ => True) (kfb n fb kb) w wr) (h : KTurn (fun _ => True) (fun _ => fb) wr w2) : KTurn (fun _ => True) (kfb n fb kb) w w2 := by
  refine ⟨h.os.trans T.os, h.tape.trans T.tape, h.output.trans T.output, Nat.le_trans T.size h.size, fun b hb hn => ?_⟩
  rw [h.block b (Nat.lt_of_lt_of_le hb T.size) (fun _ _ => by have := hn n trivial; unfold kfb at this; rw [if_neg (by omega)] at this; exact this)]
  exact T.block b hb hn

theorem RS.kfb_of (R : RS n g fc fb kb w s kb' wr) {w2 : World} (h : KTurn (fun i => i < s.N) kb' wr w2) : KTurn (fun _ => True) (kfb n fb kb) w w2 := by
  refine ⟨h.os.trans R.turn.os, h.tape.trans R.turn.tape, h.output.trans R.turn.output, Nat.le_trans R.turn.size h.size, fun b hb hn => ?_⟩
  rw [h.block b (Nat.lt_of_lt_of_le hb R.turn.size) (fun i hi e => ?_)]
  · exact R.turn.block b hb hn
  · by_cases hin : i < n
    · have := hn i trivial
      unfold kfb at this
      rw [if_pos hin] at this
      exact this (e.trans (R.old i hin))
    · have := R.new i (by omega) hi
      omega

theorem RS.fst_kept (R : RS n g fc fb kb w s kb' wr) {w2 : World} (h : KTurn (fun i => i < s.N) kb' wr w2) : w2.heap[fb]? = some (.cells #[.slice (some ⟨g, 0, none⟩) n fc, .int .i64 (s.N : Int), .bool s.op] 76 (0, 0)) := by
  rw [h.block fb (Array.getElem?_eq_some_iff.1 R.fst).1 (fun i hi => ?_)]
  · exact R.fst
  · obtain ⟨_, _, _, _, _, hh, _, _⟩ := R.kno.node i hi
    exact types_ne R.fst hh (by decide)

theorem RS.copied (R : RS n g fc fb kb w s kb' wr) (hn : n ≤ s.N) {s' : FoS} (hlt : s.N < s'.N) {e : Ending} {w2 : World} (P : CopyPost s s' fb (.slice (some ⟨g, 0, none⟩) n fc) (plN n) fb kb' wr e w2) {base : Nat} {la : Option Addr} {j lc : Nat} {L : List Nat} (ho : wr.ownsRow base 77 1 (.slice la j lc) j (ptrs kb' L)) (hL : ∀ y ∈ L, y < s.N) (hA : LApt s kb' (.slice la j lc) wr) :
    ∃ kb'', e = .returned (.pointer (some ⟨kb'' s.N, 0, none⟩)) ∧ RS n g fc fb kb w s' kb'' w2 ∧ w2.ownsRow base 77 1 (.slice la j lc) j (ptrs kb'' L) ∧ LApt s' kb'' (.slice la j lc) w2 := by
  obtain ⟨kb'', rfl, hold, hK, hf, hT, hnew⟩ := P
  refine ⟨kb'', rfl, ⟨hK, hf, fun y hy => (hold y (by omega)).trans (R.old y hy), fun y h1 h2 => ?_, R.turn.kfb_of_fb hT⟩, ?_, fun y hy u hu => ?_⟩
  · by_cases e : y < s.N
    · rw [hold y e]; exact R.new y h1 e
    · have := (hnew y (by omega) h2).1
      have := R.turn.size
      omega
  · rw [ptrs_congr2 fun y hy => hold y (hL y hy)]
    exact KTurn.own hT ho (fun _ _ => own_ne ho R.fst (by decide))
  · by_cases e : y < s.N
    · rw [hold y e] at hu
      rw [World.cell?_of_block (a := ⟨kb' y, 7, none⟩) (hT.fb_low (R.kno.lt e) (by
        obtain ⟨_, _, _, _, _, hh, _, _⟩ := R.kno.node y e
        exact types_ne hh R.fst (by decide)))] at hu
      exact hA y e u hu
    · intro b h1 h2
      have h3 := (hnew y (by omega) hy).2 u b hu h2
      have h4 := (ho.lt b h1).2
      omega

theorem RS.cut (R : RS n g fc fb kb w s kb' wr) {x : Nat} {e : Ending} {w2 : World} (P : Cut2Post s.F (fun i => i < s.N) s.nd (plN n) fb kb' x wr e w2) {base : Nat} {la : Option Addr} {j lc : Nat} {L : List Value} (ho : wr.ownsRow base 77 1 (.slice la j lc) j L) (hA : LApt s kb' (.slice la j lc) wr) :
    e = .returned (.tuple #[]) ∧ RS n g fc fb kb w (s.cut x) kb' w2 ∧ w2.ownsRow base 77 1 (.slice la j lc) j L ∧ LApt (s.cut x) kb' (.slice la j lc) w2 := by
  obtain ⟨rfl, ⟨hK, hRw⟩, hT⟩ := P
  refine ⟨rfl, ⟨hK, R.fst_kept hT, R.old, R.new, R.kfb_of hT⟩, ?_, fun y hy u hu => ?_⟩
  · exact hT.own ho fun i hi => by
      obtain ⟨_, _, _, _, _, hh, _, _⟩ := R.kno.node i hi
      exact own_ne ho hh (by decide)
  · rcases hRw y hy u hu with h1 | h1
    · exact hA y hy u h1
    · intro b h2 h3
      have := h1 b h3
      have := (ho.lt b h2).2
      omega

theorem RS.up (R : RS n g fc fb kb w s kb' wr) {w2 : World} (hb : Below wr.heap.size wr w2) : RS n g fc fb kb w s kb' w2 :=
  ⟨R.kno.up hb, (hb.block _ (Array.getElem?_eq_some_iff.1 R.fst).1).trans R.fst, R.old, R.new, R.turn.trans (KTurn.of_below hb)⟩

/-- The row grows by one. -/
theorem RS.grow (R : RS n g fc fb kb w s kb' wr) {base j : Nat} {v : Value} {L : List Value} (hbase : w.heap.size ≤ base) (ho : wr.ownsRow base 77 1 v j L) (hA : LApt s kb' v wr) {w2 : World} (hg : wr.grownBy w2 v.ownBlock) {v2 : Value} (hat : v2.ownBlock = v.ownBlock ∨ v2.ownBlock = some wr.heap.size) :
    RS n g fc fb kb w s kb' w2 ∧ LApt s kb' v2 w2 := by
  have hblk : ∀ i, i < s.N → w2.heap[kb' i]? = wr.heap[kb' i]? := fun i hi => by
    obtain ⟨_, _, _, _, _, hh, _, _⟩ := R.kno.node i hi
    exact hg.block _ (Array.getElem?_eq_some_iff.1 hh).1 (fun e2 => own_ne ho hh (by decide) e2.symm)
  refine ⟨⟨⟨fun i hi => ?_, R.kno.inj⟩, ?_, R.old, R.new, ⟨hg.os.trans R.turn.os, hg.tape.trans R.turn.tape, hg.output.trans R.turn.output, Nat.le_trans R.turn.size hg.size, fun b hb hn => ?_⟩⟩, fun y hy u hu => ?_⟩
  · obtain ⟨hB, aa, ac, ka, kc, hh, h1, h2⟩ := R.kno.node i hi
    have hu : wr.cell? ⟨kb' i, 7, none⟩ = some (.slice ka (s.F.kids i).length kc) := by rw [cell_of_row wr _ 7 _ _ _ hh]; rfl
    refine ⟨hB, aa, ac, ka, kc, (hblk i hi).trans hh, h1.kept hg ?_, h2.kept hg (hA i hi _ hu).ne⟩
    cases hb : (Value.slice aa (s.nd i).attrs.length ac).ownBlock with
    | none => exact .inl rfl
    | some b =>
      refine .inr fun e2 => ?_
      obtain ⟨g', cap, cur, hv, _, hh2, _⟩ : ∃ g' cap cur, (Value.slice aa (s.nd i).attrs.length ac) = .slice (some ⟨g', 0, none⟩) (s.nd i).attrs.length cap ∧ fb ≤ g' ∧ wr.heap[g']? = some (.cells cur 96 (0, 0)) ∧ True := by
        rcases h1.2 with ⟨e3, _⟩ | ⟨g', cap, cur, e3, e4, e5, _⟩
        · rw [e3] at hb; simp [Value.ownBlock] at hb
        · exact ⟨g', cap, cur, e3, e4, e5, trivial⟩
      rw [hv] at hb
      simp [Value.ownBlock] at hb
      subst hb
      exact own_ne ho hh2 (by decide) e2.symm
  · rw [hg.block fb (Array.getElem?_eq_some_iff.1 R.fst).1 (fun e2 => own_ne ho R.fst (by decide) e2.symm)]
    exact R.fst
  · rw [hg.block b (Nat.lt_of_lt_of_le hb R.turn.size) (fun e => by have := (ho.lt b e.symm).1; omega)]
    exact R.turn.block b hb hn
  · rw [World.cell?_of_block (a := ⟨kb' y, 7, none⟩) (hblk y hy)] at hu
    obtain ⟨u', hu', hlt⟩ := R.kno.row7 (i := y) hy
    rw [hu] at hu'; cases hu'
    exact (hA y hy u hu).step hat (fun q hq => hlt q hq)

theorem RS.ins (R : RS n g fc fb kb w s kb' wr) {p k : Nat} {L : List Nat} {e : Ending} {w2 : World} (P : InsedPost s.F (fun i => i < s.N) s.nd (plN n) fb kb' p k L wr e w2) :
    e = .returned (.tuple #[]) ∧ RS n g fc fb kb w (s.row p k L) kb' w2 := by
  obtain ⟨rfl, hK, hT⟩ := P
  exact ⟨rfl, hK, R.fst_kept hT, R.old, R.new, R.kfb_of hT⟩
end
end Go.Proofs.Ytmhhfljbocbolaa

namespace Go.Proofs.Ytmhhfljbocbolaa
set_option linter.unusedVariables false

theorem lst_same {F G : Fo} {N : Nat} (hk : ∀ y, y < N → G.kids y = F.kids y) (hc : ∀ y, y < N → ∀ c ∈ F.kids y, c < N) : ∀ (d y : Nat), y < N → G.lst d y = F.lst d y := by
  intro d
  induction d with
  | zero => intro y _; rfl
  | succ d ih =>
    intro y hy
    show y :: (G.kids y).flatMap (G.lst d) = y :: (F.kids y).flatMap (F.lst d)
    rw [hk y hy]
    congr 1
    have : ∀ l : List Nat, (∀ c ∈ l, c < N) → l.flatMap (G.lst d) = l.flatMap (F.lst d) := by
      intro l
      induction l with
      | nil => intro _; rfl
      | cons c l ihl => intro hl; rw [List.flatMap_cons, List.flatMap_cons, ih c (hl c List.mem_cons_self), ihl fun c' hc' => hl c' (List.mem_cons_of_mem _ hc')]
    exact this _ (hc y hy)

theorem lst_up {F G : Fo} (hm : ∀ p c, c ∈ F.kids p → F.par c = some p) : ∀ (d w : Nat), (∀ y, F.Up w y → G.kids y = F.kids y) → G.lst d w = F.lst d w := by
  intro d
  induction d with
  | zero => intro y _; rfl
  | succ d ih =>
    intro w hw
    show w :: (G.kids w).flatMap (G.lst d) = w :: (F.kids w).flatMap (F.lst d)
    rw [hw w .self]
    congr 1
    have : ∀ l : List Nat, (∀ c ∈ l, c ∈ F.kids w) → l.flatMap (G.lst d) = l.flatMap (F.lst d) := by
      intro l
      induction l with
      | nil => intro _; rfl
      | cons c l ihl =>
        intro hl
        rw [List.flatMap_cons, List.flatMap_cons, ih c (fun y u => hw y (up_above (hm w c (hl c List.mem_cons_self)) u)), ihl fun c' hc' => hl c' (List.mem_cons_of_mem _ hc')]
    exact this _ (fun _ h => h)

theorem cpy_len (d : Nat) : ∀ (s : FoS) (h : Nat → Nat) (x : Nat), s.F.Ok (fun i => i < s.N) h → x < s.N → h x ≤ d → (cpy d s x).N ≤ s.N + (s.F.lst d x).length := by
  induction d with
  | zero =>
    intro s h x o hx hd
    show (if 600 ≤ s.N then (s.fresh x).shut else s.fresh x).N ≤ s.N + 1
    split <;> exact Nat.le_refl _
  | succ d ih =>
    intro s h x o hx hd
    have hl : (s.F.lst (d + 1) x).length = 1 + ((s.F.kids x).flatMap (s.F.lst d)).length := by show (x :: (s.F.kids x).flatMap (s.F.lst d)).length = _; rw [List.length_cons]; omega
    show (if 600 ≤ s.N then (s.fresh x).shut else (s.F.kids x).foldl (cstep (cpy d) s.N) (s.fresh x)).N ≤ _
    split
    · show s.N + 1 ≤ _; omega
    · have key : ∀ (M : List Nat) (a : FoS) (ha : Nat → Nat), Ext s a h ha x → (∀ c ∈ M, s.F.par c = some x) → (M.foldl (cstep (cpy d) s.N) a).N ≤ a.N + (M.flatMap (s.F.lst d)).length := by
        intro M
        induction M with
        | nil => intro a ha e _; exact Nat.le_add_right _ _
        | cons c M ihM =>
          intro a ha e hM
          have h1 := hM c List.mem_cons_self
          have h2 := (o.dom x c h1).2
          have h3 := o.ht x c h1
          have hlt := e.lt
          have hac : ha c ≤ d := by rw [e.hold c h2]; omega
          have e1 := ih a ha c e.ok (by omega) hac
          rw [lst_same e.kids (fun y hy c hc => (o.dom y c ((o.mem y c).1 hc)).2) d c h2] at e1
          obtain ⟨hb, eb⟩ := cpy_ok d a ha c e.ok (by omega) hac
          obtain ⟨e2, _⟩ := ext_step e h2 eb h3
          have e3 := ihM _ _ e2 (fun c' hc' => hM c' (List.mem_cons_of_mem _ hc'))
          have e4 : ((cpy d a c).putB s.N s.N a.N).N = (cpy d a c).N := rfl
          rw [e4] at e3
          rw [List.flatMap_cons, List.length_append]
          show (M.foldl (cstep (cpy d) s.N) ((cpy d a c).putB s.N s.N a.N)).N ≤ _
          omega
      have e5 := key (s.F.kids x) (s.fresh x) _ (ext_fresh o hx) (fun c hc => (o.mem x c).1 hc)
      have e6 : (s.fresh x).N = s.N + 1 := rfl
      omega

theorem cpy_one (d : Nat) (s : FoS) (x : Nat) (h : 600 ≤ s.N) : (cpy d s x).N = s.N + 1 := by
  cases d with
  | zero => show (if 600 ≤ s.N then _ else _ : FoS).N = _; rw [if_pos h]; rfl
  | succ d => show (if 600 ≤ s.N then _ else _ : FoS).N = _; rw [if_pos h]; rfl

theorem inn_bound {n : Nat} {F0 : Fo} {h0 : Nat → Nat} {nd0 : Nat → Nd} {op : Int} (o0 : F0.Ok (fun i => i < n) h0) (hn : n ≤ 200) {xs ws : List Nat} {s : FoS} {h : Nat → Nat} (I : Inv n F0 h0 nd0 op xs ws s h) (hh : ∀ w ∈ ws, w < n ∧ h0 w ≤ 200) {c : Nat} (hc : 800 ≤ c) (hs : s.N ≤ c) (j : Nat) : (innS false s (ws.take j)).N ≤ c + j := by
  induction j with
  | zero => exact hs
  | succ j ih =>
    by_cases hj : j < ws.length
    · obtain ⟨ha, A⟩ := innC I hh j
      have hm := List.getElem_mem hj
      obtain ⟨w1, w2⟩ := hh ws[j] hm
      have hle := I.le
      have hw : ws[j] < s.N := by omega
      rw [List.take_succ_eq_append_getElem hj, innS_snoc]
      simp only [Bool.false_eq_true, if_false]
      by_cases h6 : 600 ≤ (innS false s (ws.take j)).N
      · rw [cpy_one _ _ _ h6]; omega
      · have hl := cpy_len 200 (innS false s (ws.take j)) ha ws[j] A.ok (by have := A.le; omega) (by rw [A.hold _ hw, (I.sub _ hm _ .self).2]; exact w2)
        have e1 : (innS false s (ws.take j)).F.lst 200 ws[j] = F0.lst 200 ws[j] := lst_up (fun p c => (o0.mem p c).1) 200 ws[j] fun y u => by
          have hy : y < s.N := Nat.lt_of_lt_of_le (o0.up_mem (S := fun i => i < n) w1 u) hle
          rw [A.kids y hy]; exact (I.sub _ hm y u).1
        have e2 : F0.lst 200 ws[j] = F0.all h0 ws[j] := F0.lst_fuel o0 _ _ _ w2 (Nat.le_refl _)
        have e3 := all_bound o0 (n := n) (x := ws[j]) (fun i hi => hi) w1
        rw [e1, e2] at hl
        omega
    · have e : ws.take (j + 1) = ws.take j := by rw [List.take_of_length_le (by omega), List.take_of_length_le (by omega)]
      rw [e]; omega

theorem insN_inv {n : Nat} {F0 : Fo} {h0 : Nat → Nat} {nd0 : Nat → Nd} {op : Int} (hop : op = 1 ∨ op = 2 ∨ op = 4) (o0 : F0.Ok (fun i => i < n) h0) (hn : n ≤ 200) {xs ws : List Nat} {s : FoS} {h : Nat → Nat} (I : Inv n F0 h0 nd0 op xs ws s h) (hh : ∀ w ∈ ws, w < n ∧ h0 w ≤ 200) (hxs : ∀ x ∈ xs, x < n) (hs : s.N ≤ 800) : ∀ i, i < xs.length → ∃ h', Inv n F0 h0 nd0 op xs ws (insN op s xs ws i) h' ∧ (insN op s xs ws i).N ≤ 800 + i * ws.length := by
  intro i
  induction i with
  | zero => intro _; exact ⟨h, I, by rw [Nat.zero_mul]; exact hs⟩
  | succ i ih =>
    intro hi
    obtain ⟨h', I', hb⟩ := ih (by omega)
    have e1 : decide (i + 1 = xs.length) = false := decide_eq_false (by omega)
    have e2 : xs.getD i 0 = xs[i]'(by omega) := by rw [List.getD_eq_getElem?_getD, List.getElem?_eq_getElem (by omega), Option.getD_some]
    have e3 : insN op s xs ws (i + 1) = insOne op false (insN op s xs ws i) (xs[i]'(by omega)) ws := by
      show insOne op (decide (i + 1 = xs.length)) _ (xs.getD i 0) ws = _
      rw [e1, e2]
    obtain ⟨h2, I2⟩ := inv_next hop o0 I' hh hxs (List.getElem_mem (show i < xs.length by omega))
    refine ⟨h2, by rw [e3]; exact I2, ?_⟩
    have := inn_bound o0 hn I' hh (by omega) hb ws.length
    rw [List.take_length] at this
    rw [e3, Nat.succ_mul]
    show (innS false (insN op s xs ws i) ws).N ≤ _
    omega
end Go.Proofs.Ytmhhfljbocbolaa
