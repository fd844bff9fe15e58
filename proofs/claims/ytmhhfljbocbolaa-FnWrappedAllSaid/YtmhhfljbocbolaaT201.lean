/- A forest that changes, and the five pointers of its nodes. -/
import Derived.Test.YtmhhfljbocbolaaT9
import Derived.Test.YtmhhfljbocbolaaT200
namespace Go.Proofs.Ytmhhfljbocbolaa
set_option linter.unusedVariables false

/-- The one right behind. -/
def nextIn : List Nat → Nat → Option Nat
  | [], _ => none
  | x :: l, c => if x = c then l.head? else nextIn l c
/-- The one right ahead. -/
def prevIn (l : List Nat) (c : Nat) : Option Nat := nextIn l.reverse c

theorem nextIn_split (l2 : List Nat) (c : Nat) : ∀ (l1 : List Nat), c ∉ l1 → nextIn (l1 ++ c :: l2) c = l2.head?
  | [], _ => by simp [nextIn]
  | x :: l1, h => by
    rw [List.cons_append]
    show (if x = c then _ else nextIn (l1 ++ c :: l2) c) = _
    rw [if_neg (show ¬ x = c from fun e => h (e ▸ List.mem_cons_self)), nextIn_split l2 c l1 (fun e => h (List.mem_cons_of_mem _ e))]

theorem prevIn_split (l1 : List Nat) (c : Nat) (l2 : List Nat) (h : c ∉ l2) : prevIn (l1 ++ c :: l2) c = l1.getLast? := by
  unfold prevIn
  rw [List.reverse_append, List.reverse_cons, List.append_assoc, List.singleton_append, nextIn_split _ _ _ (by rw [List.mem_reverse]; exact h), List.head?_reverse]

theorem nodup_split {l1 l2 : List Nat} {c : Nat} (h : (l1 ++ c :: l2).Nodup) : c ∉ l1 ∧ c ∉ l2 ∧ l1.Nodup ∧ l2.Nodup ∧ ∀ x ∈ l1, x ∉ l2 := by
  rw [List.nodup_append, List.nodup_cons] at h
  obtain ⟨h1, ⟨h2, h3⟩, h4⟩ := h
  exact ⟨fun hm => h4 c hm c List.mem_cons_self rfl, h2, h1, h3, fun x hx hx2 => h4 x hx x (List.mem_cons_of_mem _ hx2) rfl⟩

/-- What a node's five pointers say, of a forest. -/
structure FitD (F : Fo) (i : Nat) (d : Dn) : Prop where
  par : d.par = F.par i
  fst : d.fst = (F.kids i).head?
  lst : d.lst = (F.kids i).getLast?
  root : F.par i = none → d.prv = none ∧ d.nxt = none
  sib : ∀ p, F.par i = some p → d.prv = prevIn (F.kids p) i ∧ d.nxt = nextIn (F.kids p) i

/-- RemoveChild, on the nodes as data. -/
def rmSt (st : Nat → Dn) (p c : Nat) : Nat → Dn :=
  let pv := (st c).prv
  let nx := (st c).nxt
  let s1 := match pv with
    | none => upd st p ((st p).set 1 nx)
    | some _ => st
  let s2 := match nx with
    | some q => upd s1 q ((s1 q).set 3 pv)
    | none => s1
  let s3 := match nx with
    | none => upd s2 p ((s2 p).set 2 pv)
    | some _ => s2
  let s4 := match pv with
    | some q => upd s3 q ((s3 q).set 4 nx)
    | none => s3
  let s5 := upd s4 c ((s4 c).set 0 none)
  let s6 := upd s5 c ((s5 c).set 3 none)
  upd s6 c ((s6 c).set 4 none)

/-- What a node says behind a removal. -/
theorem rmSt_at (st : Nat → Dn) (p c : Nat) (hpc : p ≠ c) (h1 : (st c).prv ≠ some p) (h2 : (st c).nxt ≠ some p) (h3 : (st c).prv ≠ some c) (h4 : (st c).nxt ≠ some c) (h5 : ∀ q, (st c).prv = some q → (st c).nxt ≠ some q) (i : Nat) :
    rmSt st p c i = if i = c then ⟨none, (st c).fst, (st c).lst, none, none, (st c).typ, (st c).dat, (st c).ats⟩
      else if i = p then ⟨(st p).par, (if (st c).prv = none then (st c).nxt else (st p).fst), (if (st c).nxt = none then (st c).prv else (st p).lst), (st p).prv, (st p).nxt, (st p).typ, (st p).dat, (st p).ats⟩
      else if (st c).nxt = some i then ⟨(st i).par, (st i).fst, (st i).lst, (st c).prv, (st i).nxt, (st i).typ, (st i).dat, (st i).ats⟩
      else if (st c).prv = some i then ⟨(st i).par, (st i).fst, (st i).lst, (st i).prv, (st c).nxt, (st i).typ, (st i).dat, (st i).ats⟩
      else st i := by
  unfold rmSt
  cases e1 : (st c).prv with
  | none =>
    cases e2 : (st c).nxt with
    | none =>
      dsimp only
      by_cases a : i = c
      · subst a; simp [upd, Dn.set, Ne.symm hpc]
      · by_cases b : i = p
        · subst b; simp [upd, Dn.set, a]
        · simp [upd, a, b]
    | some q =>
      rw [e2] at h2 h4
      have hq : q ≠ p := fun e => h2 (by rw [e])
      have hqc : q ≠ c := fun e => h4 (by rw [e])
      dsimp only
      by_cases a : i = c
      · subst a; simp [upd, Dn.set, Ne.symm hpc, Ne.symm hqc]
      · by_cases b : i = p
        · subst b; simp [upd, Dn.set, a, Ne.symm hq]
        · by_cases d : i = q
          · subst d; simp [upd, Dn.set, a, b]
          · simp [upd, a, b, d, Ne.symm d]
  | some r =>
    rw [e1] at h1 h3 h5
    have hr : r ≠ p := fun e => h1 (by rw [e])
    have hrc : r ≠ c := fun e => h3 (by rw [e])
    cases e2 : (st c).nxt with
    | none =>
      dsimp only
      by_cases a : i = c
      · subst a; simp [upd, Dn.set, Ne.symm hpc, Ne.symm hrc]
      · by_cases b : i = p
        · subst b; simp [upd, Dn.set, a, Ne.symm hr]
        · by_cases d : i = r
          · subst d; simp [upd, Dn.set, a, b]
          · simp [upd, a, b, d, Ne.symm d]
    | some q =>
      rw [e2] at h2 h4
      have hq : q ≠ p := fun e => h2 (by rw [e])
      have hqc : q ≠ c := fun e => h4 (by rw [e])
      have hrq : q ≠ r := fun e => h5 r rfl (by rw [e2, e])
      dsimp only
      by_cases a : i = c
      · subst a; simp [upd, Dn.set, Ne.symm hqc, Ne.symm hrc]
      · by_cases b : i = p
        · subst b; simp [upd, a, Ne.symm hq, Ne.symm hr]
        · by_cases d : i = q
          · subst d; simp [upd, Dn.set, a, b, hrq]
          · by_cases f : i = r
            · subst f; simp [upd, Dn.set, a, b, d, Ne.symm d]
            · simp [upd, a, b, d, f, Ne.symm d, Ne.symm f]

theorem split_at {l : List Nat} {c : Nat} (h : c ∈ l) : ∃ l1 l2, l = l1 ++ c :: l2 := List.append_of_mem h

theorem filter_split {l1 l2 : List Nat} {c : Nat} (h : (l1 ++ c :: l2).Nodup) : (l1 ++ c :: l2).filter (fun x => !decide (x = c)) = l1 ++ l2 := by
  obtain ⟨h1, h2, _⟩ := nodup_split h
  rw [List.filter_append, List.filter_cons, filter_ne_self h1, filter_ne_self h2]
  simp

/-- What RemoveChild makes of the pointers is what cutting makes of the forest. -/
theorem fit_cut {F : Fo} {S : Nat → Prop} {h : Nat → Nat} (o : F.Ok S h) {st : Nat → Dn} (hf : ∀ i, S i → FitD F i (st i)) {p c : Nat} (hc : F.par c = some p) :
    ((∀ q, (st c).prv = some q → S q ∧ q ≠ p ∧ q ≠ c ∧ (st c).nxt ≠ some q) ∧ (∀ q, (st c).nxt = some q → S q ∧ q ≠ p ∧ q ≠ c) ∧ ((st p).fst = some c ↔ (st c).prv = none) ∧ ((st p).lst = some c ↔ (st c).nxt = none) ∧ (st c).par = some p ∧ p ≠ c) ∧
    ∀ i, S i → FitD (F.cut c) i (rmSt st p c i) := by
  obtain ⟨hSp, hSc⟩ := o.dom p c hc
  obtain ⟨l1, l2, hk⟩ := split_at ((o.mem p c).2 hc)
  have hnd := o.nodup p
  rw [hk] at hnd
  obtain ⟨n1, n2, n3, n4, n5⟩ := nodup_split hnd
  have hcp : p ≠ c := fun e => by have := o.ht p c hc; rw [e] at this; omega
  have hpv : (st c).prv = l1.getLast? := by rw [((hf c hSc).sib p hc).1, hk, prevIn_split _ _ _ n2]
  have hnx : (st c).nxt = l2.head? := by rw [((hf c hSc).sib p hc).2, hk, nextIn_split _ _ _ n1]
  have in1 : ∀ q, l1.getLast? = some q → q ∈ l1 := fun q hq => List.mem_of_getLast? hq
  have in2 : ∀ q, l2.head? = some q → q ∈ l2 := fun q hq => List.mem_of_head? hq
  have kidp : ∀ q, q ∈ l1 ∨ q ∈ l2 → F.par q = some p := fun q hq => by
    rw [← o.mem, hk, List.mem_append, List.mem_cons]
    rcases hq with hq | hq
    · exact .inl hq
    · exact .inr (.inr hq)
  have hnp : ∀ q, F.par q = some p → q ≠ p := fun q hq e => by have := o.ht p q hq; rw [e] at this; omega
  have hSq : ∀ q, F.par q = some p → S q := fun q hq => (o.dom p q hq).2
  have A1 : ∀ q, (st c).prv = some q → S q ∧ q ≠ p ∧ q ≠ c ∧ (st c).nxt ≠ some q := by
    intro q hq
    rw [hpv] at hq
    have hm := in1 q hq
    refine ⟨hSq q (kidp q (.inl hm)), hnp q (kidp q (.inl hm)), fun e => n1 (e ▸ hm), fun e => ?_⟩
    rw [hnx] at e
    exact n5 q hm (in2 q e)
  have A2 : ∀ q, (st c).nxt = some q → S q ∧ q ≠ p ∧ q ≠ c := by
    intro q hq
    rw [hnx] at hq
    have hm := in2 q hq
    exact ⟨hSq q (kidp q (.inr hm)), hnp q (kidp q (.inr hm)), fun e => n2 (e ▸ hm)⟩
  have hfst : (st p).fst = (l1 ++ c :: l2).head? := by rw [(hf p hSp).fst, hk]
  have hlst : (st p).lst = (l1 ++ c :: l2).getLast? := by rw [(hf p hSp).lst, hk]
  have A3 : (st p).fst = some c ↔ (st c).prv = none := by
    rw [hfst, hpv]
    cases l1 with
    | nil => simp
    | cons x l =>
      simp only [List.cons_append, List.head?_cons, Option.some.injEq, List.getLast?_eq_none_iff, reduceCtorEq, iff_false]
      exact fun e => n1 (e ▸ List.mem_cons_self)
  have A4 : (st p).lst = some c ↔ (st c).nxt = none := by
    rw [hlst, hnx]
    cases l2 with
    | nil => simp
    | cons x l =>
      rw [List.getLast?_append, List.getLast?_cons_cons]
      simp only [List.head?_cons, reduceCtorEq, iff_false]
      intro e
      obtain ⟨y, hy⟩ : ∃ y, (x :: l).getLast? = some y := by
        cases hh : (x :: l).getLast? with
        | none => simp at hh
        | some y => exact ⟨y, rfl⟩
      rw [hy] at e
      simp only [Option.some_or, Option.some.injEq] at e
      exact n2 (e ▸ List.mem_of_getLast? hy)
  refine ⟨⟨A1, A2, A3, A4, by rw [(hf c hSc).par, hc], hcp⟩, fun i hi => ?_⟩
  rw [rmSt_at st p c hcp (fun e => (A1 p e).2.1 rfl) (fun e => (A2 p e).2.1 rfl) (fun e => (A1 c e).2.2.1 rfl) (fun e => (A2 c e).2.2 rfl) (fun q hq => (A1 q hq).2.2.2) i]
  have kc : ∀ q, q ≠ p → (F.cut c).kids q = F.kids q := fun q hq => by
    show (F.kids q).filter _ = F.kids q
    refine filter_ne_self fun hm => hq ?_
    rw [o.mem, hc] at hm
    cases hm; rfl
  have kp : (F.cut c).kids p = l1 ++ l2 := by
    show (F.kids p).filter _ = _
    rw [hk]; exact filter_split hnd
  have pc : ∀ q, q ≠ c → (F.cut c).par q = F.par q := fun q hq => by show (if q = c then none else F.par q) = _; rw [if_neg hq]
  have fi := hf i hi
  by_cases a : i = c
  · subst a
    rw [if_pos rfl]
    have hpn : (F.cut i).par i = none := by show (if i = i then none else F.par i) = none; rw [if_pos rfl]
    refine ⟨hpn.symm, ?_, ?_, fun _ => ⟨rfl, rfl⟩, fun q hq => ?_⟩
    · rw [kc i (Ne.symm hcp)]; exact fi.fst
    · rw [kc i (Ne.symm hcp)]; exact fi.lst
    · rw [hpn] at hq; cases hq
  · rw [if_neg a]
    by_cases b : i = p
    · subst b
      rw [if_pos rfl]
      refine ⟨by rw [pc i a]; exact fi.par, ?_, ?_, fun hr => fi.root (by rw [← pc i a]; exact hr), fun q hq => ?_⟩
      · rw [kp]
        show (if (st c).prv = none then (st c).nxt else (st i).fst) = _
        rw [hpv, hnx, hfst]
        cases l1 with
        | nil => rfl
        | cons x l => rw [if_neg (by simp)]; rfl
      · rw [kp]
        show (if (st c).nxt = none then (st c).prv else (st i).lst) = _
        rw [hpv, hnx, hlst]
        cases l2 with
        | nil => simp
        | cons x l =>
          rw [if_neg (by simp), List.getLast?_append, List.getLast?_append, List.getLast?_cons_cons]
      · rw [pc i a] at hq
        have hqi : q ≠ i := fun e => by have := o.ht q i hq; rw [e] at this; omega
        rw [kc q hqi]
        exact fi.sib q hq
    · rw [if_neg b]
      -- the pointers to kids are as they were, and the kin of all others
      have far : F.par i ≠ some p → FitD (F.cut c) i (st i) := by
        intro hip
        refine ⟨by rw [pc i a]; exact fi.par, by rw [kc i b]; exact fi.fst, by rw [kc i b]; exact fi.lst, fun hr => fi.root (by rw [← pc i a]; exact hr), fun q hq => ?_⟩
        rw [pc i a] at hq
        rw [kc q (fun e => hip (e ▸ hq))]
        exact fi.sib q hq
      have near : ∀ d : Dn, F.par i = some p → d.par = (st i).par → d.fst = (st i).fst → d.lst = (st i).lst → d.prv = prevIn (l1 ++ l2) i → d.nxt = nextIn (l1 ++ l2) i → FitD (F.cut c) i d := by
        intro d hip e1 e2 e3 e4 e5
        refine ⟨by rw [pc i a, e1]; exact fi.par, by rw [kc i b, e2]; exact fi.fst, by rw [kc i b, e3]; exact fi.lst, fun hr => (by rw [pc i a, hip] at hr; cases hr), fun q hq => ?_⟩
        rw [pc i a, hip] at hq
        cases hq
        rw [kp]
        exact ⟨e4, e5⟩
      have hprv : F.par i = some p → (st i).prv = prevIn (l1 ++ c :: l2) i := fun hip => by rw [(fi.sib p hip).1, hk]
      have hnxt : F.par i = some p → (st i).nxt = nextIn (l1 ++ c :: l2) i := fun hip => by rw [(fi.sib p hip).2, hk]
      have hnd2 : (l1 ++ l2).Nodup := by rw [← kp]; exact (o.cut c).nodup p
      by_cases d : (st c).nxt = some i
      · rw [if_pos d]
        rw [hnx] at d
        have hm := in2 i d
        have hip := kidp i (.inr hm)
        obtain ⟨m, rfl⟩ : ∃ m, l2 = i :: m := by
          cases l2 with
          | nil => cases d
          | cons x l => simp at d; subst d; exact ⟨l, rfl⟩
        obtain ⟨q1, q2, _⟩ := nodup_split hnd2
        refine near _ hip rfl rfl rfl ?_ ?_
        · show (st c).prv = _
          rw [hpv, prevIn_split _ _ _ q2]
        · show (st i).nxt = _
          rw [hnxt hip, nextIn_split _ _ _ q1]
          have : l1 ++ c :: i :: m = (l1 ++ [c]) ++ i :: m := by simp
          rw [this, nextIn_split _ _ _ (by simp [q1, a])]
      · rw [if_neg d]
        by_cases f : (st c).prv = some i
        · rw [if_pos f]
          rw [hpv] at f
          have hm := in1 i f
          have hip := kidp i (.inl hm)
          obtain ⟨m, rfl⟩ : ∃ m, l1 = m ++ [i] := by
            rcases List.eq_nil_or_concat l1 with e | ⟨m, x, e⟩
            · subst e; cases f
            · subst e; simp at f; subst f; exact ⟨m, by simp⟩
          have e1 : m ++ [i] ++ l2 = m ++ i :: l2 := by simp
          have e2 : m ++ [i] ++ c :: l2 = m ++ i :: (c :: l2) := by simp
          rw [e1] at hnd2 near
          obtain ⟨q1, q2, _⟩ := nodup_split hnd2
          refine near _ hip rfl rfl rfl ?_ ?_
          · show (st i).prv = _
            rw [hprv hip, prevIn_split _ _ _ q2, e2, prevIn_split _ _ _ (by simp [q2, a])]
          · show (st c).nxt = _
            rw [hnx, nextIn_split _ _ _ q1]
        · rw [if_neg f]
          by_cases hip : F.par i = some p
          · have hm : i ∈ l1 ∨ i ∈ l2 := by
              have := (o.mem p i).2 hip
              rw [hk, List.mem_append, List.mem_cons] at this
              rcases this with q | q | q
              · exact .inl q
              · exact absurd q a
              · exact .inr q
            refine near _ hip rfl rfl rfl ?_ ?_
            · rw [hprv hip]
              rcases hm with hm | hm
              · obtain ⟨x, y, rfl⟩ := split_at hm
                have e1 : x ++ i :: y ++ l2 = x ++ i :: (y ++ l2) := by simp
                have e2 : x ++ i :: y ++ c :: l2 = x ++ i :: (y ++ c :: l2) := by simp
                rw [e1] at hnd2 ⊢
                obtain ⟨q1, q2, _⟩ := nodup_split hnd2
                have q2' : i ∉ y ++ c :: l2 := by
                  rw [List.mem_append, List.mem_cons]
                  rw [List.mem_append] at q2
                  rintro (z | z | z)
                  · exact q2 (.inl z)
                  · exact a z
                  · exact q2 (.inr z)
                rw [e2, prevIn_split _ _ _ q2', prevIn_split _ _ _ q2]
              · obtain ⟨x, y, rfl⟩ := split_at hm
                have e1 : l1 ++ (x ++ i :: y) = (l1 ++ x) ++ i :: y := by simp
                have e2 : l1 ++ c :: (x ++ i :: y) = (l1 ++ c :: x) ++ i :: y := by simp
                rw [e1] at hnd2 ⊢
                obtain ⟨q1, q2, _⟩ := nodup_split hnd2
                rw [e2, prevIn_split _ _ _ q2, prevIn_split _ _ _ q2]
                cases x with
                | nil => exact absurd (by rw [hnx]; rfl) d
                | cons z zs => rw [List.getLast?_append, List.getLast?_append, List.getLast?_cons_cons]
            · rw [hnxt hip]
              rcases hm with hm | hm
              · obtain ⟨x, y, rfl⟩ := split_at hm
                have e1 : x ++ i :: y ++ l2 = x ++ i :: (y ++ l2) := by simp
                have e2 : x ++ i :: y ++ c :: l2 = x ++ i :: (y ++ c :: l2) := by simp
                rw [e1] at hnd2 ⊢
                obtain ⟨q1, q2, _⟩ := nodup_split hnd2
                rw [e2, nextIn_split _ _ _ q1, nextIn_split _ _ _ q1]
                cases y with
                | nil => exact absurd (by rw [hpv]; simp) f
                | cons z zs => rfl
              · obtain ⟨x, y, rfl⟩ := split_at hm
                have e1 : l1 ++ (x ++ i :: y) = (l1 ++ x) ++ i :: y := by simp
                have e2 : l1 ++ c :: (x ++ i :: y) = (l1 ++ c :: x) ++ i :: y := by simp
                rw [e1] at hnd2 ⊢
                obtain ⟨q1, q2, _⟩ := nodup_split hnd2
                have q1' : i ∉ l1 ++ c :: x := by
                  rw [List.mem_append, List.mem_cons]
                  rw [List.mem_append] at q1
                  rintro (z | z | z)
                  · exact q1 (.inl z)
                  · exact a z
                  · exact q1 (.inr z)
                rw [e2, nextIn_split _ _ _ q1', nextIn_split _ _ _ q1]
          · exact far hip

/-- InsertBefore and AppendChild, on the nodes as data: between two nodes. -/
def insSt (st : Nat → Dn) (p c : Nat) (pv nx : Option Nat) : Nat → Dn :=
  let s1 := match pv with
    | some q => upd st q ((st q).set 4 (some c))
    | none => upd st p ((st p).set 1 (some c))
  let s2 := match nx with
    | some q => upd s1 q ((s1 q).set 3 (some c))
    | none => upd s1 p ((s1 p).set 2 (some c))
  let s3 := upd s2 c ((s2 c).set 0 (some p))
  let s4 := upd s3 c ((s3 c).set 3 pv)
  upd s4 c ((s4 c).set 4 nx)

theorem insSt_at (st : Nat → Dn) (p c : Nat) (pv nx : Option Nat) (hpc : p ≠ c) (h1 : pv ≠ some p) (h2 : nx ≠ some p) (h3 : pv ≠ some c) (h4 : nx ≠ some c) (h5 : ∀ q, pv = some q → nx ≠ some q) (i : Nat) :
    insSt st p c pv nx i = if i = c then ⟨some p, (st c).fst, (st c).lst, pv, nx, (st c).typ, (st c).dat, (st c).ats⟩
      else if i = p then ⟨(st p).par, (if pv = none then some c else (st p).fst), (if nx = none then some c else (st p).lst), (st p).prv, (st p).nxt, (st p).typ, (st p).dat, (st p).ats⟩
      else if pv = some i then ⟨(st i).par, (st i).fst, (st i).lst, (st i).prv, some c, (st i).typ, (st i).dat, (st i).ats⟩
      else if nx = some i then ⟨(st i).par, (st i).fst, (st i).lst, some c, (st i).nxt, (st i).typ, (st i).dat, (st i).ats⟩
      else st i := by
  unfold insSt
  cases pv with
  | none =>
    cases nx with
    | none =>
      dsimp only
      by_cases a : i = c
      · subst a; simp [upd, Dn.set, Ne.symm hpc]
      · by_cases b : i = p
        · subst b; simp [upd, Dn.set, a]
        · simp [upd, a, b]
    | some q =>
      have hq : q ≠ p := fun e => h2 (by rw [e])
      have hqc : q ≠ c := fun e => h4 (by rw [e])
      dsimp only
      by_cases a : i = c
      · subst a; simp [upd, Dn.set, Ne.symm hpc, Ne.symm hqc]
      · by_cases b : i = p
        · subst b; simp [upd, Dn.set, a, Ne.symm hq]
        · by_cases d : i = q
          · subst d; simp [upd, Dn.set, a, b]
          · simp [upd, a, b, d, Ne.symm d]
  | some r =>
    have hr : r ≠ p := fun e => h1 (by rw [e])
    have hrc : r ≠ c := fun e => h3 (by rw [e])
    cases nx with
    | none =>
      dsimp only
      by_cases a : i = c
      · subst a; simp [upd, Dn.set, Ne.symm hpc, Ne.symm hrc]
      · by_cases b : i = p
        · subst b; simp [upd, Dn.set, a, Ne.symm hr]
        · by_cases d : i = r
          · subst d; simp [upd, Dn.set, a, b]
          · simp [upd, a, b, d, Ne.symm d]
    | some q =>
      have hq : q ≠ p := fun e => h2 (by rw [e])
      have hqc : q ≠ c := fun e => h4 (by rw [e])
      have hrq : q ≠ r := fun e => h5 r rfl (by rw [e])
      dsimp only
      by_cases a : i = c
      · subst a; simp [upd, Dn.set, Ne.symm hqc, Ne.symm hrc]
      · by_cases b : i = p
        · subst b; simp [upd, a, Ne.symm hq, Ne.symm hr]
        · by_cases d : i = q
          · subst d; simp [upd, Dn.set, a, b, hrq, Ne.symm hrq]
          · by_cases f : i = r
            · subst f; simp [upd, Dn.set, a, b, d]
            · simp [upd, a, b, d, f, Ne.symm d, Ne.symm f]

theorem insL_split (l1 l2 : List Nat) (c : Nat) : insL (l1 ++ l2) l1.length c = l1 ++ c :: l2 := by
  unfold insL
  rw [List.take_left, List.drop_left]

/-- What an insertion makes of the pointers is what putting makes of the forest. -/
theorem fit_put {F : Fo} {S : Nat → Prop} {h : Nat → Nat} (o : F.Ok S h) {st : Nat → Dn} (hf : ∀ i, S i → FitD F i (st i)) {p c : Nat} (hp : S p) (hSc : S c) (hc : F.par c = none) (hcp : p ≠ c) {l1 l2 : List Nat} (hk : F.kids p = l1 ++ l2) :
    ((∀ q, l1.getLast? = some q → S q ∧ q ≠ p ∧ q ≠ c ∧ l2.head? ≠ some q) ∧ (∀ q, l2.head? = some q → S q ∧ q ≠ p ∧ q ≠ c) ∧ (st c).par = none ∧ (st c).prv = none ∧ (st c).nxt = none) ∧
    ∀ i, S i → FitD (F.put p l1.length c) i (insSt st p c l1.getLast? l2.head? i) := by
  have hnd := o.nodup p
  rw [hk] at hnd
  have hcl : c ∉ l1 ++ l2 := fun hm => by
    rw [← hk, o.mem, hc] at hm
    cases hm
  have in1 : ∀ q, l1.getLast? = some q → q ∈ l1 := fun q hq => List.mem_of_getLast? hq
  have in2 : ∀ q, l2.head? = some q → q ∈ l2 := fun q hq => List.mem_of_head? hq
  have kidp : ∀ q, q ∈ l1 ∨ q ∈ l2 → F.par q = some p := fun q hq => by rw [← o.mem, hk, List.mem_append]; exact hq
  have hnp : ∀ q, F.par q = some p → q ≠ p := fun q hq e => by have := o.ht p q hq; rw [e] at this; omega
  have hSq : ∀ q, F.par q = some p → S q := fun q hq => (o.dom p q hq).2
  have dis : ∀ x ∈ l1, x ∉ l2 := fun x hx hx2 => (List.nodup_append.1 hnd).2.2 x hx x hx2 rfl
  have A1 : ∀ q, l1.getLast? = some q → S q ∧ q ≠ p ∧ q ≠ c ∧ l2.head? ≠ some q := by
    intro q hq
    have hm := in1 q hq
    exact ⟨hSq q (kidp q (.inl hm)), hnp q (kidp q (.inl hm)), fun e => hcl (List.mem_append.2 (.inl (e ▸ hm))), fun e => dis q hm (in2 q e)⟩
  have A2 : ∀ q, l2.head? = some q → S q ∧ q ≠ p ∧ q ≠ c := by
    intro q hq
    have hm := in2 q hq
    exact ⟨hSq q (kidp q (.inr hm)), hnp q (kidp q (.inr hm)), fun e => hcl (List.mem_append.2 (.inr (e ▸ hm)))⟩
  refine ⟨⟨A1, A2, by rw [(hf c hSc).par, hc], ((hf c hSc).root hc).1, ((hf c hSc).root hc).2⟩, fun i hi => ?_⟩
  rw [insSt_at st p c _ _ hcp (fun e => (A1 p e).2.1 rfl) (fun e => (A2 p e).2.1 rfl) (fun e => (A1 c e).2.2.1 rfl) (fun e => (A2 c e).2.2 rfl) (fun q hq => (A1 q hq).2.2.2) i]
  have kc : ∀ q, q ≠ p → (F.put p l1.length c).kids q = F.kids q := fun q hq => by show (if q = p then _ else F.kids q) = _; rw [if_neg hq]
  have kp : (F.put p l1.length c).kids p = l1 ++ c :: l2 := by
    show (if p = p then insL (F.kids p) l1.length c else _) = _
    rw [if_pos rfl, hk, insL_split]
  have pc : ∀ q, q ≠ c → (F.put p l1.length c).par q = F.par q := fun q hq => by show (if q = c then some p else F.par q) = _; rw [if_neg hq]
  have pcc : (F.put p l1.length c).par c = some p := by show (if c = c then some p else F.par c) = _; rw [if_pos rfl]
  have fi := hf i hi
  have n1 : c ∉ l1 := fun e => hcl (List.mem_append.2 (.inl e))
  have n2 : c ∉ l2 := fun e => hcl (List.mem_append.2 (.inr e))
  by_cases a : i = c
  · subst a
    rw [if_pos rfl]
    refine ⟨pcc.symm, by rw [kc i (Ne.symm hcp)]; exact fi.fst, by rw [kc i (Ne.symm hcp)]; exact fi.lst, fun hr => (by rw [pcc] at hr; cases hr), fun q hq => ?_⟩
    rw [pcc] at hq
    cases hq
    rw [kp]
    exact ⟨(prevIn_split _ _ _ n2).symm, (nextIn_split _ _ _ n1).symm⟩
  · rw [if_neg a]
    by_cases b : i = p
    · subst b
      rw [if_pos rfl]
      refine ⟨by rw [pc i a]; exact fi.par, ?_, ?_, fun hr => fi.root (by rw [← pc i a]; exact hr), fun q hq => ?_⟩
      · rw [kp]
        show (if l1.getLast? = none then some c else (st i).fst) = _
        rw [fi.fst, hk]
        cases l1 with
        | nil => rfl
        | cons x l => rw [if_neg (by simp)]; rfl
      · rw [kp]
        show (if l2.head? = none then some c else (st i).lst) = _
        rw [fi.lst, hk]
        cases l2 with
        | nil => simp
        | cons x l => rw [if_neg (by simp), List.getLast?_append, List.getLast?_append, List.getLast?_cons_cons]
      · rw [pc i a] at hq
        have hqi : q ≠ i := fun e => by have := o.ht q i hq; rw [e] at this; omega
        rw [kc q hqi]
        exact fi.sib q hq
    · rw [if_neg b]
      have far : F.par i ≠ some p → FitD (F.put p l1.length c) i (st i) := by
        intro hip
        refine ⟨by rw [pc i a]; exact fi.par, by rw [kc i b]; exact fi.fst, by rw [kc i b]; exact fi.lst, fun hr => fi.root (by rw [← pc i a]; exact hr), fun q hq => ?_⟩
        rw [pc i a] at hq
        rw [kc q (fun e => hip (e ▸ hq))]
        exact fi.sib q hq
      have near : ∀ d : Dn, F.par i = some p → d.par = (st i).par → d.fst = (st i).fst → d.lst = (st i).lst → d.prv = prevIn (l1 ++ c :: l2) i → d.nxt = nextIn (l1 ++ c :: l2) i → FitD (F.put p l1.length c) i d := by
        intro d hip e1 e2 e3 e4 e5
        refine ⟨by rw [pc i a, e1]; exact fi.par, by rw [kc i b, e2]; exact fi.fst, by rw [kc i b, e3]; exact fi.lst, fun hr => (by rw [pc i a, hip] at hr; cases hr), fun q hq => ?_⟩
        rw [pc i a, hip] at hq
        cases hq
        rw [kp]
        exact ⟨e4, e5⟩
      have hprv : F.par i = some p → (st i).prv = prevIn (l1 ++ l2) i := fun hip => by rw [(fi.sib p hip).1, hk]
      have hnxt : F.par i = some p → (st i).nxt = nextIn (l1 ++ l2) i := fun hip => by rw [(fi.sib p hip).2, hk]
      by_cases f : l1.getLast? = some i
      · rw [if_pos f]
        have hm := in1 i f
        have hip := kidp i (.inl hm)
        obtain ⟨m, rfl⟩ : ∃ m, l1 = m ++ [i] := by
          rcases List.eq_nil_or_concat l1 with e | ⟨m, x, e⟩
          · subst e; cases f
          · subst e; simp at f; subst f; exact ⟨m, by simp⟩
        have e1 : m ++ [i] ++ l2 = m ++ i :: l2 := by simp
        have e2 : m ++ [i] ++ c :: l2 = m ++ i :: (c :: l2) := by simp
        rw [e1] at hnd
        obtain ⟨q1, q2, _⟩ := nodup_split hnd
        refine near _ hip rfl rfl rfl ?_ ?_
        · show (st i).prv = _
          rw [hprv hip, e1, prevIn_split _ _ _ q2, e2, prevIn_split _ _ _ (by simp [q2, a])]
        · show some c = _
          rw [e2, nextIn_split _ _ _ q1]; rfl
      · rw [if_neg f]
        by_cases d : l2.head? = some i
        · rw [if_pos d]
          have hm := in2 i d
          have hip := kidp i (.inr hm)
          obtain ⟨m, rfl⟩ : ∃ m, l2 = i :: m := by
            cases l2 with
            | nil => cases d
            | cons x l => simp at d; subst d; exact ⟨l, rfl⟩
          obtain ⟨q1, q2, _⟩ := nodup_split hnd
          have e2 : l1 ++ c :: i :: m = (l1 ++ [c]) ++ i :: m := by simp
          refine near _ hip rfl rfl rfl ?_ ?_
          · show some c = _
            rw [e2, prevIn_split _ _ _ q2]; simp
          · show (st i).nxt = _
            rw [hnxt hip, nextIn_split _ _ _ q1, e2, nextIn_split _ _ _ (by simp [q1, a])]
        · rw [if_neg d]
          by_cases hip : F.par i = some p
          · have hm : i ∈ l1 ∨ i ∈ l2 := by
              have := (o.mem p i).2 hip
              rwa [hk, List.mem_append] at this
            refine near _ hip rfl rfl rfl ?_ ?_
            · rw [hprv hip]
              rcases hm with hm | hm
              · obtain ⟨x, y, rfl⟩ := split_at hm
                have e1 : x ++ i :: y ++ l2 = x ++ i :: (y ++ l2) := by simp
                have e2 : x ++ i :: y ++ c :: l2 = x ++ i :: (y ++ c :: l2) := by simp
                rw [e1] at hnd ⊢
                obtain ⟨q1, q2, _⟩ := nodup_split hnd
                have q2' : i ∉ y ++ c :: l2 := by
                  rw [List.mem_append, List.mem_cons]
                  rw [List.mem_append] at q2
                  rintro (z | z | z)
                  · exact q2 (.inl z)
                  · exact a z
                  · exact q2 (.inr z)
                rw [e2, prevIn_split _ _ _ q2', prevIn_split _ _ _ q2]
              · obtain ⟨x, y, rfl⟩ := split_at hm
                have e1 : l1 ++ (x ++ i :: y) = (l1 ++ x) ++ i :: y := by simp
                have e2 : l1 ++ c :: (x ++ i :: y) = (l1 ++ c :: x) ++ i :: y := by simp
                rw [e1] at hnd ⊢
                obtain ⟨q1, q2, _⟩ := nodup_split hnd
                rw [e2, prevIn_split _ _ _ q2, prevIn_split _ _ _ q2]
                cases x with
                | nil => exact absurd rfl d
                | cons z zs => rw [List.getLast?_append, List.getLast?_append, List.getLast?_cons_cons]
            · rw [hnxt hip]
              rcases hm with hm | hm
              · obtain ⟨x, y, rfl⟩ := split_at hm
                have e1 : x ++ i :: y ++ l2 = x ++ i :: (y ++ l2) := by simp
                have e2 : x ++ i :: y ++ c :: l2 = x ++ i :: (y ++ c :: l2) := by simp
                rw [e1] at hnd ⊢
                obtain ⟨q1, q2, _⟩ := nodup_split hnd
                rw [e2, nextIn_split _ _ _ q1, nextIn_split _ _ _ q1]
                cases y with
                | nil => exact absurd (by simp) f
                | cons z zs => rfl
              · obtain ⟨x, y, rfl⟩ := split_at hm
                have e1 : l1 ++ (x ++ i :: y) = (l1 ++ x) ++ i :: y := by simp
                have e2 : l1 ++ c :: (x ++ i :: y) = (l1 ++ c :: x) ++ i :: y := by simp
                rw [e1] at hnd ⊢
                obtain ⟨q1, q2, _⟩ := nodup_split hnd
                have q1' : i ∉ l1 ++ c :: x := by
                  rw [List.mem_append, List.mem_cons]
                  rw [List.mem_append] at q1
                  rintro (z | z | z)
                  · exact q1 (.inl z)
                  · exact a z
                  · exact q1 (.inr z)
                rw [e2, nextIn_split _ _ _ q1', nextIn_split _ _ _ q1]
          · exact far hip
end Go.Proofs.Ytmhhfljbocbolaa
