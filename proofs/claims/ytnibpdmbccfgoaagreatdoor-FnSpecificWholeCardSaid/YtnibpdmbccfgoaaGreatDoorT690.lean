/- A region that draws its order, in which one operation makes a row of its own and all others read, reckon or call: whatever the order, each slot holds in the end what the text says, the row's place aside. -/
import Derived.Test.YtnibpdmbccfgoaaGreatDoorJ1
import Derived.Orders
namespace Go.Proofs.YtnibpdmbccfgoaaGreatDoor
open Go.RowKit
set_option linter.unusedVariables false

section
variable {P : Program} {md : Region.Mode} {ops : Array Oper} {Q : Exit → Act → World → Prop}

theorem ready_of {listed : Array Bool} {i : Nat} (h : i ∈ Region.ready md ops listed) : ∃ o, ops[i]? = some o ∧ i < ops.size ∧ listed.getD i true = false ∧ ∀ e ∈ o.after, Region.binds md e = true → listed.getD e.on false = true := by
  unfold Region.ready at h
  rw [List.mem_filter, List.mem_range] at h
  obtain ⟨h1, h2⟩ := h
  rw [Bool.and_eq_true] at h2
  obtain ⟨h2, h3⟩ := h2
  rw [Array.getElem?_eq_getElem h1] at h3
  refine ⟨ops[i], Array.getElem?_eq_getElem h1, h1, by simpa using h2, fun e he hb => ?_⟩
  simp only [Option.map_some, Option.getD_some, Array.all_eq_true'] at h3
  have := h3 e he
  rw [hb] at this
  simpa using this
theorem ready_nil {listed : Array Bool} (hs : listed.size = ops.size) (hlt : ∀ (k : Nat) (o : Oper), ops[k]? = some o → ∀ e ∈ o.after, e.on < k) (h : Region.ready md ops listed = []) : ∀ k, k < ops.size → listed.getD k true = true := by
  intro k
  induction k using Nat.strongRecOn with
  | _ k ih =>
    intro hk
    cases hq : listed.getD k true
    · exfalso
      have hm : k ∈ Region.ready md ops listed := by
        unfold Region.ready
        rw [List.mem_filter, List.mem_range]
        refine ⟨hk, ?_⟩
        rw [hq, Array.getElem?_eq_getElem hk]
        simp only [Bool.not_false, Bool.true_and, Option.map_some, Option.getD_some, Array.all_eq_true']
        intro e he
        have hl := hlt k ops[k] (Array.getElem?_eq_getElem hk) e he
        have := ih e.on hl (by omega)
        have h2 : listed.getD e.on false = true := by
          have hz : e.on < listed.size := by omega
          simp [hz] at this ⊢
          exact this
        rw [h2]; simp
      rw [h] at hm
      cases hm
    · rfl

/-- What is known while such a region runs. (r: where the row lies; b: the operation that makes it; dep: which slots hang on r.) -/
structure RowI (m n : Nat) (b : Nat) (dst : Nat → Nat) (val : Nat → Nat → Value) (dep : Nat → Bool) (Base : World → Prop) (Row : Nat → World → Prop) (Fix : Array Value → Prop) (listed : Array Bool) (a : Act) (w : World) : Prop where
  df : a.defers = []
  sz : a.tmps.size = n
  fx : Fix a.tmps
  bs : Base w
  cl : ∀ k, k < m → dep k = true → listed.getD k false = true → listed.getD b false = true
  ex : ∃ r, (listed.getD b false = true → Row r w) ∧ ∀ k, k < m → listed.getD k false = true → a.tmps[dst k]? = some (val r k)

def unl (l : Array Bool) : Nat → Nat
  | 0 => 0
  | k + 1 => unl l k + (if l.getD k true = true then 0 else 1)
theorem getD_set_true2 {l : Array Bool} {i k : Nat} : k ≠ i → (l.setIfInBounds i true).getD k true = l.getD k true := fun q => by
  rw [Array.getD_eq_getD_getElem?, Array.getD_eq_getD_getElem?, Array.getElem?_setIfInBounds_ne (fun h => q h.symm)]
theorem unl_set {l : Array Bool} {i : Nat} (hi : i < l.size) (hu : l.getD i true = false) : ∀ m, unl (l.setIfInBounds i true) m = if i < m then unl l m - 1 else unl l m
  | 0 => rfl
  | k + 1 => by
    have ih := unl_set hi hu k
    have hpos : i < k → 0 < unl l k := by
      have key : ∀ k, i < k → 0 < unl l k := by
        intro k
        induction k with
        | zero => intro h; omega
        | succ k ihk =>
          intro h
          unfold unl
          by_cases q : i = k
          · subst q; rw [hu]; simp
          · have := ihk (by omega); omega
      exact key k
    unfold unl
    rw [ih]
    by_cases q : k = i
    · subst q
      have hself : (l.setIfInBounds k true).getD k true = true := by simp [hi]
      rw [hself, hu]
      simp
    · rw [getD_set_true2 q]
      by_cases q2 : i < k
      · have := hpos q2
        simp only [if_pos q2, if_pos (show i < k + 1 by omega)]
        split <;> omega
      · simp only [if_neg q2, if_neg (show ¬ i < k + 1 by omega)]
theorem unl_pos {l : Array Bool} {i : Nat} (hu : l.getD i true = false) : ∀ k, i < k → 0 < unl l k := by
  intro k
  induction k with
  | zero => intro h; omega
  | succ k ihk =>
    intro h
    unfold unl
    by_cases q : i = k
    · subst q; rw [hu]; simp
    · have := ihk (by omega); omega
theorem unl_le (l : Array Bool) : ∀ m, unl l m ≤ m
  | 0 => Nat.le_refl _
  | k + 1 => by have := unl_le l k; unfold unl; split <;> omega
theorem getD_set_true {l : Array Bool} {i k : Nat} (hi : i < l.size) : (l.setIfInBounds i true).getD k false = true ↔ (k = i ∨ l.getD k false = true) := by
  by_cases q : k = i
  · subst q; simp [hi]
  · have : (l.setIfInBounds i true).getD k false = l.getD k false := by
      rw [Array.getD_eq_getD_getElem?, Array.getD_eq_getD_getElem?, Array.getElem?_setIfInBounds_ne (fun h => q h.symm)]
    rw [this]
    exact ⟨fun h => .inr h, fun h => by rcases h with h | h; exact absurd h q; exact h⟩
theorem RowI.step {m n b : Nat} {dst : Nat → Nat} {val : Nat → Nat → Value} {dep : Nat → Bool} {Base : World → Prop} {Row : Nat → World → Prop} {Fix : Array Value → Prop} {listed : Array Bool} {a : Act} {w : World}
    (hinj : ∀ i j, i < m → j < m → dst i = dst j → i = j) (hdn : ∀ k, k < m → dst k < n) (hfix : ∀ T k v, k < m → Fix T → Fix (T.setIfInBounds (dst k) v)) (hls : listed.size = m)
    (h : RowI m n b dst val dep Base Row Fix listed a w) {i : Nat} (hi : i < m) (hu : listed.getD i true = false) (hb : b < m) {r : Nat} {w' : World} (hbs : Base w')
    (hcl : dep i = true → i = b ∨ listed.getD b false = true)
    (hex : ((i = b ∨ listed.getD b false = true) → Row r w') ∧ ∀ k, k < m → listed.getD k false = true → a.tmps[dst k]? = some (val r k)) :
    RowI m n b dst val dep Base Row Fix (listed.setIfInBounds i true) (a.put (some (dst i)) (val r i)) w' := by
  have hil : i < listed.size := by omega
  refine ⟨h.df, by show (a.tmps.setIfInBounds _ _).size = n; rw [Array.size_setIfInBounds]; exact h.sz, hfix _ _ _ hi h.fx, hbs, fun k hk hd hl => ?_, r, fun hl => hex.1 ?_, fun k hk hl => ?_⟩
  · rw [getD_set_true hil] at hl ⊢
    rcases hl with rfl | hl
    · rcases hcl hd with q | q
      · exact .inl q.symm
      · exact .inr q
    · exact .inr (h.cl k hk hd hl)
  · rw [getD_set_true hil] at hl
    rcases hl with q | q
    · exact .inl q.symm
    · exact .inr q
  · rw [getD_set_true hil] at hl
    show (a.tmps.setIfInBounds (dst i) (val r i))[dst k]? = some (val r k)
    by_cases q : k = i
    · subst q
      rw [Array.getElem?_setIfInBounds_self_of_lt (by rw [h.sz]; exact hdn _ hk)]
    · rw [Array.getElem?_setIfInBounds_ne (fun e => q (hinj _ _ hk hi e.symm))]
      rcases hl with hl | hl
      · exact absurd hl q
      · exact hex.2 k hk hl

/-- An operation's step: it leaves v, and a world of the kind, in which every row stands that stood. -/
def StepV (P : Program) (o : Oper) (a : Act) (w : World) (Base : World → Prop) (Row : Nat → World → Prop) (v : Value) : Prop :=
  ∀ (K : Act → World → Prop) (Q : Exit → Act → World → Prop), (∀ w', Base w' → (∀ r, Row r w → Row r w') → K (a.put o.dst v) w') → o.wp P a w K Q

theorem wpAny_row {m n b : Nat} {dst : Nat → Nat} {val : Nat → Nat → Value} {dep : Nat → Bool} {Base : World → Prop} {Row : Nat → World → Prop} {Fix : Array Value → Prop}
    (hm : ops.size = m) (hb : b < m) (hbd : dep b = true) (hlt : ∀ (k : Nat) (o : Oper), ops[k]? = some o → ∀ e ∈ o.after, e.on < k)
    (hwn : ∀ (k : Nat) (o : Oper), ops[k]? = some o → o.guard = none ∧ o.dst = some (dst k))
    (hinj : ∀ i j, i < m → j < m → dst i = dst j → i = j) (hdn : ∀ k, k < m → dst k < n) (hfix : ∀ T k v, k < m → Fix T → Fix (T.setIfInBounds (dst k) v))
    (hval : ∀ r r' k, dep k = false → val r k = val r' k)
    (hdep : ∀ (k : Nat) (o : Oper), ops[k]? = some o → dep k = true → k ≠ b → ∃ e ∈ o.after, Region.binds md e = true ∧ dep e.on = true)
    (hop : ∀ (k : Nat) (o : Oper), ops[k]? = some o → k ≠ b → ∀ (r : Nat) (T : Array Value) (w : World), Base w → Fix T → T.size = n → ((∃ e ∈ o.after, Region.binds md e = true ∧ dep e.on = true) → Row r w) → (∀ e ∈ o.after, Region.binds md e = true → T[dst e.on]? = some (val r e.on)) → StepV P o { tmps := T, defers := [] } w Base Row (val r k))
    (hob : ∀ (o : Oper), ops[b]? = some o → ∀ (T : Array Value) (w : World), Base w → Fix T → T.size = n → ∀ (K : Act → World → Prop) (Q : Exit → Act → World → Prop), (∀ w', Base w' → Row w.heap.size w' → K (({ tmps := T, defers := [] } : Act).put o.dst (val w.heap.size b)) w') → o.wp P { tmps := T, defers := [] } w K Q)
    (hQ : ∀ (r : Nat) (T : Array Value) (w : World), T.size = n → Fix T → Base w → (∀ k, k < m → T[dst k]? = some (val r k)) → Q .normal { tmps := T, defers := [] } w) :
    ∀ (fuel : Nat) (listed : Array Bool) (a : Act) (w : World), listed.size = m → RowI m n b dst val dep Base Row Fix listed a w → unl listed m ≤ fuel → wpAny P md ops Q fuel listed a w := by
  have hend : ∀ (listed : Array Bool) (a : Act) (w : World), listed.size = m → RowI m n b dst val dep Base Row Fix listed a w → Region.ready md ops listed = [] → Q .normal a w := by
    intro listed a w hls hI hr
    obtain ⟨r, _, hv⟩ := hI.ex
    have hall := ready_nil (by rw [hls, hm]) hlt hr
    obtain ⟨T, D⟩ := a
    have hd : D = [] := hI.df
    subst hd
    refine hQ r T w hI.sz hI.fx hI.bs (fun k hk => hv k hk ?_)
    have := hall k (by omega)
    have hz : k < listed.size := by omega
    simp [hz] at this ⊢
    exact this
  have hwant : ∀ (k : Nat) (o : Oper) (T : Array Value), ops[k]? = some o → Region.wanted o (yielded ops T) = true := by
    intro k o T ho
    unfold Region.wanted
    rw [(hwn k o ho).1]
  have hcnt : ∀ (listed : Array Bool) (i : Nat), listed.size = m → i < m → listed.getD i true = false → unl (listed.setIfInBounds i true) m < unl listed m := by
    intro listed i hls hi hu
    rw [unl_set (by omega) hu, if_pos hi]
    have := unl_pos hu m hi
    omega
  intro fuel
  induction fuel with
  | zero =>
    intro listed a w hls hI hc
    have hr : Region.ready md ops listed = [] := by
      rw [List.eq_nil_iff_forall_not_mem]
      intro i hi
      obtain ⟨o, ho, hil, hu, _⟩ := ready_of hi
      have := hcnt listed i hls (by omega) hu
      omega
    exact ⟨hr, hend listed a w hls hI hr⟩
  | succ fuel ih =>
    intro listed a w hls hI hc
    refine ⟨hend listed a w hls hI, fun i hi => ?_⟩
    obtain ⟨o, ho, hil, hu, hed⟩ := ready_of hi
    have him : i < m := by omega
    have hcn := hcnt listed i hls him hu
    unfold wpOp
    rw [ho]
    simp only [hwant i o a.tmps ho, if_true]
    refine .inl ?_
    obtain ⟨T, D⟩ := a
    have hd : D = [] := hI.df
    subst hd
    obtain ⟨r, hrow, hv⟩ := hI.ex
    by_cases hib : i = b
    · subst hib
      refine hob o ho T w hI.bs hI.fx hI.sz _ _ (fun w' hbs hrw => ?_)
      rw [(hwn i o ho).2]
      refine ih _ _ _ (by rw [Array.size_setIfInBounds]; exact hls) ?_ (by omega)
      refine hI.step hinj hdn hfix hls him hu hb hbs (fun _ => .inl rfl) ⟨fun _ => hrw, fun k hk hl => ?_⟩
      rw [hv k hk hl]
      cases hdk : dep k
      · exact congrArg some (hval _ _ k hdk)
      · have h1 := hI.cl k hk hdk hl
        have hz : i < listed.size := by omega
        simp [hz] at h1 hu
        rw [h1] at hu
        cases hu
    · have hlb : dep i = true → listed.getD b false = true := fun hdi => by
        obtain ⟨e, he, hbd2, hde⟩ := hdep i o ho hdi hib
        have hl := hed e he hbd2
        exact hI.cl e.on (by have := hlt i o ho e he; omega) hde hl
      refine hop i o ho hib r T w hI.bs hI.fx hI.sz (fun ⟨e, he, hb2, hde⟩ => hrow (hI.cl e.on (by have := hlt i o ho e he; omega) hde (hed e he hb2))) (fun e he hbd2 => hv e.on (by have := hlt i o ho e he; omega) (hed e he hbd2)) _ _ (fun w' hbs hrw => ?_)
      rw [(hwn i o ho).2]
      refine ih _ _ _ (by rw [Array.size_setIfInBounds]; exact hls) ?_ (by omega)
      exact hI.step hinj hdn hfix hls him hu hb hbs (fun hdi => .inr (hlb hdi)) ⟨fun hh => hrw r (hrow (by rcases hh with q | q; exact absurd q hib; exact q)), hv⟩
theorem rep_getD (n k : Nat) : (Array.replicate n false).getD k false = false := by
  rw [Array.getD_eq_getD_getElem?, Array.getElem?_replicate]
  split <;> rfl
/-- The conditions that can be reckoned. -/
def rowChk (md : Region.Mode) (ops : Array Oper) (m n b : Nat) (ds : List Nat) (dep : Nat → Bool) (fs : List Nat) : Bool :=
  (ops.size == m) && decide (b < m) && dep b && (List.range m).all (fun k => match ops[k]? with
    | some o => o.after.all (fun e => decide (e.on < k)) && o.guard.isNone && (o.dst == some (ds.getD k 0)) && (!dep k || k == b || o.after.any (fun e => Region.binds md e && dep e.on)) && decide (ds.getD k 0 < n) && fs.all (fun f => ds.getD k 0 != f) && (List.range m).all (fun j => ds.getD k 0 != ds.getD j 0 || k == j)
    | none => false)
theorem wpAny_rowB {m n b : Nat} {ds : List Nat} {val : Nat → Nat → Value} {dep : Nat → Bool} {Base : World → Prop} {Row : Nat → World → Prop} {fs : List (Nat × Value)} {T0 : Array Value} {w0 : World}
    (hchk : rowChk md ops m n b ds dep (fs.map Prod.fst) = true)
    (hval : ∀ r r' k, k < m → dep k = false → val r k = val r' k)
    (hop : ∀ (k : Nat) (o : Oper), k < m → ops[k]? = some o → k ≠ b → ∀ (r : Nat) (T : Array Value) (w : World), Base w → (∀ p ∈ fs, T[p.1]? = some p.2) → (o.after.any (fun e => Region.binds md e && dep e.on) = true → Row r w) → (∀ j, o.after.any (fun e => Region.binds md e && e.on == j) = true → T[ds.getD j 0]? = some (val r j)) → StepV P o { tmps := T, defers := [] } w Base Row (val r k))
    (hob : ∀ (o : Oper), ops[b]? = some o → ∀ (T : Array Value) (w : World), Base w → (∀ p ∈ fs, T[p.1]? = some p.2) → ∀ (K : Act → World → Prop) (Q : Exit → Act → World → Prop), (∀ w', Base w' → Row w.heap.size w' → K (({ tmps := T, defers := [] } : Act).put o.dst (val w.heap.size b)) w') → o.wp P { tmps := T, defers := [] } w K Q)
    (hQ : ∀ (r : Nat) (T : Array Value) (w : World), T.size = n → (∀ p ∈ fs, T[p.1]? = some p.2) → Base w → (∀ k, k < m → T[ds.getD k 0]? = some (val r k)) → Q .normal { tmps := T, defers := [] } w)
    (hT : T0.size = n) (hF : ∀ p ∈ fs, T0[p.1]? = some p.2) (hB : Base w0) : wpAny P md ops Q ops.size (Array.replicate ops.size false) { tmps := T0, defers := [] } w0 := by
  unfold rowChk at hchk
  rw [Bool.and_eq_true, Bool.and_eq_true, Bool.and_eq_true] at hchk
  obtain ⟨⟨⟨h1, h2⟩, h3⟩, h4⟩ := hchk
  have hm : ops.size = m := by simpa using h1
  have hb : b < m := of_decide_eq_true h2
  have hk : ∀ (k : Nat) (o : Oper), ops[k]? = some o → k < m ∧ (∀ e ∈ o.after, e.on < k) ∧ o.guard = none ∧ o.dst = some (ds.getD k 0) ∧ (dep k = true → k ≠ b → ∃ e ∈ o.after, Region.binds md e = true ∧ dep e.on = true) ∧ ds.getD k 0 < n ∧ (∀ f ∈ fs, ds.getD k 0 ≠ f.1) ∧ ∀ j, j < m → ds.getD k 0 = ds.getD j 0 → k = j := by
    intro k o ho
    have hkm : k < m := by rw [← hm]; exact (Array.getElem?_eq_some_iff.1 ho).1
    have h5 := List.all_eq_true.1 h4 k (List.mem_range.2 hkm)
    rw [ho] at h5
    simp only [Bool.and_eq_true] at h5
    obtain ⟨⟨⟨⟨⟨⟨q1, q2⟩, q3⟩, q4⟩, q5⟩, q6⟩, q7⟩ := h5
    refine ⟨hkm, fun e he => of_decide_eq_true (Array.all_eq_true'.1 q1 e he), by simpa using q2, by simpa using q3, fun hd hkb => ?_, of_decide_eq_true q5, fun f hf => ?_, fun j hj he => ?_⟩
    · rw [hd] at q4
      have hkb2 : (k == b) = false := beq_eq_false_iff_ne.2 hkb
      rw [hkb2] at q4
      simp only [Bool.not_true, Bool.false_or] at q4
      obtain ⟨e, he, q⟩ := Array.any_eq_true'.1 q4
      rw [Bool.and_eq_true] at q
      exact ⟨e, he, q.1, q.2⟩
    · have := List.all_eq_true.1 q6 f.1 (List.mem_map_of_mem hf)
      simpa using this
    · have := List.all_eq_true.1 q7 j (List.mem_range.2 hj)
      rw [he] at this
      simpa using this
  have hex : ∀ k, k < m → ∃ o, ops[k]? = some o := fun k hkm => ⟨ops[k]'(by omega), Array.getElem?_eq_getElem (by omega)⟩
  refine wpAny_row (m := m) (n := n) (b := b) (dst := fun k => ds.getD k 0) (val := fun r k => if k < m then val r k else undef) (dep := fun k => decide (k < m) && dep k) (Base := Base) (Row := Row) (Fix := fun T => ∀ p ∈ fs, T[p.1]? = some p.2) hm hb ?_ ?_ ?_ ?_ ?_ ?_ ?_ ?_ ?_ ?_ ?_ _ _ _ _ (by simp [hm]) ?_ ?_
  · simp [hb, h3]
  · exact fun k o ho => (hk k o ho).2.1
  · exact fun k o ho => ⟨(hk k o ho).2.2.1, (hk k o ho).2.2.2.1⟩
  · intro i j hi hj he
    obtain ⟨o, ho⟩ := hex i hi
    exact (hk i o ho).2.2.2.2.2.2.2 j hj he
  · intro k hkm
    obtain ⟨o, ho⟩ := hex k hkm
    exact (hk k o ho).2.2.2.2.2.1
  · intro T k v hkm hT p hp
    obtain ⟨o, ho⟩ := hex k hkm
    rw [Array.getElem?_setIfInBounds_ne ((hk k o ho).2.2.2.2.2.2.1 p hp)]
    exact hT p hp
  · intro r r' k hd
    by_cases q : k < m
    · simp only [q, decide_true, Bool.true_and] at hd
      simp only [q, if_true]
      exact hval r r' k q hd
    · simp only [q, if_false]
  · intro k o ho hd hkb
    obtain ⟨q1, q2, _, _, q5, _⟩ := hk k o ho
    simp only [q1, decide_true, Bool.true_and] at hd
    obtain ⟨e, he, hb1, hd1⟩ := q5 hd hkb
    have := q2 e he
    exact ⟨e, he, hb1, by simp [show e.on < m by omega, hd1]⟩
  · intro k o ho hkb r T w hB hF _ hR hE
    obtain ⟨q1, q2, _⟩ := hk k o ho
    simp only [q1, if_true]
    refine hop k o q1 ho hkb r T w hB hF (fun hd => ?_) (fun j hj => ?_)
    · obtain ⟨e, he, q⟩ := Array.any_eq_true'.1 hd
      rw [Bool.and_eq_true] at q
      have := q2 e he
      exact hR ⟨e, he, q.1, by simp [show e.on < m by omega, q.2]⟩
    · obtain ⟨e, he, q⟩ := Array.any_eq_true'.1 hj
      rw [Bool.and_eq_true] at q
      have h7 : e.on = j := by simpa using q.2
      have := q2 e he
      have h6 := hE e he q.1
      simp only [show e.on < m by omega, if_true] at h6
      rw [h7] at h6
      exact h6
  · intro o ho T w hB hF _ K Q' hK
    refine hob o ho T w hB hF K Q' (fun w' hb1 hr1 => ?_)
    have := hK w' hb1 hr1
    simp only [hb, if_true] at this
    exact this
  · intro r T w hs hF hB hv
    refine hQ r T w hs hF hB (fun k hkm => ?_)
    have := hv k hkm
    simp only [hkm, if_true] at this
    exact this
  · refine ⟨rfl, hT, hF, hB, fun k hkm hd hl => ?_, 0, fun hl => ?_, fun k hkm hl => ?_⟩
    · exact absurd hl (by rw [rep_getD]; simp)
    · exact absurd hl (by rw [rep_getD]; simp)
    · exact absurd hl (by rw [rep_getD]; simp)
  · rw [hm]; exact unl_le _ _
theorem stepV_run {P : Program} {o : Oper} {a : Act} {w : World} {Base : World → Prop} {Row : Nat → World → Prop} {v : Value} (hb : Base w) (h : (execOp a.eval o).run P w = .ok (.value v) w) : StepV P o a w Base Row v := by
  intro K Q hK
  unfold Oper.wp
  rw [h]
  exact hK w hb (fun _ hr => hr)
theorem stepV_call {P : Program} {o : Oper} {a : Act} {w : World} {Base : World → Prop} {Row : Nat → World → Prop} {v : Value} {f : FuncId} {args : Array Value} (h : (execOp a.eval o).run P w = .ok (.enter f args) w)
    (hc : Calls P f args w (fun e w' => e = .returned v ∧ Base w' ∧ ∀ r, Row r w → Row r w')) : StepV P o a w Base Row v := by
  intro K Q hK
  unfold Oper.wp
  rw [h]
  show Calls P f args w _
  exact hc.mono (fun e w' ⟨he, hb, hr⟩ => by subst he; exact hK w' hb hr)
end
end Go.Proofs.YtnibpdmbccfgoaaGreatDoor
