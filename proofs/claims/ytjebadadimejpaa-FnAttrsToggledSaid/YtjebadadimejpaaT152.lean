/- A region that draws its order, and a condition on the world that is asked only while something is left to come up. -/
import Derived.OrdersHeld
import Derived.Deep.RegionHeld
import Derived.StillTail
namespace Go.Proofs.Ytjebadadimejpaa

set_option linter.unusedVariables false

section
variable {P : Program} {ops : Array Oper} {Q : Exit → Act → World → Prop} {md : Region.Mode} {S : World → Prop}

variable {f : Nat}

/-- Whatever order is picked from here on; S holds behind each operation while operation f has not come up. -/
def wpAnyD (P : Program) (md : Region.Mode) (ops : Array Oper) (Q : Exit → Act → World → Prop) (S : World → Prop) (f : Nat) : Nat → Array Bool → Act → World → Prop
  | 0, listed, a, w => Region.ready md ops listed = [] ∧ Q .normal a w
  | fuel + 1, listed, a, w =>
    (Region.ready md ops listed = [] → Q .normal a w) ∧
    ∀ i ∈ Region.ready md ops listed, wpOp P ops Q i (fun a' w' => ((listed.setIfInBounds i true).getD f true = false → S w') ∧ wpAnyD P md ops Q S f fuel (listed.setIfInBounds i true) a' w') a w

theorem wpAny_of_D : ∀ (fuel : Nat) (listed : Array Bool) (a : Act) (w : World), wpAnyD P md ops Q S f fuel listed a w → wpAny P md ops Q fuel listed a w
  | 0, _, _, _, h => h
  | fuel + 1, _, _, _, h => ⟨h.1, fun i hi => wpOp_mono (fun a' w' h' => wpAny_of_D fuel _ a' w' h'.2) (h.2 i hi)⟩

/-- An operation that may come up is taken first, if it yields its value in every world that meets S, and f waits for it. -/
theorem wpAnyD_first {i : Nat} {oi : Oper} {v : Value} (hi : ops[i]? = some oi) (hsel : ∀ (j : Nat) (o : Oper) cs b, ops[j]? = some o → o.op ≠ .select cs b)
    (hQ : ∀ c a w, Q (.panic c) (a.put oi.dst v) w → Q (.panic c) a w) (hif : i ≠ f) (hf : ∃ of, ops[f]? = some of ∧ ∃ e ∈ of.after, Region.binds md e = true ∧ e.on = i) :
    ∀ (fuel : Nat) (listed : Array Bool) (a : Act) (w : World),
      (∀ j oj, ops[j]? = some oj → j ≠ i → listed.getD j true = false → (∀ e ∈ oj.after, Region.binds md e = true → e.on ≠ i) → oi.apart ops oj = true) →
      i ∈ Region.ready md ops listed → YieldsIf P ops S oi v a → S w → listed.getD f true = false →
      wpAnyD P md ops Q S f fuel (listed.setIfInBounds i true) (a.put oi.dst v) w → wpAnyD P md ops Q S f (fuel + 1) listed a w := by
  intro fuel
  induction fuel with
  | zero =>
    intro listed a w _ hr hy hS hfl H
    refine ⟨fun h => (by rw [h] at hr; cases hr), fun j hj => ?_⟩
    by_cases hji : j = i
    · subst hji; exact hy.wpOp hi hS ⟨fun _ => hS, H⟩
    · have := ready_mono hj hji
      rw [H.1] at this
      cases this
  | succ fuel ih =>
    intro listed a w hfree hr hy hS hfl H
    refine ⟨fun h => (by rw [h] at hr; cases hr), fun j hj => ?_⟩
    by_cases hji : j = i
    · subst hji; exact hy.wpOp hi hS ⟨fun _ => hS, H⟩
    have h1 := H.2 j (ready_mono hj hji)
    obtain ⟨hjun, oj, hoj, hall⟩ := mem_ready.1 hj
    have hnot : ∀ e ∈ oj.after, Region.binds md e = true → e.on ≠ i := fun e he hb heq => by
      have h1 := hall e he hb
      have h0 := (mem_ready.1 hr).1
      rw [heq] at h1
      rcases Nat.lt_or_ge i listed.size with h' | h'
      · simp [h'] at h0 h1; rw [h0] at h1; cases h1
      · simp [Array.getElem?_eq_none h'] at h1
    have hjf : j ≠ f := by
      rintro rfl
      obtain ⟨of, hof, e, he, hb, hon⟩ := hf
      rw [hoj] at hof
      cases hof
      exact hnot e he hb hon
    have h2 := wpOp_putIf hoj (hfree j oj hoj hji hjun hnot) (fun cs b => hsel i oi cs b hi) (fun cs b => hsel j oj cs b hoj) hQ hy h1
    have hfree' : ∀ k ok, ops[k]? = some ok → k ≠ i → (listed.setIfInBounds j true).getD k true = false →
        (∀ e ∈ ok.after, Region.binds md e = true → e.on ≠ i) → oi.apart ops ok = true := fun k ok hk hki hun hno => by
      refine hfree k ok hk hki ?_ hno
      by_cases hjk : j = k
      · subst hjk; exact hjun
      · rw [getD_set_ne true hjk] at hun; exact hun
    have hfu : ∀ l : Array Bool, (l.setIfInBounds i true).getD f true = l.getD f true := fun l => getD_set_ne true hif
    have hS' : ∀ w', (((listed.setIfInBounds i true).setIfInBounds j true).getD f true = false → S w') → ((listed.setIfInBounds j true).getD f true = false → S w') := fun w' h h' => h (by
      rw [getD_set_ne true hjf, hfu]
      rwa [getD_set_ne true hjf] at h')
    have hfl' : (listed.setIfInBounds j true).getD f true = false := by rw [getD_set_ne true hjf]; exact hfl
    refine wpOp_mono (fun a' w' h3 => ⟨hS' w' h3.2.1, ih (listed.setIfInBounds j true) a' w' hfree' (ready_mono hr (Ne.symm hji)) h3.1 (hS' w' h3.2.1 hfl') hfl' ?_⟩) h2
    rw [Array.setIfInBounds_comm _ _ hji]
    exact h3.2.2

/-- What yields its value in whatever world is taken first; nothing is asked of f but that it is another. -/
theorem wpAnyD_free {i : Nat} {oi : Oper} {v : Value} (hi : ops[i]? = some oi) (hsel : ∀ (j : Nat) (o : Oper) cs b, ops[j]? = some o → o.op ≠ .select cs b)
    (hQ : ∀ c a w, Q (.panic c) (a.put oi.dst v) w → Q (.panic c) a w) (hif : i ≠ f) :
    ∀ (fuel : Nat) (listed : Array Bool) (a : Act) (w : World),
      (∀ j oj, ops[j]? = some oj → j ≠ i → listed.getD j true = false → (∀ e ∈ oj.after, Region.binds md e = true → e.on ≠ i) → oi.apart ops oj = true) →
      i ∈ Region.ready md ops listed → YieldsIf P ops (fun _ => True) oi v a → ((listed.setIfInBounds i true).getD f true = false → S w) →
      wpAnyD P md ops Q S f fuel (listed.setIfInBounds i true) (a.put oi.dst v) w → wpAnyD P md ops Q S f (fuel + 1) listed a w := by
  intro fuel
  induction fuel with
  | zero =>
    intro listed a w _ hr hy hS H
    refine ⟨fun h => (by rw [h] at hr; cases hr), fun j hj => ?_⟩
    by_cases hji : j = i
    · subst hji; exact hy.wpOp hi trivial ⟨hS, H⟩
    · have := ready_mono hj hji
      rw [H.1] at this
      cases this
  | succ fuel ih =>
    intro listed a w hfree hr hy hS H
    refine ⟨fun h => (by rw [h] at hr; cases hr), fun j hj => ?_⟩
    by_cases hji : j = i
    · subst hji; exact hy.wpOp hi trivial ⟨hS, H⟩
    have h1 := H.2 j (ready_mono hj hji)
    obtain ⟨hjun, oj, hoj, hall⟩ := mem_ready.1 hj
    have hnot : ∀ e ∈ oj.after, Region.binds md e = true → e.on ≠ i := fun e he hb heq => by
      have h1 := hall e he hb
      have h0 := (mem_ready.1 hr).1
      rw [heq] at h1
      rcases Nat.lt_or_ge i listed.size with h' | h'
      · simp [h'] at h0 h1; rw [h0] at h1; cases h1
      · simp [Array.getElem?_eq_none h'] at h1
    have h2 := wpOp_putIf hoj (hfree j oj hoj hji hjun hnot) (fun cs b => hsel i oi cs b hi) (fun cs b => hsel j oj cs b hoj) hQ hy h1
    have hfree' : ∀ k ok, ops[k]? = some ok → k ≠ i → (listed.setIfInBounds j true).getD k true = false →
        (∀ e ∈ ok.after, Region.binds md e = true → e.on ≠ i) → oi.apart ops ok = true := fun k ok hk hki hun hno => by
      refine hfree k ok hk hki ?_ hno
      by_cases hjk : j = k
      · subst hjk; exact hjun
      · rw [getD_set_ne true hjk] at hun; exact hun
    have hfu : ∀ l : Array Bool, (l.setIfInBounds i true).getD f true = l.getD f true := fun l => getD_set_ne true hif
    have hsame : (((listed.setIfInBounds i true).setIfInBounds j true).getD f true) = (listed.setIfInBounds j true).getD f true := by
      rw [← Array.setIfInBounds_comm _ _ hji]; exact hfu _
    have hsame2 : (((listed.setIfInBounds j true).setIfInBounds i true).getD f true) = (listed.setIfInBounds j true).getD f true := hfu _
    refine wpOp_mono (fun a' w' h3 => ⟨fun h' => h3.2.1 (hsame.trans h'), ih (listed.setIfInBounds j true) a' w' hfree' (ready_mono hr (Ne.symm hji)) h3.1 (fun h' => h3.2.1 (hsame.trans (hsame2.symm.trans h'))) ?_⟩) h2
    rw [Array.setIfInBounds_comm _ _ hji]
    exact h3.2.2

theorem wpAnyD_take {i : Nat} {oi : Oper} {v : Value} {fuel : Nat} {listed : Array Bool} {a : Act} {w : World} (hi : ops[i]? = some oi)
    (hs : Region.noSelect ops = true) (hfr : Region.free md ops listed i = true) (hr : (Region.ready md ops listed).contains i = true)
    (hwf : Region.waitsFor md ops f i = true) (hif : (i == f) = false) (hl : listed.getD f true = false)
    (hQ : ∀ c a w, Q (.panic c) (a.put oi.dst v) w → Q (.panic c) a w) (hy : YieldsIf P ops S oi v a) (hS : S w)
    (h : wpAnyD P md ops Q S f fuel (listed.setIfInBounds i true) (a.put oi.dst v) w) : wpAnyD P md ops Q S f (fuel + 1) listed a w :=
  wpAnyD_first hi (Region.noSelect_spec hs) hQ (beq_eq_false_iff_ne.1 hif) (Region.waitsFor_spec hwf) fuel listed a w (Region.free_spec hi hfr) (by simpa using hr) hy hS hl h

theorem wpAnyD_take0 {i : Nat} {oi : Oper} {v : Value} {fuel : Nat} {listed : Array Bool} {a : Act} {w : World} (hi : ops[i]? = some oi)
    (hs : Region.noSelect ops = true) (hfr : Region.free md ops listed i = true) (hr : (Region.ready md ops listed).contains i = true)
    (hif : (i == f) = false)
    (hQ : ∀ c a w, Q (.panic c) (a.put oi.dst v) w → Q (.panic c) a w) (hy : YieldsIf P ops (fun _ => True) oi v a) (hS : (listed.setIfInBounds i true).getD f true = false → S w)
    (h : wpAnyD P md ops Q S f fuel (listed.setIfInBounds i true) (a.put oi.dst v) w) : wpAnyD P md ops Q S f (fuel + 1) listed a w :=
  wpAnyD_free hi (Region.noSelect_spec hs) hQ (beq_eq_false_iff_ne.1 hif) fuel listed a w (Region.free_spec hi hfr) (by simpa using hr) hy hS h

/-- Just one operation may come up. -/
theorem wpAnyD_one {i : Nat} {o : Oper} {fuel : Nat} {listed : Array Bool} {a : Act} {w : World} (hr : Region.ready md ops listed = [i]) (ho : ops[i]? = some o)
    (h : ∀ K' : Act → World → Prop, Shut (∀ a w, ((listed.setIfInBounds i true).getD f true = false → S w) → wpAnyD P md ops Q S f fuel (listed.setIfInBounds i true) a w → K' a w) → if Region.wanted o (yielded ops a.tmps) = true then Oper.wp P o a w K' Q else K' (a.put o.dst undef) w) :
    wpAnyD P md ops Q S f (fuel + 1) listed a w := by
  refine ⟨fun h0 => (by rw [hr] at h0; cases h0), fun j hj => ?_⟩
  rw [hr, List.mem_singleton] at hj
  subst hj
  exact wpOp_step ho (fun K' hK => h K' (fun a w hS hW => hK a w ⟨hS, hW⟩))

theorem wpAnyD_done {listed : Array Bool} {a : Act} {w : World} (hr : Region.ready md ops listed = []) (h : Q .normal a w) : ∀ fuel, wpAnyD P md ops Q S f fuel listed a w
  | 0 => ⟨hr, h⟩
  | _ + 1 => ⟨fun _ => h, by rw [hr]; simp⟩

theorem wp_region_D {id : Nat} {a : Act} {w : World} (hm : P.follows .mixedOrders = true)
    (h : wpAnyD P .any ops Q S f ops.size (Array.replicate ops.size false) a w.drew) : (Code.region id ops true).wp P Q a w :=
  wp_region_any hm (wpAny_of_D _ _ _ _ h)
end
end Go.Proofs.Ytjebadadimejpaa
