/- Whether a node is beneath another one; FindNodes, HasNodes. -/
import Derived.Test.YtgilbckfkngaiaaT50
import Derived.Test.YtgilbckfkngaiaaT43
namespace Go.Proofs.Ytgilbckfkngaiaa
open Go.RowKit
set_option linter.unusedVariables false

/-- j stands beneath i. -/
def und (t : List Nd) (i j : Nat) : Bool := decide (i < j ∧ j < i + sz t i)

theorem und_par {t : List Nd} (hl : Lam t 0 t.length) {i j p : Nat} (hi : i < t.length) (hp : p < t.length) (h : IsPar (sz t) 0 p j) : und t i j = (decide (p = i) || und t i p) := by
  obtain ⟨_, h2, h3, h4⟩ := h
  unfold und
  rw [Bool.eq_iff_iff, Bool.or_eq_true, decide_eq_true_eq, decide_eq_true_eq, decide_eq_true_eq]
  constructor
  · rintro ⟨q1, q2⟩
    rcases Nat.lt_trichotomy p i with e | e | e
    · have := h4 i e q1; omega
    · exact .inl e
    · exact .inr ⟨e, by omega⟩
  · rintro (rfl | ⟨q1, q2⟩)
    · exact ⟨h2, h3⟩
    · have := (hl i (Nat.zero_le _) hi).2.2.2 p q1 q2
      exact ⟨by omega, by omega⟩

/-- Which one of the nodes a pointer leads to, and one more. -/
def idxV (bl : Nat → Nat) (n : Nat) (v : Value) : Nat := match ptrBlk v with | none => 0 | some b => 1 + (List.range n).findIdx fun i => bl i == b
theorem idxV_at {bl : Nat → Nat} {n i : Nat} (hi : i < n) (hinj : ∀ i j, i < n → j < n → bl i = bl j → i = j) : idxV bl n (.pointer (some ⟨bl i, 0, none⟩)) = 1 + i := by
  unfold idxV ptrBlk
  dsimp only
  congr 1
  rw [List.findIdx_eq (by simpa using hi)]
  refine ⟨by simp, fun j hj => ?_⟩
  rw [beq_eq_false_iff_ne, List.getElem_range]
  intro e
  have := hinj j i (by omega) hi e
  omega

set_option maxRecDepth 100000 in
set_option maxHeartbeats 2000000 in
theorem contains_any {t : List Nd} (hR : RightP t) {w : World} {B L : Nat} {bl : Nat → Nat} {st : Nat → Dn} (hT : Tree t w B L bl st) (i j : Nat) (hi : i < t.length) (hj : j < t.length) :
    Calls Try.prog 188 #[.pointer (some ⟨bl i, 0, none⟩), .pointer (some ⟨bl j, 0, none⟩)] w fun e w' => e = .returned (.bool (und t i j)) ∧ w = w' := by
  have hpar : ∀ k, k < t.length → w.cell? ⟨bl k, 0, none⟩ = some (ptrTo bl (st k).par) ∧ ((k = 0 ∧ (st k).par = none) ∨ ∃ p, (st k).par = some p ∧ p < k ∧ IsPar (sz t) 0 p k) := by
    intro k hk
    refine ⟨(hT.dom.cells hk).2.1, ?_⟩
    by_cases e : k = 0
    · exact .inl ⟨e, ((hT.kin k hk).1.root e).1⟩
    · obtain ⟨p, p1, p2, _⟩ := (hT.kin k hk).1.kin e
      exact .inr ⟨p, p2, p1.2.1, p1⟩
  have HP := Lib.hid hpar
  have HN := Lib.hid hT.nodes
  have HL := Lib.hid hR.lam
  have hpj := (hpar j hj).1
  obtain ⟨o, ho⟩ : ∃ o, o = (st j).par := ⟨_, rfl⟩
  rw [← ho] at hpj
  have HO := Lib.hid ho
  obtain ⟨r, hr⟩ : ∃ r, r = und t i j := ⟨_, rfl⟩
  have HRr := Lib.hid hr
  rw [← hr]
  have hnn : ∀ (v : Value) (w : World), True := fun _ _ => trivial
  clear hpar hT hR ho hr hnn
  go_enter Try.func188, Try.ntmps188
  cases o with
  | none =>
    have hp0 : w.cell? ⟨bl j, 0, none⟩ = some (.pointer none) := hpj
    have HF : Hid (r = false) := by
      rw [Hid, HRr.out]
      rcases (HP.out j hj).2 with ⟨e, _⟩ | ⟨p, hp, _⟩
      · subst e; unfold und; simp
      · rw [hp] at HO; cases HO.out
    clear hpj
    go_wp2_with fail
    refine wp_loop_rounds 1 ?_
    rw [rounds_succ]
    go_wp2_with fail
    go_ret
    exact ⟨ret_b HF.out, rfl⟩
  | some p0 =>
    have hp0 : w.cell? ⟨bl j, 0, none⟩ = some (.pointer (some ⟨bl p0, 0, none⟩)) := hpj
    have HP0 : Hid (p0 < t.length ∧ und t i j = (decide (p0 = i) || und t i p0)) := by
      rcases (HP.out j hj).2 with ⟨_, e⟩ | ⟨p, hp, hlt, hip⟩
      · rw [e] at HO; cases HO.out
      · rw [hp] at HO
        cases HO.out
        exact ⟨by omega, und_par HL.out hi (by omega) hip⟩
    clear hpj
    go_wp2_with fail
    go_loopw [1] (fun x wr => (∃ p : Nat, p < t.length ∧ x = .pointer (some ⟨bl p, 0, none⟩) ∧ Hid (r = (decide (p = i) || und t i p)) ∧ w = wr) ∨ (x = .pointer none ∧ Hid (r = false) ∧ w = wr)) (fun x _ => idxV bl t.length x)
    case atStart => exact .inl ⟨p0, HP0.out.1, rfl, HRr.out.trans HP0.out.2, rfl⟩
    case round =>
      rcases hrel with ⟨p, hp, rfl, hrr, rfl⟩ | ⟨rfl, hrr, rfl⟩
      · have HM := Lib.hid (idxV_at hp HN.out.inj)
        by_cases e : p = i
        · subst e
          have heq := ptr_same p bl w
          have HT : Hid (r = true) := by rw [Hid, hrr.out]; simp
          go_wp2_with fail
          go_ret
          exact ⟨ret_b HT.out, rfl⟩
        · have hne : bl i ≠ bl p := fun h2 => e (HN.out.inj _ _ hi hp h2).symm
          have heq := ptr_other bl w hne (HN.out.blk _ hi) (HN.out.blk _ hp)
          have hrr2 : Hid (r = und t i p) := by rw [Hid, hrr.out]; simp [e]
          rcases (HP.out p hp).2 with ⟨e0, hn⟩ | ⟨q, hq, hlt, hip⟩
          · have g := (HP.out p hp).1
            rw [hn] at g
            have g' : w.cell? ⟨bl p, 0, none⟩ = some (.pointer none) := g
            have HF : Hid (r = false) := by rw [Hid, hrr2.out, e0]; unfold und; simp
            clear g hn e e0 hrr
            go_wp2_with fail
            go_roundw
            case rel => exact .inr ⟨rfl, HF, by trivial⟩
            case measure => rw [HM.out]; show 0 < _; omega
          · have g := (HP.out p hp).1
            rw [hq] at g
            have g' : w.cell? ⟨bl p, 0, none⟩ = some (.pointer (some ⟨bl q, 0, none⟩)) := g
            have hql : q < t.length := by omega
            have HR2 : Hid (r = (decide (q = i) || und t i q)) := hrr2.out.trans (und_par HL.out hi hql hip)
            have HM2 := Lib.hid (idxV_at hql HN.out.inj)
            clear g hq e hrr hip
            go_wp2_with fail
            go_roundw
            case rel => exact .inl ⟨q, hql, rfl, HR2, by trivial⟩
            case measure => rw [HM.out, HM2.out]; omega
      · go_wp2_with fail
        go_ret
        exact ⟨ret_b hrr.out, rfl⟩
end Go.Proofs.Ytgilbckfkngaiaa
