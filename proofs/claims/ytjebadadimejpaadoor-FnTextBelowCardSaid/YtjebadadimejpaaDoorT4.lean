/- The reference's kids and parents of a node. -/
import Derived.Test.YtjebadadimejpaaDoorT2
namespace Go.Proofs.YtjebadadimejpaaDoor
open Go.RowKit
set_option linter.unusedVariables false

/-- A slice whose elements are of one cell: they lie below block B. -/
def RSl (w : World) (B : Nat) (a : Option Addr) (xs : List Value) : Prop :=
  xs = [] ∨ ∃ b o, a = some ⟨b, o, none⟩ ∧ b < B ∧ ∀ i (h : i < xs.length), w.cell? ⟨b, o + i, none⟩ = some xs[i]

theorem RSl.below {w w' : World} {B : Nat} {a : Option Addr} {xs : List Value} (h : RSl w B a xs) (hb : Below B w w') : RSl w' B a xs := by
  rcases h with h0 | ⟨b, o, ha, hbB, hc⟩
  · exact .inl h0
  · exact .inr ⟨b, o, ha, hbB, fun i hi => (hb.cell (p := ⟨b, _, none⟩) hbB).trans (hc i hi)⟩

theorem RSl.more {w : World} {B B' : Nat} {a : Option Addr} {xs : List Value} (h : RSl w B a xs) (hB : B ≤ B') : RSl w B' a xs := by
  rcases h with h0 | ⟨b, o, ha, hbB, hc⟩
  · exact .inl h0
  · exact .inr ⟨b, o, ha, by omega, hc⟩

theorem RSl.at_ {w : World} {B : Nat} {a : Option Addr} {xs : List Value} (h : RSl w B a xs) (h0 : 0 < xs.length) :
    ∃ b o, a = some ⟨b, o, none⟩ ∧ b < B ∧ ∀ i (h : i < xs.length), w.cell? ⟨b, o + i, none⟩ = some xs[i] := by
  rcases h with h1 | h1
  · subst h1; simp at h0
  · exact h1

theorem ret_i {k : IntKind} {x y : Int} (h : x = y) : Ending.returned (.int k y) = .returned (.int k x) := by rw [h]

/-- What the call owns, read as a slice. -/
theorem RSl.own {w : World} {base e n : Nat} {v : Value} {xs : List Value} (h : w.ownsRow base e 1 v n xs) : ∃ a c, v = .slice a n c ∧ xs.length = n ∧ RSl w w.heap.size a xs := by
  have hl : xs.length = n := by have := h.1; omega
  rcases h.2 with ⟨rfl, rfl⟩ | ⟨g, cap, cur, rfl, hb, hg, _⟩
  · exact ⟨none, 0, rfl, hl, .inl (List.eq_nil_of_length_eq_zero hl)⟩
  · refine ⟨_, _, rfl, hl, .inr ⟨g, 0, rfl, (Array.getElem?_eq_some_iff.1 hg).1, fun i hi => ?_⟩⟩
    have := h.cells (g := g) rfl i xs[i] (List.getElem?_eq_getElem hi)
    rw [Addr.add_lit] at this
    exact this

theorem Tryd.info3 : (Tryd.prog.info? 3).map (fun i => (i.zero, i.size, i.bytes)) = some (some (.int .i64 0), 1, 8) := by kernel_rfl

/-- The places from k on, one tree behind the other, up to e. -/
def kidsFrom (t : List Nd) : Nat → Nat → Nat → List Nat
  | 0, _, _ => []
  | f + 1, k, e => if k < e then k :: kidsFrom t f (k + sz t k) e else []

/-- The kids of a node. -/
def kidsL (t : List Nd) (i : Nat) : List Nat := kidsFrom t (sz t i) (i + 1) (i + sz t i)

def ints (l : List Nat) : List Value := l.map fun (n : Nat) => Value.int .i64 (n : Int)

theorem ints_length (l : List Nat) : (ints l).length = l.length := by simp [ints]

theorem Lam.from_ {t : List Nd} {lo hi m : Nat} (h : Lam t lo hi) (hm : lo ≤ m) : Lam t m hi := fun i h1 h2 => h i (by omega) h2

theorem kidsFrom_fuel (t : List Nd) (e : Nat) : ∀ (f f' k : Nat), e ≤ k + f → e ≤ k + f' → Lam t k e → kidsFrom t f k e = kidsFrom t f' k e := by
  intro f
  induction f with
  | zero =>
    intro f' k h1 h2 hl
    cases f' with
    | zero => rfl
    | succ f' => simp only [kidsFrom]; rw [if_neg (by omega)]
  | succ f ih =>
    intro f' k h1 h2 hl
    cases f' with
    | zero => simp only [kidsFrom]; rw [if_neg (by omega)]
    | succ f' =>
      simp only [kidsFrom]
      by_cases hk : k < e
      · rw [if_pos hk, if_pos hk]
        have := (hl k (Nat.le_refl _) hk).2.1
        rw [ih f' (k + sz t k) (by omega) (by omega) (hl.from_ (by omega))]
      · rw [if_neg hk, if_neg hk]

/-- The kids gathered so far, and those to come. -/
theorem kidsFrom_step {t : List Nd} {k e : Nat} (hl : Lam t k e) (hk : k < e) : kidsFrom t (e - k) k e = k :: kidsFrom t (e - (k + sz t k)) (k + sz t k) e := by
  have h1 := (hl k (Nat.le_refl _) hk).2.1
  obtain ⟨d, hd⟩ : ∃ d, e - k = d + 1 := ⟨e - k - 1, by omega⟩
  rw [hd]
  simp only [kidsFrom]
  rw [if_pos hk, kidsFrom_fuel t e d (e - (k + sz t k)) _ (by omega) (by omega) (hl.from_ (by omega))]

theorem kidsL_eq {t : List Nd} {i : Nat} (hl : Lam t i (i + sz t i)) (h1 : 1 ≤ sz t i) : kidsL t i = kidsFrom t (i + sz t i - (i + 1)) (i + 1) (i + sz t i) :=
  kidsFrom_fuel t _ _ _ _ (by omega) (by omega) (hl.from_ (by omega))

/-- Kids: the contract. -/
def KidsPost (t : List Nd) (i : Nat) (w : World) (e : Ending) (w' : World) : Prop :=
  ∃ a c, e = .returned (.slice a (kidsL t i).length c) ∧ RSl w' w'.heap.size a (ints (kidsL t i)) ∧ Below w.heap.size w w'

theorem size_at {t : List Nd} {k : Nat} (hk : k < t.length) (h : (t.getD k default).size = (sz t k : Int)) : t[k].size = (sz t k : Int) := by
  rw [List.getD_eq_getElem?_getD, List.getElem?_eq_getElem hk, Option.getD_some] at h
  exact h

/-- What holds at the head of each round of Kids' loop. -/
def KidsRel (t : List Nd) (i : Nat) (w : World) (v : Value) (x : Value) (wr : World) : Prop :=
  ∃ (k : Nat) (acc : List Nat), i + 1 ≤ k ∧ k ≤ i + sz t i ∧ x = .int .i64 k ∧ acc ++ kidsFrom t (i + sz t i - k) k (i + sz t i) = kidsL t i ∧ acc.length ≤ k ∧
    wr.ownsRow w.heap.size 3 1 v acc.length (ints acc) ∧ Below w.heap.size w wr

set_option maxRecDepth 100000 in
set_option maxHeartbeats 1000000 in
theorem kids_any (a : Option Addr) (c : Nat) (t : List Nd) (ht : t.length ≤ 200) (i : Nat) (I : Int) (hI : I = i) (w : World) (h : NSl w w.heap.size a t) (hi : i < t.length) (hl : Lam t i (i + sz t i)) (hen : i + sz t i ≤ t.length) (h1 : 1 ≤ sz t i) :
    Calls Tryd.prog 17 #[.slice a t.length c, .int .i64 I] w (KidsPost t i w) := by
  subst hI
  obtain ⟨i0, hinf, hz0, hz1, hz2⟩ := info_parts Tryd.info3
  obtain ⟨b, o, rfl, hbB, hc⟩ := h.at_ (by omega)
  have hsi := (hc i hi).2.2.2.2.1
  rw [size_at hi (hl i (Nat.le_refl _) (by omega)).1] at hsi
  have HC := Lib.hid hc
  have HL := Lib.hid hl
  have HK := Lib.hid (kidsL_eq hl h1)
  clear hc hl h
  go_enter Tryd.func17, Tryd.ntmps17
  go_wp2_with fail
  go_loopw [5, 6] (fun v x wr => KidsRel t i w v x wr) (fun _ x _ => i + sz t i - (intOf x).toNat)
  case atStart => exact ⟨i + 1, [], by omega, by omega, by go_num, by rw [HK.out]; rfl, by simp, World.ownsRow_nil _ _ _ _, Below.refl _ _⟩
  case round =>
    obtain ⟨k, acc, hk1, hk2, rfl, hacc, hal, hown, hb⟩ := hrel
    have HA := Lib.hid hacc
    clear hacc
    have g0 := (hb.cell (p := ⟨b, o + i * 5 + 4, none⟩) hbB).trans hsi
    by_cases hlt : k < i + sz t i
    · have hkt : k < t.length := by omega
      have hlk := HL.out k (by omega) hlt
      have g1 := (hb.cell (p := ⟨b, o + k * 5 + 4, none⟩) hbB).trans (HC.out k hkt).2.2.2.2.1
      rw [size_at hkt hlk.1] at g1
      have hk3 := hlk.2.1
      have hk4 := hlk.2.2.1
      clear hlk
      go_wp2_with (at_builtin; refine wpList_append_own _ rfl _ _ 40 rfl w.heap.size 3 i0 (.int .i64 0) 1 8 Tryd.underlying40 hinf hz0 hz1 hz2 rfl (by decide) _ _ _ rfl (hown.alloc _) ⟨wr.heap.size, 0, none⟩ 1 1 [.int .i64 (k : Int)] rfl rfl ?c1 ?c2 ?c3 ?c4 ?c5 ?_)
      case c1 =>
        intro j u hj
        match j, hj with
        | 0, hj => simp at hj; subst hj; simp [Addr.add]
      case c2 => intro u hu; simp at hu; subst hu; rfl
      case c3 => unfold maxLen; omega
      case c4 => omega
      case c5 => have := hb.size; simp; omega
      · intro v' w1 hown' hgrow _
        have hsz := hb.size
        have hb1 : Below w.heap.size w w1 := (hb.alloc hb.size _).grown hgrow (by simp; omega) (fun q hq => (hown.lt q hq).1)
        have g2 := (hb1.cell (p := ⟨b, o + i * 5 + 4, none⟩) hbB).trans hsi
        have g3 := (hb1.cell (p := ⟨b, o + k * 5 + 4, none⟩) hbB).trans (HC.out k hkt).2.2.2.2.1
        rw [size_at hkt (HL.out k (by omega) hlt).1] at g3
        have HO : Hid (w1.ownsRow w.heap.size 3 1 v' (acc ++ [k]).length (ints (acc ++ [k]))) := by
          simpa [Hid, ints] using hown'
        have HR : Hid ((acc ++ [k]) ++ kidsFrom t (i + sz t i - (k + sz t k)) (k + sz t k) (i + sz t i) = kidsL t i) := by
          rw [Hid, ← HA.out, kidsFrom_step (HL.out.from_ (by omega)) hlt]; simp
        clear hown' hgrow hown
        go_wp2_with fail
        go_roundw
        case rel => exact ⟨k + sz t k, acc ++ [k], by omega, by omega, by go_num, HR.out, by simp; omega, HO.out, hb1⟩
        case measure => simp [intOf]; omega
    · obtain ⟨av, cv, rfl, hlen, hrs⟩ := RSl.own hown
      go_wp2_with fail
      go_ret
      have e : acc = kidsL t i := by
        have := HA.out
        have hk : i + sz t i - k = 0 := by omega
        rw [hk] at this
        simpa [kidsFrom] using this
      unfold KidsPost
      rw [← e]
      exact ⟨av, cv, rfl, hrs, hb⟩

/-- Parent: the place of the node whose kid a node is; -1 of the root. -/
def parI (t : List Nd) (i : Nat) : Nat → Int
  | 0 => -1
  | j + 1 => if i < j + sz t j then j else parI t i j

set_option maxRecDepth 100000 in
set_option maxHeartbeats 1000000 in
theorem parent_any (a : Option Addr) (c : Nat) (t : List Nd) (ht : t.length ≤ 200) (i : Nat) (I : Int) (hI : I = i) (w : World) (h : NSl w w.heap.size a t) (hi : i < t.length) (hl : Lam t 0 t.length) :
    Calls Tryd.prog 22 #[.slice a t.length c, .int .i64 I] w fun e w' => e = .returned (.int .i64 (parI t i i)) ∧ w = w' := by
  subst hI
  obtain ⟨b, o, rfl, hbB, hc⟩ := h.at_ (by omega)
  have HC := Lib.hid hc
  have HL := Lib.hid hl
  clear hc hl h
  go_enter Tryd.func22, Tryd.ntmps22
  go_wp2_with fail
  go_loopw [5] (fun x wr => ∃ k : Nat, k ≤ i ∧ x = .int .i64 ((k : Int) - 1) ∧ Hid (parI t i k = parI t i i) ∧ w = wr) (fun x _ => (intOf x + 1).toNat)
  case atStart => exact ⟨i, by omega, by go_num, rfl, rfl⟩
  case round =>
    obtain ⟨k, hk, rfl, hp, rfl⟩ := hrel
    cases k with
    | zero =>
      go_wp2_with fail
      go_ret
      exact ⟨ret_i hp.out.symm, rfl⟩
    | succ j =>
      have g1 := (HC.out j (by omega)).2.2.2.2.1
      have hlj := HL.out j (by omega) (by omega)
      rw [size_at (by omega) hlj.1] at g1
      have h3 := hlj.2.2.1
      clear hlj
      have ej : ((j + 1 : Nat) : Int) - 1 = (j : Int) := by omega
      rw [ej]
      clear ej
      by_cases hq : i < j + sz t j
      · have HP : Hid (parI t i i = (j : Int)) := by
          rw [Hid, ← hp.out]; simp only [parI]; rw [if_pos hq]
        clear hp
        go_wp2_with fail
        go_ret
        exact ⟨ret_i HP.out, rfl⟩
      · have HP : Hid (parI t i j = parI t i i) := by
          rw [Hid, ← hp.out]; simp only [parI]; rw [if_neg hq]
        clear hp
        go_wp2_with fail
        go_roundw
        case rel => exact ⟨j, by omega, by go_num, HP, by trivial⟩
        case measure => simp [intOf]
end Go.Proofs.YtjebadadimejpaaDoor
