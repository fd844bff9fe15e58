/- Selections: the nodes at some places. -/
import Derived.Test.YtgilbckfkngaiaaT14
import Derived.Deep.QuietTactic
import Derived.BigQuiet
namespace Go.Proofs.Ytgilbckfkngaiaa
open Go.RowKit
set_option linter.unusedVariables false

/-- Places of a tree, each once. -/
structure OrdP (n : Nat) (l : List Int) (ns : List Nat) : Prop where
  eq : l = ns.map fun (k : Nat) => (k : Int)
  lt : ∀ k ∈ ns, k < n
  asc : ns.Nodup

def ivs (l : List Int) : List Value := l.map (Value.int .i64)
theorem ivs_length (l : List Int) : (ivs l).length = l.length := by simp [ivs]
theorem ivs_at {l : List Int} {i : Nat} (h : i < l.length) : (ivs l)[i]'(by rw [ivs_length]; exact h) = .int .i64 l[i] := by simp [ivs]

/-- An argument of numbers. -/
structure ISl (w : World) (B : Nat) (a : Option Addr) (l : List Int) : Prop where
  row : RSl w B a (ivs l)
  len : l.length ≤ maxLen
  rng : ∀ x ∈ l, -9223372036854775808 ≤ x ∧ x ≤ 9223372036854775807

theorem ISl.up {w w' : World} {a : Option Addr} {l : List Int} (h : ISl w w.heap.size a l) (hb : Below w.heap.size w w') : ISl w' w'.heap.size a l := ⟨h.row.up hb, h.len, h.rng⟩

theorem ISl.at_ {w : World} {B : Nat} {a : Option Addr} {l : List Int} (h : ISl w B a l) (h0 : 0 < l.length) :
    ∃ b o, a = some ⟨b, o, none⟩ ∧ b < B ∧ ∀ i (hi : i < l.length), w.cell? ⟨b, o + i, none⟩ = some (.int .i64 l[i]) := by
  obtain ⟨b, o, ha, hb, hc⟩ := h.row.at_ (by rw [ivs_length]; exact h0)
  refine ⟨b, o, ha, hb, fun i hi => ?_⟩
  have := hc i (by rw [ivs_length]; exact hi)
  rw [ivs_at hi] at this
  exact this

/-- What Order knows of the first k places. -/
def Asc (n : Nat) (l : List Int) (k : Nat) : Prop := ∀ i (h : i < l.length), i < k → 0 ≤ l[i] ∧ l[i] < n ∧ ∀ (hp : 0 < i), l[i - 1]'(by omega) < l[i]

theorem asc_ord {n : Nat} {l : List Int} (h : Asc n l l.length) : ∃ ns, OrdP n l ns := by
  refine ⟨l.map Int.toNat, ?_, ?_, ?_⟩
  · rw [List.map_map]
    apply List.ext_getElem
    · simp
    · intro i h1 h2
      have := (h i h1 h1).1
      simp
      omega
  · intro k hk
    obtain ⟨x, hx, rfl⟩ := List.mem_map.1 hk
    obtain ⟨i, hi, rfl⟩ := List.getElem_of_mem hx
    have := h i hi hi
    omega
  · refine List.Pairwise.imp (R := (· < ·)) (fun h => Nat.ne_of_lt h) ?_
    rw [List.pairwise_iff_getElem]
    intro i j hi hj hij
    rw [List.length_map] at hi hj
    have key : ∀ d i (hd : i + d + 1 < l.length), l[i]'(by omega) < l[i + d + 1]'hd := by
      intro d
      induction d with
      | zero => intro i hd; exact (h (i + 1) hd hd).2.2 (by omega)
      | succ d ih =>
        intro i hd
        have a1 := ih i (by omega)
        have a2 := (h (i + (d + 1) + 1) hd hd).2.2 (by omega)
        have e : i + (d + 1) + 1 - 1 = i + d + 1 := by omega
        simp only [e] at a2
        omega
    have := key (j - i - 1) i (by omega)
    have e : i + (j - i - 1) + 1 = j := by omega
    simp only [e] at this
    have p1 := (h i hi hi).1
    have p2 := (h j hj hj).1
    simp
    omega

def OrderPost (n : Nat) (l : List Int) (w : World) (e : Ending) (w' : World) : Prop := ∃ b q, e = .returned (.bool b) ∧ (b = true → ∃ ns, OrdP n l ns) ∧ w' = w.drewN q

set_option maxRecDepth 100000 in
set_option maxHeartbeats 600000 in
theorem order_any (ad : Option Addr) (n c : Nat) (a : Option Addr) (c2 : Nat) (l : List Int) (hn : n ≤ 200) (hl : l.length ≤ 2147483647) (w : World) (h : ISl w w.heap.size a l) :
    Calls Try.prog 75 #[.slice ad n c, .slice a l.length c2] w (OrderPost n l w) := by
  have HH := Lib.hid h
  clear h
  go_enter Try.func75, Try.ntmps75
  go_wp2_with fail
  go_loopw [5] (fun x wr => ∃ k q : Nat, k ≤ l.length ∧ x = .int .i64 k ∧ Hid (Asc n l k) ∧ wr = w.drewN q) (fun x _ => l.length - (intOf x).toNat)
  case atStart => exact ⟨0, 0, by omega, rfl, (fun i _ hi => by omega), rfl⟩
  case round =>
    obtain ⟨k, q, hk, rfl, hasc, rfl⟩ := hrel
    by_cases hlt : k < l.length
    · obtain ⟨b, o, rfl, hbB, hc⟩ := HH.out.at_ (by omega)
      have g1 := hc k hlt
      have HC := Lib.hid hc
      clear hc
      obtain ⟨x, hx⟩ : ∃ x, x = l[k] := ⟨_, rfl⟩
      rw [← hx] at g1
      have HX := Lib.hid hx
      clear hx
      by_cases c1 : x < 0
      · have d1 : decide (x < 0) = true := by simpa using c1
        go_wp2_with fail
        go_quiet (fail)
        go_wp2_with fail
        go_ret
        exact ⟨false, _, rfl, by simp, by rw [World.drewN_drewN]⟩
      · have d1 : decide (x < 0) = false := by simpa using c1
        have HC1 := Lib.hid c1
        by_cases c2 : (n : Int) ≤ x
        · have d2 : decide ((n : Int) ≤ x) = true := by simpa using c2
          clear c1
          go_wp2_with fail
          go_quiet (fail)
          go_wp2_with fail
          go_ret
          exact ⟨false, _, rfl, by simp, by rw [World.drewN_drewN]⟩
        · have d2 : decide ((n : Int) ≤ x) = false := by simp; omega
          by_cases c3 : k = 0
          · subst c3
            have d3 : decide ((0 : Int) < 0) = false := by decide
            simp only [Nat.add_zero] at g1
            go_wp2_with fail
            go_quiet (fail)
            go_wp2_with fail
            go_roundw
            case rel =>
              refine ⟨1, _, by omega, rfl, (fun i hi hi2 => ?_), rfl⟩
              have e : i = 0 := by omega
              subst e
              rw [← HX.out]
              exact ⟨by omega, by omega, fun hp => absurd hp (by omega)⟩
            case measure => simp [intOf]; omega
          · obtain ⟨j, rfl⟩ : ∃ j, k = j + 1 := ⟨k - 1, by omega⟩
            clear c3
            have g2 := HC.out j (by omega)
            obtain ⟨y, hy⟩ : ∃ y, y = l[j]'(by omega) := ⟨_, rfl⟩
            rw [← hy] at g2
            have HY := Lib.hid hy
            clear hy
            have e1 : IntKind.i64.wrap (j : Int) = (j : Int) := IntWalk.i64_in _ ⟨by omega, by omega⟩
            have e2 : (0 : Int) ≤ (j : Int) := by omega
            have e3 : ((j : Int)).toNat = j := by omega
            have d3 : decide ((0 : Int) < (j : Int) + 1) = true := decide_eq_true (by omega)
            by_cases c4 : x ≤ y
            · have d4 : decide (x ≤ y) = true := by simpa using c4
              go_wp2_with fail
              go_quiet (fail)
              go_wp2_with fail
              go_ret
              exact ⟨false, _, rfl, by simp, by rw [World.drewN_drewN]⟩
            · have d4 : decide (x ≤ y) = false := by simp; omega
              go_wp2_with fail
              go_quiet (fail)
              go_wp2_with fail
              go_roundw
              case rel =>
                refine ⟨j + 2, _, by omega, by go_num, (fun i hi hi2 => ?_), rfl⟩
                by_cases e : i = j + 1
                · subst e
                  rw [← HX.out]
                  exact ⟨by omega, by omega, fun _ => by show l[j + 1 - 1] < x; simp only [Nat.add_sub_cancel]; rw [← HY.out]; omega⟩
                · exact hasc.out i hi (by omega)
              case measure => simp [intOf]; omega
    · go_wp2_with fail
      go_ret
      have e : k = l.length := by omega
      subst e
      exact ⟨true, q, rfl, fun _ => asc_ord hasc.out, rfl⟩
end Go.Proofs.Ytgilbckfkngaiaa
