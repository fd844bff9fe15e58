/- Nodes back to their places; lists of places compared. -/
import Derived.Test.YtjebadadimejpaaP20
namespace Go.Proofs.Ytjebadadimejpaa
open Go.RowKit
set_option linter.unusedVariables false

def toI (ns : List Nat) : List Int := ns.map fun (k : Nat) => (k : Int)
theorem toI_length (ns : List Nat) : (toI ns).length = ns.length := by simp [toI]
theorem toI_snoc (ns : List Nat) (i : Nat) : toI (ns ++ [i]) = toI ns ++ [(i : Int)] := by simp [toI]
theorem ivs_snoc (l : List Int) (i : Int) : ivs (l ++ [i]) = ivs l ++ [.int .i64 i] := by simp [ivs]
theorem toI_inj {a b : List Nat} (h : toI a = toI b) : a = b := by
  unfold toI at h
  exact List.map_inj_right (fun x y e => by omega) |>.1 h
theorem toI_at {ns : List Nat} {i : Nat} (h : i < ns.length) : (toI ns)[i]'(by rw [toI_length]; exact h) = (ns[i] : Int) := by simp [toI]
theorem mem_toI {ns : List Nat} {i : Nat} : (i : Int) ∈ toI ns ↔ i ∈ ns := by
  unfold toI
  rw [List.mem_map]
  constructor
  · rintro ⟨a, ha, e⟩
    have : a = i := by omega
    rw [← this]; exact ha
  · intro h; exact ⟨i, h, rfl⟩
theorem OrdP.toI {n : Nat} {l : List Int} {ns : List Nat} (h : OrdP n l ns) : l = toI ns := h.eq

/-- A row of numbers that the call owns. -/
def OwnI (B : Nat) (l : List Int) (v : Value) (w : World) : Prop := ∃ a c, v = .slice a l.length c ∧ w.ownsRow B 3 1 (.slice a l.length c) l.length (ivs l)

theorem OwnI.of {B : Nat} {ns : List Nat} {a : Option Addr} {c : Nat} {w : World} (h : w.ownsRow B 3 1 (.slice a ns.length c) ns.length (ivs (toI ns))) : OwnI B (toI ns) (.slice a ns.length c) w := by
  unfold OwnI
  rw [toI_length]
  exact ⟨a, c, rfl, h⟩

def PlacePost (w : World) (i : Nat) (e : Ending) (w' : World) : Prop := e = .returned (.int .i64 i) ∧ w = w'

def PlacesPost (ns : List Nat) (w : World) (e : Ending) (w' : World) : Prop := ∃ v, e = .returned v ∧ OwnI w.heap.size (toI ns) v w' ∧ Below w.heap.size w w'

def PlacesRel (ns : List Nat) (w : World) (v x : Value) (wr : World) : Prop :=
  ∃ k a c, k ≤ ns.length ∧ x = .int .i64 (k : Nat) ∧ v = .slice a k c ∧ wr.ownsRow w.heap.size 3 1 (.slice a k c) k (ivs (toI (ns.take k))) ∧ Below w.heap.size w wr

/-- Two lists are the same. -/
def SameIPost (p : Bool) (w : World) (e : Ending) (w' : World) : Prop := ∃ q, e = .returned (.bool p) ∧ w' = w.drewN q

theorem same_step {la lb : List Int} (hl : la.length = lb.length) (h : ∀ i (h1 : i < la.length) (h2 : i < lb.length), la[i] = lb[i]) : la = lb := List.ext_getElem hl h

end Go.Proofs.Ytjebadadimejpaa
