/- Blanks in the place of tabs, carriage returns and line feeds (goquery). -/
import Derived.Test.YtjebadadimejpaaP21
namespace Go.Proofs.Ytjebadadimejpaa
open Go.RowKit
set_option linter.unusedVariables false

def isTr (c : UInt8) : Bool := decide (c.toNat = 9) || decide (c.toNat = 13) || decide (c.toNat = 10)
def trB (c : UInt8) : UInt8 := if isTr c = true then 32 else c
theorem trB_yes {c : UInt8} (h : isTr c = true) : trB c = 32 := if_pos h
theorem trB_no (c : UInt8) (h : isTr c = false) : trB c = c := if_neg (by simp [h])
theorem isTr_iff (c : UInt8) : isTr c = true ↔ c.toNat = 9 ∨ c.toNat = 13 ∨ c.toNat = 10 := by
  unfold isTr; simp [or_assoc]
def trS (s : ByteArray) : ByteArray := ⟨(s.data.toList.map trB).toArray⟩

/-- What stands at place j when the first k bytes are turned. -/
def mxB (s : ByteArray) (k j : Nat) : UInt8 := if j < k then trB (s.data.toList.getD j 0) else s.data.toList.getD j 0

def MxAt (s : ByteArray) (B k : Nat) (w : World) : Prop :=
  (∀ j, j < s.size → w.cell? ⟨B, j, none⟩ = some (.int .u8 ((mxB s k j).toNat : Int))) ∧ (∀ j, j < s.size → w.frozen? ⟨B, j, none⟩ = false)

theorem mxAt_new (s : ByteArray) (w : World) (c : Nat) : MxAt s w.heap.size 0 ((w.alloc (.cells (bytesRow s c) 5 ((bytesRow s c).size, (bytesRow s c).size + 1))).drew) := by
  have hrow : ∀ j, j < s.size → j < (bytesRow s c).size := by intro j hj; simp [bytesRow]; have : s.data.size = s.size := rfl; omega
  refine ⟨fun j hj => ?_, fun j hj => ?_⟩
  · show (w.alloc _).cell? _ = _
    rw [World.cell?_alloc_mark]
    have h : j < s.data.size := hj
    simp [bytesRow, Array.getElem?_append, hj, mxB]
  · show (w.alloc _).frozen? _ = _
    rw [World.frozen?_alloc_mark]
    have := hrow j hj
    simp; omega

theorem mxB_step (s : ByteArray) (k j : Nat) : mxB s (k + 1) j = if j = k then trB (s.data.toList.getD j 0) else mxB s k j := by
  unfold mxB
  by_cases h : j = k
  · subst h; simp
  · rw [if_neg h]
    by_cases h2 : j < k
    · rw [if_pos h2, if_pos (by omega)]
    · rw [if_neg h2, if_neg (by omega)]

theorem mxAt_skip {s : ByteArray} {B k : Nat} {w : World} (h : MxAt s B k w) (hk : isTr (mxB s k k) = false) : MxAt s B (k + 1) w := by
  refine ⟨fun j hj => ?_, h.2⟩
  rw [h.1 j hj, mxB_step]
  by_cases e : j = k
  · subst e
    rw [if_pos rfl]
    have : mxB s j j = s.data.toList.getD j 0 := by simp [mxB]
    rw [this] at hk ⊢
    rw [trB_no _ hk]
  · rw [if_neg e]

theorem mxAt_put {s : ByteArray} {B k : Nat} {w : World} (h : MxAt s B k w) (hlt : k < s.size) (hk : isTr (mxB s k k) = true) :
    MxAt s B (k + 1) (w.setCell ⟨B, k, none⟩ (.int .u8 32)) := by
  refine ⟨fun j hj => ?_, fun j hj => by rw [World.frozen?_setCell]; exact h.2 j hj⟩
  rw [mxB_step]
  by_cases e : j = k
  · subst e
    rw [if_pos rfl, World.cell?_setCell_same _ _ _ (by rw [h.1 j hj])]
    have e2 : mxB s j j = s.data.toList.getD j 0 := by simp [mxB]
    rw [e2] at hk
    rw [trB_yes hk]; rfl
  · rw [if_neg e, World.cell?_setCell_other _ _ _ _ (by simp)]
    exact h.1 j hj

theorem mxAt_back {P : Program} {src dst e : TypeId} {s : ByteArray} {B k : Nat} {w : World} (h : MxAt s B k w) (hk : s.size ≤ k) (cap : Nat)
    (hs : P.underlying src = some (.slice e)) (he : P.underlying e = some (.int .u8)) (hd : P.underlying dst = some .string) :
    (convert src dst (.slice (some ⟨B, 0, none⟩) s.size cap)).run P w = .ok (.string (trS s)) w := by
  have hl : (s.data.toList.map trB).length = s.size := by simp
  have := run_convert_bytes_back (P := P) w src dst e ⟨B, 0, none⟩ cap (s.data.toList.map trB) hs he hd (by
    intro j hj
    rw [hl] at hj
    have h3 : s.data[j]? = some s.data[j] := Array.getElem?_eq_getElem hj
    rw [Addr.add_lit, Nat.zero_add]
    rw [h.1 j hj]
    simp [mxB, show j < k by omega]
    rw [h3]; rfl)
  rw [hl] at this
  exact this

set_option maxRecDepth 100000 in
set_option maxHeartbeats 1000000 in
theorem classTrim_any (s : ByteArray) (w : World) (hs : s.size ≤ 2147483647) :
    Calls Try.prog 41 #[.string s] w fun e w' => e = .returned (.string (trS s)) ∧ Below w.heap.size w w' := by
  have hconv := fun w => run_bytes_of_string (P := Try.prog) w 9 71 5 s Try.underlying9 Try.underlying71 Try.underlying5
  go_enter Try.func41, Try.ntmps41
  go_wp2
  go_loopw [10] (fun i wr => ∃ k : Nat, k ≤ s.size ∧ i = .int .i64 k ∧ MxAt s w.heap.size k wr ∧ w.heap.size < wr.heap.size ∧ Below w.heap.size w wr) (fun i _ => s.size - (intOf i).toNat)
  case atStart => exact ⟨0, Nat.zero_le _, rfl, mxAt_new s w _, by simp, ((Below.refl _ _).alloc (Nat.le_refl _) _).drew⟩
  case round =>
    obtain ⟨k, hk, rfl, hmix, hsz, hb⟩ := hrel
    by_cases hlt : k < s.size
    · have hc : wr.cell? ⟨w.heap.size, k, none⟩ = some (.int .u8 ((mxB s k k).toNat : Int)) := hmix.1 k hlt
      have hf : wr.frozen? ⟨w.heap.size, k, none⟩ = false := hmix.2 k hlt
      have hi := isTr_iff (mxB s k k)
      have HM := Lib.hid hmix
      have HB := Lib.hid hb
      clear hmix hb
      cases ht : isTr (mxB s k k)
      · have HS := Lib.hid (mxAt_skip HM.out ht)
        rw [ht] at hi
        have hn : ¬ ((mxB s k k).toNat = 9 ∨ (mxB s k k).toNat = 13 ∨ (mxB s k k).toNat = 10) := fun h => by cases hi.2 h
        have z1 : (((mxB s k k).toNat : Int) == 9) = false := beq_eq_false_iff_ne.2 (by omega)
        have z2 : (((mxB s k k).toNat : Int) == 13) = false := beq_eq_false_iff_ne.2 (by omega)
        have z3 : (((mxB s k k).toNat : Int) == 10) = false := beq_eq_false_iff_ne.2 (by omega)
        clear hi hn ht
        go_wp2_with fail
        go_roundw
        case rel => exact ⟨k + 1, by omega, by go_num, HS.out, hsz, HB.out⟩
        case measure => simp [intOf]; omega
      · have HS := Lib.hid (mxAt_put HM.out hlt ht)
        have hy := hi.1 ht
        have hz : ∃ z1 z2 z3 : Bool, (((mxB s k k).toNat : Int) == 9) = z1 ∧ (((mxB s k k).toNat : Int) == 13) = z2 ∧ (((mxB s k k).toNat : Int) == 10) = z3 ∧ ((z1 = true ∧ z2 = false ∧ z3 = false) ∨ (z1 = false ∧ z2 = true ∧ z3 = false) ∨ (z1 = false ∧ z2 = false ∧ z3 = true)) := by
          refine ⟨_, _, _, rfl, rfl, rfl, ?_⟩
          rcases hy with hy | hy | hy <;> rw [hy] <;> decide
        clear hi hy ht
        obtain ⟨z1, z2, z3, e1, e2, e3, hz⟩ := hz
        rcases hz with ⟨rfl, rfl, rfl⟩ | ⟨rfl, rfl, rfl⟩ | ⟨rfl, rfl, rfl⟩
        all_goals
          go_wp2_with fail
          go_roundw
          case rel => exact ⟨k + 1, by omega, by go_num, HS.out, by simpa using hsz, HB.out.setCell (Nat.le_refl _) _⟩
          case measure => simp [intOf]; omega
    · have hback := mxAt_back hmix (by omega) (grownCap w s.size 0 5) Try.underlying71 Try.underlying5 Try.underlying9
      go_wp2
      go_ret
      exact ⟨rfl, hb⟩
end Go.Proofs.Ytjebadadimejpaa
