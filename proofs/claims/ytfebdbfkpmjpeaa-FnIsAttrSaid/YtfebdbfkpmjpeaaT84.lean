/- Small letters in the place of capital ones: the program's zzToLower, the reference's small. -/
import Derived.Test.YtfebdbfkpmjpeaaT66
import Derived.Test.YtfebdbfkpmjpeaaRows
import Derived.WalkKit
import Derived.WalkSpells
import Derived.WalkLawsBesides
import Derived.Lib.Hide
import Derived.Lib.Case
import Derived.Lib.BufferWrite
import Derived.Deep.OwnRows
namespace Go.Proofs.Ytfebdbfkpmjpeaa
open Go.RowKit
set_option linter.unusedVariables false

theorem smB_low (c : UInt8) : smB c = Lib.lowerB c := by
  unfold smB Lib.lowerB Lib.isUpperB
  by_cases h : 65 ≤ c ∧ c ≤ 90
  · rw [if_pos h]; simp [h.1, h.2]
  · rw [if_neg h]
    by_cases h1 : 65 ≤ c
    · have h2 : ¬ c ≤ 90 := fun q => h ⟨h1, q⟩
      simp [h2]
    · simp [h1]

def lowS (s : ByteArray) : ByteArray := ⟨(s.data.toList.map Lib.lowerB).toArray⟩

/-- What stands at place j when the first k bytes are turned. -/
def mixB (s : ByteArray) (k j : Nat) : UInt8 := if j < k then Lib.lowerB (s.data.toList.getD j 0) else s.data.toList.getD j 0

def MixAt (s : ByteArray) (B k : Nat) (w : World) : Prop :=
  (∀ j, j < s.size → w.cell? ⟨B, j, none⟩ = some (.int .u8 ((mixB s k j).toNat : Int))) ∧ (∀ j, j < s.size → w.frozen? ⟨B, j, none⟩ = false)

theorem mixAt_new (s : ByteArray) (w : World) (c : Nat) : MixAt s w.heap.size 0 ((w.alloc (.cells (bytesRow s c) 5 ((bytesRow s c).size, (bytesRow s c).size + 1))).drew) := by
  have hrow : ∀ j, j < s.size → j < (bytesRow s c).size := by intro j hj; simp [bytesRow]; have : s.data.size = s.size := rfl; omega
  refine ⟨fun j hj => ?_, fun j hj => ?_⟩
  · show (w.alloc _).cell? _ = _
    rw [World.cell?_alloc_mark]
    have h : j < s.data.size := hj
    simp [bytesRow, Array.getElem?_append, hj, mixB]
  · show (w.alloc _).frozen? _ = _
    rw [World.frozen?_alloc_mark]
    have := hrow j hj
    simp; omega

theorem mixB_step (s : ByteArray) (k j : Nat) : mixB s (k + 1) j = if j = k then Lib.lowerB (s.data.toList.getD j 0) else mixB s k j := by
  unfold mixB
  by_cases h : j = k
  · subst h; simp
  · rw [if_neg h]
    by_cases h2 : j < k
    · rw [if_pos h2, if_pos (by omega)]
    · rw [if_neg h2, if_neg (by omega)]

theorem mixAt_skip {s : ByteArray} {B k : Nat} {w : World} (h : MixAt s B k w) (hk : Lib.isUpperB (mixB s k k) = false) : MixAt s B (k + 1) w := by
  refine ⟨fun j hj => ?_, h.2⟩
  rw [h.1 j hj, mixB_step]
  by_cases e : j = k
  · subst e
    rw [if_pos rfl]
    have : mixB s j j = s.data.toList.getD j 0 := by simp [mixB]
    rw [this] at hk ⊢
    rw [Lib.lowerB_of_not _ hk]
  · rw [if_neg e]

theorem mixAt_put {s : ByteArray} {B k : Nat} {w : World} (h : MixAt s B k w) (hlt : k < s.size) (hk : Lib.isUpperB (mixB s k k) = true) :
    MixAt s B (k + 1) (w.setCell ⟨B, k, none⟩ (.int .u8 ((mixB s k k).toNat + 32 : Int))) := by
  refine ⟨fun j hj => ?_, fun j hj => by rw [World.frozen?_setCell]; exact h.2 j hj⟩
  rw [mixB_step]
  by_cases e : j = k
  · subst e
    rw [if_pos rfl, World.cell?_setCell_same _ _ _ (by rw [h.1 j hj])]
    have e2 : mixB s j j = s.data.toList.getD j 0 := by simp [mixB]
    rw [e2] at hk ⊢
    rw [Lib.lowerB_int _ hk]
  · rw [if_neg e, World.cell?_setCell_other _ _ _ _ (by simp)]
    exact h.1 j hj

theorem mixAt_back {P : Program} {src dst e : TypeId} {s : ByteArray} {B k : Nat} {w : World} (h : MixAt s B k w) (hk : s.size ≤ k) (cap : Nat)
    (hs : P.underlying src = some (.slice e)) (he : P.underlying e = some (.int .u8)) (hd : P.underlying dst = some .string) :
    (convert src dst (.slice (some ⟨B, 0, none⟩) s.size cap)).run P w = .ok (.string (lowS s)) w := by
  have hl : (s.data.toList.map Lib.lowerB).length = s.size := by simp
  have := run_convert_bytes_back (P := P) w src dst e ⟨B, 0, none⟩ cap (s.data.toList.map Lib.lowerB) hs he hd (by
    intro j hj
    rw [hl] at hj
    have h3 : s.data[j]? = some s.data[j] := Array.getElem?_eq_getElem hj
    rw [Addr.add_lit, Nat.zero_add]
    rw [h.1 j hj]
    simp [mixB, show j < k by omega]
    rw [h3]; rfl)
  rw [hl] at this
  exact this


theorem lowS_sm (s : ByteArray) : (lowS s).data.toList = s.data.toList.map smB := by
  unfold lowS
  show (List.toArray _).toList = _
  rw [List.toList_toArray]
  exact List.map_congr_left fun c _ => (smB_low c).symm

set_option maxRecDepth 100000 in
set_option maxHeartbeats 1000000 in
theorem zzLow_any (s : ByteArray) (w : World) (hs : s.size ≤ 2147483647) :
    Calls Try.prog 246 #[.string s] w fun e w' => e = .returned (.string (lowS s)) ∧ Below w.heap.size w w' := by
  have hconv := fun w => run_bytes_of_string (P := Try.prog) w 9 179 5 s Try.underlying9 Try.underlying179 Try.underlying5
  go_enter Try.func246, Try.ntmps246
  go_wp2
  go_loopw [10] (fun i wr => ∃ k : Nat, k ≤ s.size ∧ i = .int .i64 k ∧ MixAt s w.heap.size k wr ∧ w.heap.size < wr.heap.size ∧ Below w.heap.size w wr) (fun i _ => s.size - (intOf i).toNat)
  case atStart => exact ⟨0, Nat.zero_le _, rfl, mixAt_new s w _, by simp, ((Below.refl _ _).alloc (Nat.le_refl _) _).drew⟩
  case round =>
    obtain ⟨k, hk, rfl, hmix, hsz, hb⟩ := hrel
    by_cases hlt : k < s.size
    · have hc : wr.cell? ⟨w.heap.size, k, none⟩ = some (.int .u8 ((mixB s k k).toNat : Int)) := hmix.1 k hlt
      have hf : wr.frozen? ⟨w.heap.size, k, none⟩ = false := hmix.2 k hlt
      go_wp2
      all_goals go_roundw
      case rel =>
        refine ⟨k + 1, by omega, by go_num, ?_, by simpa using hsz, hb.setCell (Nat.le_refl _) _⟩
        have h := mixAt_put hmix hlt (by rw [Lib.isUpperB_int]; simp; omega)
        rw [show ((mixB s k k).toNat : Int) + 32 = ((mixB s k k).toNat : Int) + 97 - 65 by omega] at h
        exact h
      case measure => simp [intOf]; omega
      all_goals first
        | (refine ⟨k + 1, by omega, by go_num, mixAt_skip hmix (by rw [Lib.isUpperB_int]; simp; omega), hsz, hb⟩)
        | (simp [intOf]; omega)
    · have hback := mixAt_back hmix (by omega) (grownCap w s.size 0 5) Try.underlying179 Try.underlying5 Try.underlying9
      go_wp2
      go_ret
      exact ⟨rfl, hb⟩

set_option maxRecDepth 100000 in
set_option maxHeartbeats 1000000 in
theorem small_any (s : ByteArray) (w : World) (hs : s.size ≤ 2147483647) :
    Calls Try.prog 230 #[.string s] w fun e w' => e = .returned (.string (lowS s)) ∧ Below w.heap.size w w' := by
  have hconv := fun w => run_bytes_of_string (P := Try.prog) w 9 179 5 s Try.underlying9 Try.underlying179 Try.underlying5
  go_enter Try.func230, Try.ntmps230
  go_wp2
  go_loopw [4] (fun i wr => ∃ k : Nat, k ≤ s.size ∧ i = .int .i64 k ∧ MixAt s w.heap.size k wr ∧ w.heap.size < wr.heap.size ∧ Below w.heap.size w wr) (fun i _ => s.size - (intOf i).toNat)
  case atStart => exact ⟨0, Nat.zero_le _, rfl, mixAt_new s w _, by simp, ((Below.refl _ _).alloc (Nat.le_refl _) _).drew⟩
  case round =>
    obtain ⟨k, hk, rfl, hmix, hsz, hb⟩ := hrel
    by_cases hlt : k < s.size
    · have hc : wr.cell? ⟨w.heap.size, k, none⟩ = some (.int .u8 ((mixB s k k).toNat : Int)) := hmix.1 k hlt
      have hf : wr.frozen? ⟨w.heap.size, k, none⟩ = false := hmix.2 k hlt
      go_wp2
      all_goals go_roundw
      case rel =>
        refine ⟨k + 1, by omega, by go_num, mixAt_put hmix hlt (by rw [Lib.isUpperB_int]; simp; omega), by simpa using hsz, hb.setCell (Nat.le_refl _) _⟩
      case measure => simp [intOf]; omega
      all_goals first
        | (refine ⟨k + 1, by omega, by go_num, mixAt_skip hmix (by rw [Lib.isUpperB_int]; simp; omega), hsz, hb⟩)
        | (simp [intOf]; omega)
    · have hback := mixAt_back hmix (by omega) (grownCap w s.size 0 5) Try.underlying179 Try.underlying5 Try.underlying9
      go_wp2
      go_ret
      exact ⟨rfl, hb⟩
end Go.Proofs.Ytfebdbfkpmjpeaa
