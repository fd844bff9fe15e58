/- The plain text of small letters, and the walks of the two functions that make it. -/
import Derived.Test.YtkdfdfhejibopaaDoorT422
import Derived.WalkKit
import Derived.WalkSpells
import Derived.WalkLawsBesides
import Derived.Lib.Case
import Derived.Lib.BufferWrite
import Derived.Deep.OwnRows
namespace Go.Proofs.YtkdfdfhejibopaaDoor
open Go.RowKit

def lowS (s : ByteArray) : ByteArray := ⟨(s.data.toList.map Lib.lowerB).toArray⟩

/-- What stands at place j when the first k bytes are turned. -/
def mixB (s : ByteArray) (k j : Nat) : UInt8 := if j < k then Lib.lowerB (s.data.toList.getD j 0) else s.data.toList.getD j 0

def MixAt (s : ByteArray) (B k : Nat) (w : World) : Prop :=
  (∀ j, j < s.size → w.cell? ⟨B, j, none⟩ = some (.int .u8 ((mixB s k j).toNat : Int))) ∧ (∀ j, j < s.size → w.frozen? ⟨B, j, none⟩ = false)

theorem mixAt_new (s : ByteArray) (w : World) (c : Nat) : MixAt s w.heap.size 0 ((w.alloc (.cells (bytesRow s c) 5 ((bytesRow s c).size, (bytesRow s c).size + 1))).drew) := by
  have hrow : ∀ j, j < s.size → j < (bytesRow s c).size := by intro j hj; simp [bytesRow]; have : s.data.size = s.size := rfl; omega
  refine ⟨fun j hj => ?_, fun j hj => ?_⟩
  · show (w.alloc _).cell? _ = _
    rw [World.cell?_alloc_mark]
    have h : j < s.data.size := hj
    simp [bytesRow, Array.getElem?_append, hj, mixB]
  · show (w.alloc _).frozen? _ = _
    rw [World.frozen?_alloc_mark]
    have := hrow j hj
    simp; omega

theorem mixB_step (s : ByteArray) (k j : Nat) : mixB s (k + 1) j = if j = k then Lib.lowerB (s.data.toList.getD j 0) else mixB s k j := by
  unfold mixB
  by_cases h : j = k
  · subst h; simp
  · rw [if_neg h]
    by_cases h2 : j < k
    · rw [if_pos h2, if_pos (by omega)]
    · rw [if_neg h2, if_neg (by omega)]

theorem mixAt_skip {s : ByteArray} {B k : Nat} {w : World} (h : MixAt s B k w) (hk : Lib.isUpperB (mixB s k k) = false) : MixAt s B (k + 1) w := by
  refine ⟨fun j hj => ?_, h.2⟩
  rw [h.1 j hj, mixB_step]
  by_cases e : j = k
  · subst e
    rw [if_pos rfl]
    have : mixB s j j = s.data.toList.getD j 0 := by simp [mixB]
    rw [this] at hk ⊢
    rw [Lib.lowerB_of_not _ hk]
  · rw [if_neg e]

theorem mixAt_put {s : ByteArray} {B k : Nat} {w : World} (h : MixAt s B k w) (hlt : k < s.size) (hk : Lib.isUpperB (mixB s k k) = true) :
    MixAt s B (k + 1) (w.setCell ⟨B, k, none⟩ (.int .u8 ((mixB s k k).toNat + 32 : Int))) := by
  refine ⟨fun j hj => ?_, fun j hj => by rw [World.frozen?_setCell]; exact h.2 j hj⟩
  rw [mixB_step]
  by_cases e : j = k
  · subst e
    rw [if_pos rfl, World.cell?_setCell_same _ _ _ (by rw [h.1 j hj])]
    have e2 : mixB s j j = s.data.toList.getD j 0 := by simp [mixB]
    rw [e2] at hk ⊢
    rw [Lib.lowerB_int _ hk]
  · rw [if_neg e, World.cell?_setCell_other _ _ _ _ (by simp)]
    exact h.1 j hj

theorem mixAt_back {P : Program} {src dst e : TypeId} {s : ByteArray} {B k : Nat} {w : World} (h : MixAt s B k w) (hk : s.size ≤ k) (cap : Nat)
    (hs : P.underlying src = some (.slice e)) (he : P.underlying e = some (.int .u8)) (hd : P.underlying dst = some .string) :
    (convert src dst (.slice (some ⟨B, 0, none⟩) s.size cap)).run P w = .ok (.string (lowS s)) w := by
  have hl : (s.data.toList.map Lib.lowerB).length = s.size := by simp
  have := run_convert_bytes_back (P := P) w src dst e ⟨B, 0, none⟩ cap (s.data.toList.map Lib.lowerB) hs he hd (by
    intro j hj
    rw [hl] at hj
    have h3 : s.data[j]? = some s.data[j] := Array.getElem?_eq_getElem hj
    rw [Addr.add_lit, Nat.zero_add]
    rw [h.1 j hj]
    simp [mixB, show j < k by omega]
    rw [h3]; rfl)
  rw [hl] at this
  exact this

set_option maxHeartbeats 400000 in
theorem specLower_any (s : ByteArray) (w : World) (hs : s.size ≤ 2147483647) :
    Calls Tryd.prog 21 #[.string s] w fun e w' => e = .returned (.string (lowS s)) ∧ Below w.heap.size w w' := by
  have hconv := fun w => run_bytes_of_string (P := Tryd.prog) w 9 59 5 s Tryd.underlying9 Tryd.underlying59 Tryd.underlying5
  go_enter Tryd.func21, Tryd.ntmps21
  go_wp2
  go_loopw [4] (fun i wr => ∃ k : Nat, k ≤ s.size ∧ i = .int .i64 k ∧ MixAt s w.heap.size k wr ∧ w.heap.size < wr.heap.size ∧ Below w.heap.size w wr) (fun i _ => s.size - (intOf i).toNat)
  case atStart => exact ⟨0, Nat.zero_le _, rfl, mixAt_new s w _, by simp, ((Below.refl _ _).alloc (Nat.le_refl _) _).drew⟩
  case round =>
    obtain ⟨k, hk, rfl, hmix, hsz, hb⟩ := hrel
    by_cases hlt : k < s.size
    · have hc : wr.cell? ⟨w.heap.size, k, none⟩ = some (.int .u8 ((mixB s k k).toNat : Int)) := hmix.1 k hlt
      have hf : wr.frozen? ⟨w.heap.size, k, none⟩ = false := hmix.2 k hlt
      go_wp2
      all_goals go_roundw
      case rel =>
        refine ⟨k + 1, by omega, by go_num, mixAt_put hmix hlt (by rw [Lib.isUpperB_int]; simp; omega), by simpa using hsz, hb.setCell (Nat.le_refl _) _⟩
      case measure => simp [intOf]; omega
      all_goals first
        | (refine ⟨k + 1, by omega, by go_num, mixAt_skip hmix (by rw [Lib.isUpperB_int]; simp; omega), hsz, hb⟩)
        | (simp [intOf]; omega)
    · have hback := mixAt_back hmix (by omega) (grownCap w s.size 0 5) Tryd.underlying59 Tryd.underlying5 Tryd.underlying9
      go_wp2
      go_ret
      exact ⟨rfl, hb⟩

theorem Tryd.infoU8 : (Tryd.prog.info? 5).map (fun i => (i.zero, i.size, i.bytes)) = some (some (.int .u8 0), 1, 1) := by kernel_rfl
theorem Tryd.sizeU8 : (Tryd.prog.info? 5).map (·.size) = some 1 := by kernel_rfl

/-- The row that 'make' and 'copy' leave: the text's bytes. -/
theorem mixAt_copied (s : ByteArray) (w : World) (k : Nat) (hk : ∀ j, j < k → Lib.isUpperB (s.data.toList.getD j 0) = false) (g : Nat) (cur : Array Value) (hg : w.heap[g]? = some (.cells cur 5 (0, 0))) (hn : cur.size = s.size) :
    MixAt s g k (w.setRow g (cur.toList.take 0 ++ Lib.byteCells s.data.toList ++ cur.toList.drop (0 + s.size)).toArray) := by
  have hrow : (w.setRow g (cur.toList.take 0 ++ Lib.byteCells s.data.toList ++ cur.toList.drop (0 + s.size)).toArray).heap[g]? = some (.cells (Lib.byteCells s.data.toList).toArray 5 (0, 0)) := by
    rw [setRow_heap w g cur _ 5 _ hg]
    congr 2
    have : cur.toList.drop (0 + s.size) = [] := by apply List.drop_eq_nil_of_le; simp; omega
    rw [this]; simp
  refine ⟨fun j hj => ?_, fun j _ => ?_⟩
  · rw [cell_of_row _ g j _ 5 (0, 0) hrow]
    have h3 : s.data[j]? = some s.data[j] := Array.getElem?_eq_getElem hj
    have hm : mixB s k j = s.data.toList.getD j 0 := by
      unfold mixB
      by_cases h : j < k
      · rw [if_pos h, Lib.lowerB_of_not _ (hk j h)]
      · rw [if_neg h]
    rw [hm]
    simp [Lib.byteCells, h3]
  · exact frozen_of_row _ g j _ 5 hrow

theorem getD_byte (s : ByteArray) (k : Nat) (h : k < s.size) : s.data.toList.getD k 0 = s[k] := by
  have h3 : s.data[k]? = some s.data[k] := Array.getElem?_eq_getElem h
  simp [h3]; rfl

theorem lowS_same (s : ByteArray) (h : ∀ j, j < s.size → Lib.isUpperB (s.data.toList.getD j 0) = false) : lowS s = s := by
  have e : s.data.toList.map Lib.lowerB = s.data.toList := by
    apply List.ext_getElem
    · simp
    · intro j h1 h2
      have hj : j < s.size := by simpa using h2
      have := h j hj
      rw [getD_byte s j hj] at this
      rw [List.getElem_map, Lib.lowerB_of_not]
      exact this
  unfold lowS
  rw [e]

def LowRel (s : ByteArray) (B k : Nat) (b : Value) (w : World) : Prop :=
  (b = .slice none 0 0 ∧ ∀ j, j < k → Lib.isUpperB (s.data.toList.getD j 0) = false) ∨
  (∃ g, b = .slice (some ⟨g, 0, none⟩) s.size s.size ∧ B ≤ g ∧ g < w.heap.size ∧ MixAt s g k w)

set_option maxHeartbeats 400000 in
theorem toLower_any (s : ByteArray) (w : World) (hs : s.size ≤ 2147483647) :
    Calls Tryd.prog 44 #[.string s] w fun e w' => e = .returned (.string (lowS s)) ∧ Below w.heap.size w w' := by
  have hmk := run_make_row' (P := Tryd.prog) 59 5 (.int .u8 0) 1 Tryd.underlying59 Tryd.infoU8 rfl .i64 .i64 s.size (by omega) (by omega)
  have heq := fun w a l c => Lib.run_eql_slice_nil (P := Tryd.prog) w 59 5 a l c 0 0 Tryd.underlying59
  go_enter Tryd.func44, Tryd.ntmps44
  go_wp2
  go_loopw [3, 4] (fun b i wr => ∃ k : Nat, k ≤ s.size ∧ i = .int .i64 k ∧ LowRel s w.heap.size k b wr ∧ Below w.heap.size w wr) (fun _ i _ => s.size - (intOf i).toNat)
  case atStart => exact ⟨0, Nat.zero_le _, rfl, .inl ⟨rfl, by simp⟩, Below.refl _ _⟩
  case round =>
    obtain ⟨k, hk, rfl, hr, hb⟩ := hrel
    by_cases hlt : k < s.size
    · have hsk : mixB s k k = s[k] := by unfold mixB; rw [if_neg (by omega)]; exact getD_byte s k hlt
      rcases hr with ⟨rfl, hno⟩ | ⟨g, rfl, hB, hg, hmix⟩
      · by_cases hup : Lib.isUpperB s[k] = true
        · have hcp := Lib.run_copy_row_string (P := Tryd.prog) (wr.alloc (.cells (madeCells #[.int .u8 0] s.size) 5)) 59 9 3 5 wr.heap.size 0 s.size s.size s (madeCells #[.int .u8 0] s.size) 5 Tryd.underlying59 Tryd.sizeU8 (heap_alloc_new wr _) (Nat.le_refl _) (by rw [size_madeCells]; omega)
          have hmix := mixAt_copied s (wr.alloc (.cells (madeCells #[.int .u8 0] s.size) 5)) k hno wr.heap.size _ (heap_alloc_new wr _) (size_madeCells _ _)
          have hb2 : Below w.heap.size w ((wr.alloc (.cells (madeCells #[.int .u8 0] s.size) 5)).setRow wr.heap.size ((madeCells #[.int .u8 0] s.size).toList.take 0 ++ Lib.byteCells s.data.toList ++ (madeCells #[.int .u8 0] s.size).toList.drop (0 + s.size)).toArray) :=
            (hb.alloc hb.size _).trans ⟨rfl, rfl, rfl, by simp, fun j hj => setRow_other _ _ _ _ (by have := hb.size; omega)⟩
          have hsz2 : wr.heap.size < ((wr.alloc (.cells (madeCells #[.int .u8 0] s.size) 5)).setRow wr.heap.size ((madeCells #[.int .u8 0] s.size).toList.take 0 ++ Lib.byteCells s.data.toList ++ (madeCells #[.int .u8 0] s.size).toList.drop (0 + s.size)).toArray).heap.size := by simp
          generalize (wr.alloc (.cells (madeCells #[.int .u8 0] s.size) 5)).setRow wr.heap.size ((madeCells #[.int .u8 0] s.size).toList.take 0 ++ Lib.byteCells s.data.toList ++ (madeCells #[.int .u8 0] s.size).toList.drop (0 + s.size)).toArray = w2 at hcp hmix hb2 hsz2
          have hc := hmix.1 k hlt
          have hf := hmix.2 k hlt
          rw [hsk] at hc
          have h1 : (65 : Int) ≤ (s[k].toNat : Int) := by rw [Lib.isUpperB_int] at hup; simp at hup; omega
          have h2 : (s[k].toNat : Int) ≤ 90 := by rw [Lib.isUpperB_int] at hup; simp at hup; omega
          go_wp2
          go_roundw
          case rel => exact ⟨k + 1, by omega, by go_num, .inr ⟨wr.heap.size, rfl, hb.size, by simpa using hsz2, hsk ▸ mixAt_put hmix hlt (by rw [hsk]; exact hup)⟩, hb2.setCell hb.size _⟩
          case measure => simp [intOf]; omega
        · have hno2 : ∀ j, j < k + 1 → Lib.isUpperB (s.data.toList.getD j 0) = false := by
            intro j hj
            by_cases e : j = k
            · subst e; rw [getD_byte s j hlt]; simpa using hup
            · exact hno j (by omega)
          rw [Lib.isUpperB_int] at hup
          simp at hup
          go_wp2
          all_goals first | omega | skip
          all_goals go_roundw
          all_goals first
            | exact ⟨k + 1, by omega, by go_num, .inl ⟨rfl, hno2⟩, hb⟩
            | (simp [intOf]; omega)
      · have hc := hmix.1 k hlt
        have hf := hmix.2 k hlt
        rw [hsk] at hc
        go_wp2
        all_goals go_roundw
        all_goals first
          | exact ⟨k + 1, by omega, by go_num, .inr ⟨g, rfl, hB, by simpa using hg, hsk ▸ mixAt_put hmix hlt (by rw [hsk, Lib.isUpperB_int]; simp; omega)⟩, hb.setCell hB _⟩
          | exact ⟨k + 1, by omega, by go_num, .inr ⟨g, rfl, hB, hg, mixAt_skip hmix (by rw [hsk, Lib.isUpperB_int]; simp; omega)⟩, hb⟩
          | (simp [intOf]; omega)
    · rcases hr with ⟨rfl, hno⟩ | ⟨g, rfl, hB, hg, hmix⟩
      · go_wp2
        go_ret
        exact ⟨by rw [lowS_same s (fun j hj => hno j (by omega))]; rfl, hb⟩
      · have hback := mixAt_back hmix (by omega) s.size Tryd.underlying59 Tryd.underlying5 Tryd.underlying9
        go_wp2
        go_ret
        exact ⟨rfl, hb⟩
end Go.Proofs.YtkdfdfhejibopaaDoor
