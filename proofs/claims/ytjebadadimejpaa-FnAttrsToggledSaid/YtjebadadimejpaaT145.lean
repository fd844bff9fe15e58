/- An element of its own, with attributes: element; what is read off it: attrs. -/
import Derived.Test.YtjebadadimejpaaT68
import Derived.Test.YtjebadadimejpaaT28
import Derived.Deep.RegionLaw
namespace Go.Proofs.Ytjebadadimejpaa
open Go.RowKit
set_option linter.unusedVariables false

def tagA : ByteArray := ⟨#[97]⟩
/-- An element's block and its attributes' row. -/
def ElA (l : List At2) (g : Nat) (w : World) : Prop :=
  ∃ (aa : Option Addr) (ac : Nat), w.heap[g]? = some (.cells #[.pointer none, .pointer none, .pointer none, .pointer none, .pointer none, .int .u32 3, .int .u32 0, .string tagA, .string ⟨#[]⟩, .slice aa l.length ac] 54 (0, 0)) ∧
    w.ownsRow (g + 1) 56 3 (.slice aa l.length ac) l.length (flatA l)
/-- A selection of one node. -/
def SelOne (g gs : Nat) (w : World) : Prop :=
  ∃ r, w.heap[gs]? = some (.cells #[.slice (some ⟨r, 0, none⟩) 1 1, .pointer none, .pointer none] 60 (0, 0)) ∧ w.heap[r]? = some (.cells #[.pointer (some ⟨g, 0, none⟩)] 42 (0, 0))

def ElPostA (l : List At2) (w : World) (e : Ending) (w' : World) : Prop :=
  ∃ g gs, e = .returned (.tuple #[.pointer (some ⟨gs, 0, none⟩), .pointer (some ⟨g, 0, none⟩)]) ∧ w.heap.size ≤ g ∧ ElA l g w' ∧ SelOne g gs w' ∧ Below w.heap.size w w'

set_option maxRecDepth 100000 in
set_option maxHeartbeats 2000000 in
theorem element_any (aa : Option Addr) (ac : Nat) (attrs : List At2) (w : World) (hx : ASl w w.heap.size aa attrs) (hal : attrs.length ≤ 1000) :
    Calls Try.prog 21 #[.slice aa attrs.length ac] w (ElPostA attrs w) := by
  obtain ⟨i0, hinf, hz0, hz1, hz2⟩ := info_parts Try.infoA
  have HAt := Lib.hid hx
  clear hx
  go_enter Try.func21, Try.ntmps21
  go_wp2_with fail
  go_loopw [11] (fun y wr => ∃ (k : Nat) (av : Option Addr) (cv : Nat), k ≤ attrs.length ∧ y = .int .i64 k ∧
      wr.heap[w.heap.size]? = some (.cells #[.pointer none, .pointer none, .pointer none, .pointer none, .pointer none, .int .u32 3, .int .u32 0, .string tagA, .string ⟨#[]⟩, .slice av k cv] 54 (0, 0)) ∧
      wr.ownsRow (w.heap.size + 1) 56 3 (.slice av k cv) k (flatA (attrs.take k)) ∧ Below w.heap.size w wr) (fun y _ => attrs.length - (intOf y).toNat)
  case atStart =>
    refine ⟨0, none, 0, by omega, rfl, ?_, World.ownsRow_nil _ _ _ _, (Below.refl _ _).alloc (Nat.le_refl _) _⟩
    rw [heap_alloc_new]
    rfl
  case round =>
    obtain ⟨k, av, cv, hk, rfl, hblk, hown, hb⟩ := hrel
    by_cases hlt : k < attrs.length
    · obtain ⟨hm, hs, hr⟩ := HAt.out
      rcases hr with h0 | ⟨b, o, rfl, hbB, hc⟩
      · subst h0; simp at hlt
      · have g1 := (hb.cell (p := ⟨b, o + k * 2, none⟩) hbB).trans (hc k hlt).1
        have g2 := (hb.cell (p := ⟨b, o + k * 2 + 1, none⟩) hbB).trans (hc k hlt).2
        obtain ⟨y, hy⟩ : ∃ y, y = attrs.getD k default := ⟨_, rfl⟩
        rw [← hy] at g1 g2
        have HY : Hid (attrs.take (k + 1) = attrs.take k ++ [y]) := by
          rw [Hid, List.take_succ_eq_append_getElem hlt, hy, List.getD_eq_getElem?_getD, List.getElem?_eq_getElem hlt, Option.getD_some]
        clear hy hc hs hm
        have hGlt : w.heap.size < wr.heap.size := (Array.getElem?_eq_some_iff.1 hblk).1
        have c9 : wr.cell? ⟨w.heap.size, 9, none⟩ = some (.slice av k cv) := cell_of_row wr _ 9 _ _ _ hblk
        have c9' : ∀ O2 O3, ((wr.alloc O2).alloc O3).cell? ⟨w.heap.size, 9, none⟩ = some (.slice av k cv) := fun O2 O3 => by
          rw [World.cell?_alloc_lt _ _ _ (by simp; omega), World.cell?_alloc_lt _ _ _ (by exact hGlt)]; exact c9
        have HB := Lib.hid hblk
        have HW := Lib.hid hown
        clear hblk hown
        go_wp2_with fail
        have HN := Lib.hid (new3 wr (.cells #[.string y.key, .string y.val] 35) (.string ⟨#[]⟩) (.string y.key) (.string y.val) 56)
        have HK : Hid (∀ w1, (((wr.alloc (.cells #[.string y.key, .string y.val] 35)).alloc (.cells #[.string ⟨#[]⟩, .string y.key, .string y.val] 56)).drew).grownBy w1 (Value.slice av k cv).ownBlock →
            w1.heap[w.heap.size]? = some (.cells #[.pointer none, .pointer none, .pointer none, .pointer none, .pointer none, .int .u32 3, .int .u32 0, .string tagA, .string ⟨#[]⟩, .slice av k cv] 54 (0, 0)) ∧ Below w.heap.size w w1) := by
          intro w1 hg
          have hne : some (w.heap.size) ≠ (Value.slice av k cv).ownBlock := fun e => by have := (HW.out.lt _ e.symm).1; omega
          refine ⟨?_, ?_⟩
          · rw [hg.block (w.heap.size) (by show _ < (((wr.alloc _).alloc _)).heap.size; simp; omega) hne]
            show ((wr.alloc _).alloc _).heap[w.heap.size]? = _
            rw [Below.heap_alloc _ _ _ (by simp; omega), Below.heap_alloc _ _ _ hGlt]
            exact HB.out
          · exact (((hb.alloc hb.size _).alloc (by simp; have := hb.size; omega) _).drew).grown hg (by show _ ≤ ((wr.alloc _).alloc _).heap.size; simp; have := hb.size; omega) (fun q hq => by have := (HW.out.lt q hq).1; omega)
        go_region_law (refine step_append_slice rfl (.tmp 19) (.tmp 25) 52 rfl (w.heap.size + 1) 56 i0 _ 3 48 Try.underlying52 hinf hz0 hz1 hz2 rfl (by decide) (.slice av k cv) k (flatA (attrs.take k)) rfl (((HW.out.alloc _).alloc _).drew) ⟨wr.heap.size + 1, 0, none⟩ 1 1 [.string ⟨#[]⟩, .string y.key, .string y.val] rfl rfl HN.out (by intro u hu; simp at hu; rcases hu with rfl | rfl | rfl <;> rfl) (by unfold maxLen; omega) (by omega) (by simp; omega) ?_; intro a1 c1 w1 ho hg; have hk1 := (HK.out w1 hg).1; have hd9 := cell_of_row w1 _ 9 _ _ _ hk1; have hf9 := frozen_of_row w1 _ 9 _ _ hk1; have HK1 := Lib.hid (HK.out w1 hg); have HO := Lib.hid ho; clear ho hg hk1)
        all_goals
          go_wp2_with fail
          go_roundw
          case rel =>
            refine ⟨k + 1, a1, c1, by omega, by go_num, ?_, ?_, HK1.out.2.setCell (by simp) _⟩
            · have := heap_setCell_same w1 (w.heap.size) 9 _ _ (.slice a1 (k + 1) c1) HK1.out.1
              simpa using this
            · rw [HY.out, flatA_snoc]
              exact ownsRow_setCell_below HO.out (by simp) _
          case measure => simp [intOf]; omega
    · have e : k = attrs.length := by omega
      subst e
      rw [List.take_length] at hown
      have HB := Lib.hid hb
      have HW := Lib.hid hown
      have HBl := Lib.hid hblk
      have hGlt : w.heap.size < wr.heap.size := (Array.getElem?_eq_some_iff.1 hblk).1
      clear hb hown hblk
      go_wp2_with fail
      go_ret2
      refine ⟨w.heap.size, _, rfl, Nat.le_refl _, ⟨av, cv, ?_, (HW.out.alloc _).alloc _⟩, ⟨wr.heap.size, ?_, ?_⟩, (HB.out.alloc HB.out.size _).alloc (by simp; omega) _⟩
      · rw [Below.heap_alloc _ _ _ (by simp; omega), Below.heap_alloc _ _ _ hGlt]
        exact HBl.out
      · have := heap_alloc_new (wr.alloc (.cells #[.pointer (some ⟨w.heap.size, 0, none⟩)] 42)) (.cells #[.slice (some ⟨wr.heap.size, 0, none⟩) 1 1, .pointer none, .pointer none] 60)
        simpa using this
      · rw [Below.heap_alloc _ _ _ (by simp), heap_alloc_new]
end Go.Proofs.Ytjebadadimejpaa
