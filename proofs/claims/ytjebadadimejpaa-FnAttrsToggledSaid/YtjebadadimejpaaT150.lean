/- removeAttr at every key, RemoveAttr. -/
import Derived.Test.YtjebadadimejpaaT148
import Derived.Test.YtjebadadimejpaaT149
namespace Go.Proofs.Ytjebadadimejpaa
open Go.RowKit
set_option linter.unusedVariables false

set_option maxRecDepth 100000 in
set_option maxHeartbeats 4000000 in
theorem removeAttr_none (l : List At2) (hl : l.length ≤ 1000) (k : ByteArray) (hx : ¬ idxA l k < l.length) (g : Nat) (w : World) (h : ElA l g w) :
    Calls Try.prog 43 #[.pointer (some ⟨g, 0, none⟩), .string k] w (RmPost (rmA l k) g w) := by
  have HF : Hid (rmA l k = l) := by rw [Hid, rmA, if_neg hx]
  rw [HF.out]
  have HEl := Lib.hid h
  have HX := Lib.hid hx
  obtain ⟨aa, ac, hblk, hown⟩ := h
  have hg : g < w.heap.size := (Array.getElem?_eq_some_iff.1 hblk).1
  have c9 : w.cell? ⟨g, 9, none⟩ = some (.slice aa l.length ac) := cell_of_row w _ 9 _ _ _ hblk
  clear hblk hown hx
  go_enter Try.func43, Try.ntmps43
  go_wp2_with fail
  go_loopw [11] (fun x wr => ∃ i : Nat, i ≤ l.length ∧ x = .int .i64 i ∧ Hid (∀ j (h : j < l.length), j < i → (l[j].key.toList == k.toList) = false) ∧ Below w.heap.size w wr) (fun x _ => l.length - (intOf x).toNat)
  case atStart => exact ⟨0, by omega, rfl, (fun j _ hj => by omega), Below.refl _ _⟩
  case round =>
    obtain ⟨i, hi, rfl, hno, hb⟩ := hrel
    have HB := Lib.hid hb
    by_cases hlt : i < l.length
    · obtain ⟨ab, cap, cur, hB⟩ := HEl.out.blocks (by omega)
      obtain ⟨g0, g1, g2⟩ := (hB.below hb).cell hlt
      have ha : aa = some ⟨ab, 0, none⟩ := by
        have := cell_of_row w g 9 _ _ _ hB.blk
        rw [c9] at this
        simp at this
        exact this.1
      subst ha
      obtain ⟨y, hy⟩ : ∃ y, y = l[i] := ⟨_, rfl⟩
      rw [← hy] at g1 g2
      have HY := Lib.hid hy
      clear hy hb hB
      cases hq : (y.key.toList == k.toList)
      · have HN : Hid (∀ j (h : j < l.length), j < i + 1 → (l[j].key.toList == k.toList) = false) := by
          intro j hj hji
          by_cases e : j = i
          · subst e; rw [← HY.out]; exact hq
          · exact hno.out j hj (by omega)
        clear hno
        go_wp2_with fail
        go_roundw
        case rel => exact ⟨i + 1, by omega, by go_num, HN, HB.out.alloc HB.out.size _⟩
        case measure => simp [intOf]; omega
      · exfalso
        have h1 : idxA l k = i := idxA_at hlt hno.out (by rw [← HY.out]; exact hq)
        have h2 := HX.out
        omega
    · clear hb
      have HFin : Hid (ElA l g wr) := by
        obtain ⟨a1, c1, h1, h2⟩ := HEl.out
        exact ⟨a1, c1, (HB.out.block _ hg).trans h1, own_kept h2 (fun b _ hb => HB.out.block b hb)⟩
      go_wp2_with fail
      go_end0
      exact ⟨rfl, HFin.out, HB.out.mono (Nat.le_of_lt hg)⟩

theorem removeAttr_any (l : List At2) (hl : l.length ≤ 1000) (k : ByteArray) (g : Nat) (w : World) (h : ElA l g w) :
    Calls Try.prog 43 #[.pointer (some ⟨g, 0, none⟩), .string k] w (RmPost (rmA l k) g w) := by
  by_cases h1 : idxA l k < l.length
  · by_cases h2 : idxA l k + 1 = l.length
    · exact removeAttr_last l hl k h2 g w h
    · exact removeAttr_mid l hl k (by omega) g w h
  · exact removeAttr_none l hl k h1 g w h

end Go.Proofs.Ytjebadadimejpaa
