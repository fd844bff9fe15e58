/- FnAttrsToggled: the walk (joined) -/
import Derived.Test.YtjebadadimejpaaP21
import Derived.Test.YtjebadadimejpaaT141
import Derived.Test.YtjebadadimejpaaT153
import Derived.Test.YtjebadadimejpaaT150
import Derived.Lib.OthersKept
import Derived.Test.YtjebadadimejpaaShelf
import Derived.Test.YtjebadadimejpaaT155
import Derived.Test.YtjebadadimejpaaT298
import Derived.Test.YtjebadadimejpaaT297
import Derived.StillTailTactics
namespace Go.Proofs.Ytjebadadimejpaa
open Go.RowKit
set_option linter.unusedVariables false

def clA : ByteArray := ⟨#[99, 108, 97, 115, 115]⟩
/-- The attributes, a class attribute among them. -/
def clL (l : List At2) : List At2 := if idxA l clA < l.length then l else l ++ [⟨clA, ⟨#[]⟩⟩]
/-- The value of the class attribute, or nothing. -/
def clV (l : List At2) : ByteArray := if h : idxA l clA < l.length then l[idxA l clA].val else ⟨#[]⟩
def clX (l : List At2) : ByteArray := trS ((⟨#[32]⟩ : ByteArray) ++ clV l ++ (⟨#[32]⟩ : ByteArray))

theorem kept_below {e : TypeId} {b : Option Nat} {w w' : World} (h : Below w.heap.size w w') : Lib.OthersKept e b w w' := fun k o hk _ _ => (h.block k (Array.getElem?_eq_some_iff.1 hk).1).trans hk

theorem clL_idx (l : List At2) : idxA (clL l) clA < (clL l).length ∧ (clL l).length ≤ l.length + 1 ∧ ∀ h : idxA (clL l) clA < (clL l).length, (clL l)[idxA (clL l) clA].val = clV l := by
  unfold clL clV
  by_cases h : idxA l clA < l.length
  · simp only [if_pos h, dif_pos h]; exact ⟨h, by omega, fun _ => trivial⟩
  · simp only [if_neg h, dif_neg h]
    have hno : ∀ x ∈ l, (x.key.toList == clA.toList) = false := fun x hx => by
      rw [Bool.eq_false_iff]
      intro e
      exact h (idxA_lt hx (beq_iff_eq.1 e))
    have he : idxA (l ++ [⟨clA, ⟨#[]⟩⟩]) clA = l.length := by
      unfold idxA
      rw [List.findIdx_append, List.findIdx_eq_length_of_false hno]
      simp [List.findIdx_cons]
    refine ⟨by rw [he]; simp, by simp, fun h1 => ?_⟩
    simp only [he]
    simp
theorem clL_set (l : List At2) (v : ByteArray) : setA (clL l) clA v = setA l clA v := by
  obtain ⟨h1, -, -⟩ := clL_idx l
  rw [setA_old h1]
  unfold clL at h1 ⊢
  by_cases h : idxA l clA < l.length
  · simp only [if_pos h]; rw [setA_old h]
  · simp only [if_neg h] at h1 ⊢
    have he : idxA (l ++ [⟨clA, ⟨#[]⟩⟩]) clA = l.length := by
      have hno : ∀ x ∈ l, (x.key.toList == clA.toList) = false := fun x hx => by
        rw [Bool.eq_false_iff]
        intro e
        exact h (idxA_lt hx (beq_iff_eq.1 e))
      unfold idxA
      rw [List.findIdx_append, List.findIdx_eq_length_of_false hno]
      simp [List.findIdx_cons]
    rw [setA_new h]
    simp only [he]
    simp

set_option maxRecDepth 100000 in
set_option maxHeartbeats 4000000 in
theorem classesAttr_any (l : List At2) (hl : l.length ≤ 900) (hv : (clV l).size ≤ 2147483000) (g : Nat) (w : World) (h : ElA l g w) :
    Calls Try.prog 30 #[.pointer (some ⟨g, 0, none⟩)] w fun e w' => ∃ ab cap cur, e = .returned (.tuple #[.string (clX l), .pointer (some ⟨ab, idxA (clL l) clA * 3, none⟩)]) ∧ ElB (clL l) g ab cap cur w' ∧ Below g w w' ∧ Lib.OthersKept 56 (some g) w w' := by
  obtain ⟨i0, hinf, hz0, hz1, hz2⟩ := info_parts Try.infoA
  have HEl := Lib.hid h
  obtain ⟨aa, ac, hblk, hown⟩ := h
  have hg : g < w.heap.size := (Array.getElem?_eq_some_iff.1 hblk).1
  have HP := Lib.hid (attrPtr2_any g (g + 1) #[] l aa ac clA w (by rw [cell_of_row w _ 9 _ _ _ hblk]; rfl) (by omega) hg hown)
  have c5 : w.cell? ⟨g, 5, none⟩ = some (.int .u32 3) := by rw [cell_of_row w _ 5 _ _ _ hblk]; rfl
  have HBl := Lib.hid hblk
  have HOw := Lib.hid hown
  have HTr : Hid (∀ W, Calls Try.prog 41 #[.string ((⟨#[32]⟩ : ByteArray) ++ clV l ++ (⟨#[32]⟩ : ByteArray))] W fun e w' => e = .returned (.string (clX l)) ∧ Below W.heap.size W w') := fun W => classTrim_any _ W (by rw [ByteArray.size_append, ByteArray.size_append]; show 1 + _ + 1 ≤ _; omega)
  obtain ⟨-, hcl2, hcl3⟩ := clL_idx l
  clear hblk hown
  go_enter Try.func30, Try.ntmps30
  go_wp2_with fail
  refine HP.out.mono ?_
  rintro e w1 ⟨h1, hb1⟩
  have HB1 := Lib.hid hb1
  clear hb1
  by_cases hx : idxA l clA < l.length
  · rw [if_pos hx] at h1
    obtain ⟨ab, hae, rfl⟩ := h1
    obtain ⟨ab2, cap, cur, hB⟩ := HEl.out.blocks (by omega)
    have hB1 := hB.below HB1.out
    have he : ab2 = ab := by
      have e1 := HBl.out
      rw [hB.blk, hae] at e1
      simp at e1
      exact e1.1
    subst he
    have hcL : clL l = l := if_pos hx
    have hcV : clV l = l[idxA l clA].val := dif_pos hx
    obtain ⟨-, -, p2⟩ := hB1.cell hx
    rw [← hcV] at p2
    have HF : Hid (ElB (clL l) g ab2 cap cur w1 ∧ Below g w w1 ∧ Lib.OthersKept 56 (some g) w w1) := ⟨by rw [hcL]; exact hB1, HB1.out.mono (Nat.le_of_lt hg), kept_below HB1.out⟩
    have HT1 := Lib.hid (HTr.out w1)
    have HIx : Hid (idxA (clL l) clA = idxA l clA) := by rw [Hid, hcL]
    obtain ⟨V, hV⟩ : ∃ V, V = clV l := ⟨_, rfl⟩
    rw [← hV] at p2 HT1 hv
    clear hae hB hB1 hcL hcV hcl3 hcl2 hV
    obtain ⟨ix, hix⟩ : ∃ ix, ix = idxA l clA := ⟨_, rfl⟩
    rw [← hix] at p2 hx HIx ⊢
    clear hix
    go_wp2_with fail
    refine HT1.out.mono ?_
    rintro e w2 ⟨rfl, hb2⟩
    have HF2 : Hid (ElB (clL l) g ab2 cap cur w2 ∧ Below g w w2 ∧ Lib.OthersKept 56 (some g) w w2) := ⟨HF.out.1.below hb2, HF.out.2.1.trans (hb2.mono (by have := HB1.out.size; omega)), HF.out.2.2.trans (kept_below hb2)⟩
    clear hb2
    go_wp2_with fail
    go_ret2
    exact ⟨ab2, cap, cur, by rw [HIx.out]; rfl, HF2.out⟩
  · rw [if_neg hx] at h1
    subst h1
    have hblk1 := (HB1.out.block _ hg).trans HBl.out
    have hg1 : g < w1.heap.size := (Array.getElem?_eq_some_iff.1 hblk1).1
    have hown1 := own_kept HOw.out (fun b _ hb => HB1.out.block b hb)
    have c9 : w1.cell? ⟨g, 9, none⟩ = some (.slice aa l.length ac) := by rw [cell_of_row w1 _ 9 _ _ _ hblk1]; rfl
    have HB := Lib.hid hblk1
    have HW := Lib.hid hown1
    have HcL : Hid (clL l = l ++ [⟨clA, ⟨#[]⟩⟩]) := if_neg hx
    have HcV : Hid (clV l = ⟨#[]⟩) := dif_neg hx
    clear hblk1 hown1
    have HN := Lib.hid (new1of3 w1 (.string ⟨#[]⟩) (.string clA) (.string ⟨#[]⟩) 56)
    go_wp2_with (at_builtin; refine wpList_append_own _ rfl _ _ 52 rfl (g + 1) 56 i0 (.agg #[.string ⟨#[]⟩, .string ⟨#[]⟩, .string ⟨#[]⟩]) 3 48 Try.underlying52 hinf hz0 hz1 hz2 rfl (by decide) (.slice aa l.length ac) l.length (flatA l) rfl (HW.out.alloc _) ⟨w1.heap.size, 0, none⟩ 1 1 [.string ⟨#[]⟩, .string clA, .string ⟨#[]⟩] rfl rfl HN.out (by intro u hu; simp at hu; rcases hu with rfl | rfl | rfl <;> rfl) (by unfold maxLen; omega) (by omega) (by simp; omega) ?_)
    intro v' w3 hown' hgrow _
    obtain ⟨a3, c3', hv2⟩ := own_slice hown'
    rw [hv2] at hown' ⊢
    have hne : some g ≠ (Value.slice aa l.length ac).ownBlock := fun e => by have := (HW.out.lt _ e.symm).1; omega
    have hk1 : w3.heap[g]? = some (.cells #[.pointer none, .pointer none, .pointer none, .pointer none, .pointer none, .int .u32 3, .int .u32 0, .string tagA, .string ⟨#[]⟩, .slice aa l.length ac] 54 (0, 0)) := by
      rw [hgrow.block g (by simp; omega) hne, Below.heap_alloc _ _ _ hg1]
      exact HB.out
    have hb3 : Below g w w3 := ((HB1.out.mono (Nat.le_of_lt hg)).alloc (by omega) _).grown hgrow (by simp; omega) (fun q hq => by have := (HW.out.lt q hq).1; omega)
    have e9 := frozen_of_row w3 _ 9 _ _ hk1
    have d9 := cell_of_row w3 _ 9 _ _ _ hk1
    have hEl2 : ElA (clL l) g (w3.setCell ⟨g, 9, none⟩ (.slice a3 (l.length + 1) c3')) := by
      rw [HcL.out]
      refine ⟨a3, c3', ?_, ?_⟩
      · have := heap_setCell_same w3 g 9 _ _ (.slice a3 (l.length + 1) c3') hk1
        simpa using this
      · rw [flatA_snoc, List.length_append]
        exact ownsRow_setCell_below hown' (by simp) _
    have hb4 : Below g w (w3.setCell ⟨g, 9, none⟩ (.slice a3 (l.length + 1) c3')) := hb3.setCell (Nat.le_refl _) _
    have hok : Lib.OthersKept 56 (some g) w (w3.setCell ⟨g, 9, none⟩ (.slice a3 (l.length + 1) c3')) := by
      refine Lib.OthersKept.setCell (Lib.OthersKept.grown ((kept_below HB1.out).alloc _) hgrow fun q hq => ?_) ⟨g, 9, none⟩ rfl _
      rcases HW.out.2 with ⟨e, _⟩ | ⟨ab', cap', cur', hv', _, hh', _⟩
      · rw [e] at hq; simp [Value.ownBlock] at hq
      · rw [hv'] at hq
        simp [Value.ownBlock] at hq
        subst hq
        exact ⟨cur', (0, 0), by rw [Below.heap_alloc _ _ _ (Array.getElem?_eq_some_iff.1 hh').1]; exact hh'⟩
    have HOk := Lib.hid hok
    have hll : (clL l).length = l.length + 1 := by rw [HcL.out]; simp
    obtain ⟨ab, cap, cur, hEB⟩ := hEl2.blocks (by omega)
    have hq9 : (w3.setCell ⟨g, 9, none⟩ (.slice a3 (l.length + 1) c3')).cell? ⟨g, 9, none⟩ = some (.slice a3 (l.length + 1) c3') := by
      have := heap_setCell_same w3 g 9 _ _ (.slice a3 (l.length + 1) c3') hk1
      rw [cell_of_row _ _ 9 _ _ _ this]; rfl
    have hr9 : (w3.setCell ⟨g, 9, none⟩ (.slice a3 (l.length + 1) c3')).cell? ⟨g, 9, none⟩ = some (.slice (some ⟨ab, 0, none⟩) (clL l).length cap) := by
      rw [cell_of_row _ _ 9 _ _ _ hEB.blk]; rfl
    rw [hq9, hll] at hr9
    simp only [Option.some.injEq, Value.slice.injEq, true_and] at hr9
    obtain ⟨rfl, rfl⟩ := hr9
    have hidx : idxA (clL l) clA = l.length := by
      rw [HcL.out]
      have hno : ∀ x ∈ l, (x.key.toList == clA.toList) = false := fun x hx2 => by
        rw [Bool.eq_false_iff]
        intro e
        exact hx (idxA_lt hx2 (beq_iff_eq.1 e))
      unfold idxA
      rw [List.findIdx_append, List.findIdx_eq_length_of_false hno]
      simp [List.findIdx_cons]
    obtain ⟨-, -, p2⟩ := hEB.cell (i := l.length) (by omega)
    have hval : (clL l)[l.length].val = ⟨#[]⟩ := by simp only [HcL.out]; simp
    rw [hval] at p2
    have HEB := Lib.hid hEB
    have HB4 := Lib.hid hb4
    have HIx := Lib.hid hidx
    have HTr2 : Hid (∀ W, Calls Try.prog 41 #[.string ((⟨#[32]⟩ : ByteArray) ++ (⟨#[]⟩ : ByteArray) ++ (⟨#[32]⟩ : ByteArray))] W fun e w' => e = .returned (.string (clX l)) ∧ Below W.heap.size W w') := fun W => by
      have := HTr.out W
      rw [HcV.out] at this
      exact this
    have hsz4 : g < (w3.setCell ⟨g, 9, none⟩ (.slice (some ⟨ab, 0, none⟩) (l.length + 1) c3')).heap.size := (Array.getElem?_eq_some_iff.1 hEB.blk).1
    clear hown' hgrow hv2 hk1 hb3 hne c9 hEl2 hb4 hll hok hEB hidx hval hcl2 hcl3 hv
    go_wp2_with fail
    go_quiet (fail)
    go_wp2_with fail
    refine (HTr2.out _).mono ?_
    rintro e w5 ⟨rfl, hb5⟩
    have HF2 : Hid (ElB (clL l) g ab c3' cur w5 ∧ Below g w w5 ∧ Lib.OthersKept 56 (some g) w w5) := ⟨(HEB.out.below (below_drewN (Below.refl _ _) nq)).below hb5, (below_drewN HB4.out nq).trans (hb5.mono (Nat.le_of_lt hsz4)), (HOk.out.trans (kept_below (below_drewN (Below.refl _ _) nq))).trans (kept_below hb5)⟩
    clear hb5
    go_wp2_with fail
    go_ret2
    exact ⟨ab, c3', cur, by rw [HIx.out]; rfl, HF2.out⟩

/-- The attributes behind setting the classes' text. -/
def tgA (l : List At2) (X : List UInt8) : List At2 := if Lib.trimSpace X = [] then rmA (clL l) clA else setA l clA ⟨(Lib.trimSpace X).toArray⟩

set_option maxRecDepth 100000 in
set_option maxHeartbeats 4000000 in
theorem setClasses_any (l : List At2) (hl : l.length ≤ 900) (X : ByteArray) (hX : AscT X.data.toList) (hXs : X.size ≤ 2147483647) (g ab cap : Nat) (cur : Array Value) (w : World) (hB : ElB (clL l) g ab cap cur w) :
    Calls Try.prog 33 #[.pointer (some ⟨g, 0, none⟩), .pointer (some ⟨ab, idxA (clL l) clA * 3, none⟩), .string X] w fun e w' => e = .returned (.tuple #[]) ∧ ElA (tgA l X.data.toList) g w' ∧ Below g w w' := by
  have HTr := Lib.hid (trimA_any X hX hXs w)
  have hg : g < w.heap.size := (Array.getElem?_eq_some_iff.1 hB.blk).1
  obtain ⟨hc1, hc2, -⟩ := clL_idx l
  have HC1 := Lib.hid hc1
  have HB := Lib.hid hB
  have HRm : Hid (∀ W, Below w.heap.size w W → Calls Try.prog 43 #[.pointer (some ⟨g, 0, none⟩), .string clA] W (RmPost (rmA (clL l) clA) g W)) := fun W hb => removeAttr_any (clL l) (by omega) clA g W (hB.below hb).el
  obtain ⟨V, hV⟩ : ∃ V : ByteArray, V = ⟨(Lib.trimSpace X.data.toList).toArray⟩ := ⟨_, rfl⟩
  rw [← hV] at HTr
  have HV := Lib.hid hV
  have hvl : V.toList = Lib.trimSpace X.data.toList := by rw [ByteArray.toList_eq, hV]
  have HVl := Lib.hid hvl
  obtain ⟨ix, hix⟩ : ∃ ix, ix = idxA (clL l) clA := ⟨_, rfl⟩
  have HIx := Lib.hid hix
  rw [← hix]
  clear hB hc1 hV hvl hX hix hc2
  go_enter Try.func33, Try.ntmps33
  go_wp2_with fail
  refine HTr.out.mono ?_
  rintro e w1 ⟨rfl, hb1⟩
  have HB1 := Lib.hid hb1
  clear hb1
  cases he : V.toList.isEmpty
  · have hne : ¬ Lib.trimSpace X.data.toList = [] := fun e => by rw [HVl.out, e] at he; cases he
    have hB1 := HB.out.below HB1.out
    obtain ⟨p0, p1, p2⟩ := hB1.cell HC1.out
    have f2 : w1.frozen? ⟨ab, idxA (clL l) clA * 3 + 2, none⟩ = false := frozen_of_row w1 ab _ _ _ hB1.row
    have HF : Hid (ElA (tgA l X.data.toList) g (w1.setCell ⟨ab, ix * 3 + 2, none⟩ (.string V)) ∧ Below g w (w1.setCell ⟨ab, ix * 3 + 2, none⟩ (.string V))) := by
      refine ⟨?_, (HB1.out.mono (Nat.le_of_lt hg)).setCell (by show g ≤ ab; have := hB1.base; omega) _⟩
      rw [tgA, if_neg hne, ← clL_set, setA_old HC1.out, HIx.out, ← HV.out]
      exact set_world hB1 HC1.out V
    generalize (clL l)[idxA (clL l) clA].val = OV at p2
    rw [← HIx.out] at p2 f2
    clear hne hB1 p0 p1
    go_wp2_with fail
    go_end0
    exact ⟨rfl, HF.out⟩
  · have hye : Lib.trimSpace X.data.toList = [] := by rw [← HVl.out]; simpa using he
    have HR1 := Lib.hid (HRm.out w1 HB1.out)
    have HT : Hid (tgA l X.data.toList = rmA (clL l) clA) := by rw [Hid, tgA, if_pos hye]
    clear hye
    go_wp2_with fail
    refine HR1.out.mono ?_
    rintro e w2 ⟨rfl, hE, hb2⟩
    have HE := Lib.hid hE
    have HB2 := Lib.hid hb2
    clear hE hb2
    go_wp2_with fail
    refine bodyPost_ret (results_none rfl _ _ _) rfl ?_
    exact ⟨rfl, by rw [HT.out]; exact HE.out, (HB1.out.mono (Nat.le_of_lt hg)).trans HB2.out⟩
end Go.Proofs.Ytjebadadimejpaa

namespace Go.Proofs.Ytjebadadimejpaa
open Go.RowKit
set_option linter.unusedVariables false

def bts (x : ByteArray) : List UInt8 := x.data.toList
theorem ElA.below {l : List At2} {g : Nat} {w w' : World} (h : ElA l g w) (hb : Below w.heap.size w w') : ElA l g w' := by
  obtain ⟨aa, ac, h1, h2⟩ := h
  exact ⟨aa, ac, (hb.block _ (Array.getElem?_eq_some_iff.1 h1).1).trans h1, own_kept h2 (fun b _ h3 => hb.block b h3)⟩
theorem rsl_strs {w w' : World} {a : Option Addr} {c n : Nat} {l : List (List UInt8)} {B : Nat} (h : w.ownsRow B 9 1 (.slice a n c) n (strs l)) {g : Nat} (hk : Lib.OthersKept 56 (some g) w w') (hg : ∃ cs, w.heap[g]? = some (.cells cs 54 (0, 0))) (i : Nat) (hi : i < l.length) : ∃ b, a = some ⟨b, 0, none⟩ ∧ b < w'.heap.size ∧ w'.cell? ⟨b, i, none⟩ = some (.string ⟨l[i].toArray⟩) := by
  have hn : l.length = n := by have := h.1; rw [strs_length] at this; omega
  rcases h.2 with ⟨_, h0⟩ | ⟨g', cap, cur, hv, _, hh, _⟩
  · omega
  · cases hv
    have hne : some g' ≠ some g := fun e => by
      cases e
      obtain ⟨cs, hc⟩ := hg
      rw [hh] at hc; simp at hc
    have hh2 := hk g' _ hh hne (fun c fz e => by simp at e)
    refine ⟨g', rfl, (Array.getElem?_eq_some_iff.1 hh2).1, ?_⟩
    have hc := h.cells (g := g') rfl i (.string ⟨l[i].toArray⟩) (by rw [List.getElem?_eq_getElem (by rw [strs_length]; exact hi), strs_at hi])
    rw [Addr.add_lit, Nat.zero_add] at hc
    rw [World.cell?_of_block (a := ⟨g', i, none⟩) (hh2.trans hh.symm)]
    exact hc
theorem blkB_size (x : ByteArray) : ((⟨#[32]⟩ : ByteArray) ++ x ++ (⟨#[32]⟩ : ByteArray)).size = x.size + 2 := by
  rw [ByteArray.size_append, ByteArray.size_append]
  show 1 + x.size + 1 = _
  omega
theorem blkB_bytes (x : ByteArray) : ((⟨#[32]⟩ : ByteArray) ++ x ++ (⟨#[32]⟩ : ByteArray)).data.toList = blk x.data.toList := by
  simp [blk]

set_option maxRecDepth 100000 in
set_option maxHeartbeats 1000000 in
theorem slice_of (T : ByteArray) (l : List (List UInt8)) (W : World) (h : Calls Try.prog 39 #[.string T] W (StrsPost l W)) : Calls Try.prog 29 #[.string T] W (StrsPost l W) := by
  have H1 := Lib.hid h
  clear h
  go_enter Try.func29, Try.ntmps29
  go_wp2_with fail
  refine H1.out.mono ?_
  rintro e w2 ⟨a, c, rfl, h1, h2⟩
  have HH1 := Lib.hid h1
  have HH2 := Lib.hid h2
  clear h1 h2
  go_wp2_with fail
  go_ret
  exact ⟨a, c, rfl, HH1.out, HH2.out⟩

set_option maxRecDepth 100000 in
set_option maxHeartbeats 8000000 in
theorem cls_ToggleClass (xs : List ByteArray) (hxs : xs ≠ []) (hN : ∀ x ∈ xs, NmT (bts x) ∧ x.size ≤ 1000) (hxl : xs.length ≤ 1000) (l : List At2) (hl : l.length ≤ 900) (hv : (clV l).size ≤ 100000000) (hVA : AscT (bts (clX l))) (hXs : (clX l).size ≤ 100000002) (bk o c : Nat) (hc : xs.length ≤ c) (w : World)
    (hcells : ∀ (j : Nat) x, xs[j]? = some x → w.cell? ⟨bk, o + j, none⟩ = some (.string x)) (hbk : bk < w.heap.size) (g gs : Nat) (h : ElA l g w) (hs : SelOne g gs w) :
    Calls Try.prog 22 #[.pointer (some ⟨gs, 0, none⟩), .slice (some ⟨bk, o, none⟩) xs.length c] w fun e w' => e = .returned (.pointer (some ⟨gs, 0, none⟩)) ∧ ElA (tgA l (stAll true (bts (clX l)) (xs.map bts))) g w' ∧ Below g w w' := by
  have hN2 : ∀ y ∈ xs.map bts, NmT y ∧ y.length ≤ 1000 := fun y hy => by
    obtain ⟨x, hx, rfl⟩ := List.mem_map.1 hy
    exact hN x hx
  obtain ⟨J, hJ⟩ : ∃ J : ByteArray, J = ⟨(Lib.join (xs.map bts) [32]).toArray⟩ := ⟨_, rfl⟩
  have hJb : J.data.toList = Lib.join (xs.map bts) [32] := by rw [hJ]
  have hJl : J.size ≤ 1001000 := by
    have h1 := join_len (m := 1000) (xs.map bts) (fun y hy => (hN2 y hy).2)
    rw [List.length_map] at h1
    have h2 : J.size = J.data.toList.length := rfl
    rw [h2, hJb]
    have : xs.length * (1000 + 1) ≤ 1000 * (1000 + 1) := Nat.mul_le_mul_right _ hxl
    omega
  have hJA : AscT J.data.toList := by rw [hJb]; exact join_asc fun y hy => (hN2 y hy).1
  have hJw : words J.data.toList = xs.map bts := by rw [hJb]; exact join_words _ fun y hy => (hN2 y hy).1.cn
  obtain ⟨T, hT⟩ : ∃ T : ByteArray, T = ⟨(Lib.trimSpace J.data.toList).toArray⟩ := ⟨_, rfl⟩
  have hTb : T.data.toList = Lib.trimSpace J.data.toList := by rw [hT]
  have hTA : AscT T.data.toList := by rw [hTb]; exact asc_sub hJA (trim_sub _)
  have hTw : words T.data.toList = xs.map bts := by rw [hTb, trim_asc hJA, hJw]
  have hTl : T.size ≤ 1001000 := by
    have h2 : T.size = T.data.toList.length := rfl
    have := trim_len J.data.toList
    have h3 : J.size = J.data.toList.length := rfl
    rw [h2, hTb]; omega
  have hTe : T.toList.isEmpty = false := by
    cases e : T.toList.isEmpty
    · rfl
    · rw [ByteArray.toList_eq, hTb, List.isEmpty_iff, trim_words hJA, hJw, List.map_eq_nil_iff] at e
      exact absurd e hxs
  have hJoin : Calls Try.prog 28 #[.slice (some ⟨bk, o, none⟩) xs.length c, .string ⟨#[32]⟩] w fun e w' => e = .returned (.string J) ∧ Below w.heap.size w w' := by
    have := Try.strings_Join bk o c xs ⟨#[32]⟩ w hcells hbk (by omega) hc (by
      have h2 : J.size = J.data.toList.length := rfl
      rw [hJb] at h2
      show (Lib.join (xs.map bts) [32]).length ≤ _
      omega)
    rw [hJ]; exact this
  have HJn := Lib.hid hJoin
  have HTr : Hid (∀ W, Calls Try.prog 27 #[.string J] W fun e w' => e = .returned (.string T) ∧ Below W.heap.size W w') := fun W => by rw [hT]; exact trimA_any J hJA (by omega) W
  have HFl : Hid (∀ W, Calls Try.prog 39 #[.string T] W (StrsPost (xs.map bts) W)) := fun W => by rw [← hTw]; exact fieldsA_any T hTA (by omega) W
  have HGs : Hid (∀ W, Calls Try.prog 29 #[.string T] W (StrsPost (xs.map bts) W)) := fun W => slice_of T (xs.map bts) W (HFl.out W)
  have hel2 := h
  obtain ⟨aa, ac, hblk, hown⟩ := hel2
  have hg : g < w.heap.size := (Array.getElem?_eq_some_iff.1 hblk).1
  have HGc : Hid (∀ W, Below w.heap.size w W → Calls Try.prog 30 #[.pointer (some ⟨g, 0, none⟩)] W fun e w' => ∃ ab cap cur, e = .returned (.tuple #[.string (clX l), .pointer (some ⟨ab, idxA (clL l) clA * 3, none⟩)]) ∧ ElB (clL l) g ab cap cur w' ∧ Below g W w' ∧ Lib.OthersKept 56 (some g) W w') := fun W hb => classesAttr_any l hl (by omega) g W (h.below hb)
  have HBk : Hid (∀ W, Below w.heap.size w W → ∃ cs, W.heap[g]? = some (.cells cs 54 (0, 0))) := fun W hb => ⟨_, (hb.block _ hg).trans hblk⟩
  obtain ⟨r, hs1, hr⟩ := hs
  have HSl : Hid (∀ W, Below w.heap.size w W → W.cell? ⟨gs, 0, none⟩ = some (.slice (some ⟨r, 0, none⟩) 1 1) ∧ W.cell? ⟨r, 0, none⟩ = some (.pointer (some ⟨g, 0, none⟩))) := fun W hb =>
    ⟨cell_of_row W gs 0 _ _ _ ((hb.block _ (Array.getElem?_eq_some_iff.1 hs1).1).trans hs1), cell_of_row W r 0 _ _ _ ((hb.block _ (Array.getElem?_eq_some_iff.1 hr).1).trans hr)⟩
  have hxpos : 0 < xs.length := List.length_pos_iff.2 hxs
  have HSc : Hid (∀ X : ByteArray, AscT X.data.toList → X.size ≤ 2147483647 → ∀ ab cap cur W, ElB (clL l) g ab cap cur W → Calls Try.prog 33 #[.pointer (some ⟨g, 0, none⟩), .pointer (some ⟨ab, idxA (clL l) clA * 3, none⟩), .string X] W fun e w' => e = .returned (.tuple #[]) ∧ ElA (tgA l X.data.toList) g w' ∧ Below g W w') := fun X h1 h2 ab cap cur W h3 => setClasses_any l hl X h1 h2 g ab cap cur W h3
  have HN := Lib.hid hN
  have HVA := Lib.hid hVA
  have HXl := Lib.hid hXs
  have HStA : Hid (∀ k, AscT (stAll true (bts (clX l)) ((xs.map bts).take k)) ∧ (stAll true (bts (clX l)) ((xs.map bts).take k)).length ≤ 100000002 + k * 1001) := fun k => by
    refine ⟨stAll_asc hVA fun y hy => ((hN2 y (List.mem_of_mem_take hy)).1).asc, ?_⟩
    have h1 := stAll_len (how := true) (m := 1000) (ns := (xs.map bts).take k) (X := bts (clX l)) fun y hy => (hN2 y (List.mem_of_mem_take hy)).2
    have h2 : (bts (clX l)).length = (clX l).size := rfl
    have h3 : ((xs.map bts).take k).length * (1000 + 1) ≤ k * (1000 + 1) := Nat.mul_le_mul_right _ (by rw [List.length_take]; omega)
    omega
  clear hJoin hcells h hs1 hr hblk hown hN hN2 hVA hXs hJA hJw hTA hTw hTb hJb hT hJ hv
  go_enter Try.func22, Try.ntmps22
  go_wp2_with fail
  refine HJn.out.mono ?_
  rintro e w1 ⟨rfl, hb1⟩
  have HB1 := Lib.hid hb1
  have HTr1 := Lib.hid (HTr.out w1)
  clear hb1
  go_wp2_with fail
  refine HTr1.out.mono ?_
  rintro e w2 ⟨rfl, hb2⟩
  have HB2 := Lib.hid (bnext HB1.out hb2)
  have HGs2 := Lib.hid (HGs.out w2)
  clear hb2
  go_wp2_with fail
  refine HGs2.out.mono ?_
  rintro e w3 ⟨at_, ct, rfl, hown3, hb3⟩
  have HB3 := Lib.hid (bnext HB2.out hb3)
  have HO3 := Lib.hid hown3
  clear hb3 hown3
  obtain ⟨z0, z1⟩ := HSl.out w3 HB3.out
  have HGc3 := Lib.hid (HGc.out w3 HB3.out)
  have HBg : Hid (Below g w w3) := HB3.out.mono (Nat.le_of_lt hg)
  go_wp2_with fail
  go_loopw [27] (fun v wr => (v = .int .i64 0 ∧ wr = w3) ∨ (v = .int .i64 1 ∧ Hid (ElA (tgA l (stAll true (bts (clX l)) (xs.map bts))) g wr ∧ Below g w wr))) (fun v _ => 1 - (intOf v).toNat)
  case atStart => exact .inl ⟨rfl, rfl⟩
  case round =>
    rcases hrel with ⟨rfl, hwr⟩ | ⟨rfl, hfin⟩
    case inr =>
      clear z0 z1
      go_wp2_with fail
      go_ret
      exact ⟨rfl, hfin.out⟩
    have hwe := hwr.symm
    subst hwe
    go_wp2_with fail
    refine HGc3.out.mono ?_
    rintro e w4 ⟨ab, cap, cur, rfl, hB4, hbg4, hok4⟩
    have HEB := Lib.hid hB4
    have HBg4 := Lib.hid (HBg.out.trans hbg4)
    have HOk := Lib.hid hok4
    obtain ⟨ix, hix⟩ : ∃ ix, ix = idxA (clL l) clA * 3 := ⟨_, rfl⟩
    rw [← hix]
    have HIx := Lib.hid hix
    have HRow : Hid (∀ i, (hi : i < (xs.map bts).length) → ∃ b, at_ = some ⟨b, 0, none⟩ ∧ b < w4.heap.size ∧ w4.cell? ⟨b, i, none⟩ = some (.string ⟨(xs.map bts)[i].toArray⟩)) := fun i hi => rsl_strs HO3.out hok4 (HBk.out w3 HB3.out) i hi
    have hXA0 : stAll true (bts (clX l)) ((xs.map bts).take 0) = (clX l).data.toList := rfl
    have HX0 := Lib.hid hXA0
    have hlm : (xs.map bts).length = xs.length := List.length_map _
    have HLm := Lib.hid hlm
    try rw [hlm]
    clear hB4 hbg4 hok4 z0 z1 hix hXA0 hlm
    go_wp2_with fail
    go_loopw [9, 38] (fun xv v wr => ∃ (k : Nat) (X : ByteArray), k ≤ xs.length ∧ v = .int .i64 k ∧ xv = .string X ∧ Hid (X.data.toList = stAll true (bts (clX l)) ((xs.map bts).take k)) ∧ Hid (Below w4.heap.size w4 wr)) (fun _ v _ => xs.length - (intOf v).toNat)
    case atStart => exact ⟨0, clX l, by omega, rfl, rfl, HX0.out.symm, Below.refl _ _⟩
    case round =>
      obtain ⟨k, X, hk, rfl, rfl, hXk, hbk4⟩ := hrel
      obtain ⟨hA1, hA2⟩ := HStA.out k
      have hXz : X.size ≤ 100000002 + 1001000 := by
        have h2 : X.size = X.data.toList.length := rfl
        rw [h2, hXk.out]
        have : k * 1001 ≤ 1000 * 1001 := Nat.mul_le_mul_right _ (by omega)
        omega
      by_cases hlt : k < xs.length
      · have hk2 : k < (xs.map bts).length := by rw [HLm.out]; exact hlt
        obtain ⟨b, hab, hbl, hcell⟩ := HRow.out k hk2
        cases hab
        have hcell2 := (hbk4.out.cell (p := ⟨b, k, none⟩) hbl).trans hcell
        obtain ⟨y, hy⟩ : ∃ y : ByteArray, y = xs[k] := ⟨_, rfl⟩
        have hyb : (⟨((xs.map bts)[k]'hk2).toArray⟩ : ByteArray) = y := by rw [hy]; simp [bts]
        rw [hyb] at hcell2
        obtain ⟨hyn, hys⟩ := HN.out y (by rw [hy]; exact List.getElem_mem hlt)
        have hsnoc : (xs.map bts).take (k + 1) = (xs.map bts).take k ++ [bts y] := by
          rw [List.take_succ_eq_append_getElem hk2]; simp [hy]
        have HNx : Hid (∀ Z : ByteArray, Z.data.toList = stX true X.data.toList (bts y) → Z.data.toList = stAll true (bts (clX l)) ((xs.map bts).take (k + 1))) := fun Z hZ => by
          rw [hsnoc, stAll_snoc, ← hXk.out]; exact hZ
        have HCon : Hid (∀ W, Calls Try.prog 31 #[.string X, .string ((⟨#[32]⟩ : ByteArray) ++ y ++ (⟨#[32]⟩ : ByteArray))] W fun e w' => e = .returned (.bool (Lib.contains X.data.toList (blk (bts y)))) ∧ W = w') := fun W => by
          have := zzCon_g X ((⟨#[32]⟩ : ByteArray) ++ y ++ (⟨#[32]⟩ : ByteArray)) (by omega) (by rw [blkB_size]; omega) W
          rw [blkB_bytes] at this
          exact this
        have HBw := Lib.hid hbk4.out
        have HCw := Lib.hid (HCon.out wr)
        cases hct : Lib.contains X.data.toList (blk (bts y))
        · rw [hct] at HCw
          have HZ : Hid ((X ++ (y ++ (⟨#[32]⟩ : ByteArray))).data.toList = stAll true (bts (clX l)) ((xs.map bts).take (k + 1))) := HNx.out _ (by
            have e : stX true X.data.toList (bts y) = X.data.toList ++ bts y ++ [32] := by simp only [stX, togX, hct, if_true, Bool.false_eq_true, if_false]
            rw [e]; simp [bts])
          clear hA1 hA2 hXk hbk4 hcell hyb hyn hsnoc hct hy
          go_wp2_with fail
          refine HCw.out.mono ?_
          rintro e w5 ⟨rfl, rfl⟩
          go_wp2_with fail
          go_roundw
          case rel => exact ⟨k + 1, _, hlt, by go_num, rfl, HZ.out, HBw.out⟩
          case measure => simp [intOf]; omega
        · rw [hct] at HCw
          have hXne : X.data.toList ≠ [] := fun e => by
            rw [e] at hct
            obtain ⟨A, B, e2⟩ := (contains_iff _ _).1 hct
            have := congrArg List.length e2
            simp [blk] at this
          have HRp : Hid (∀ W, Calls Try.prog 32 #[.string X, .string ((⟨#[32]⟩ : ByteArray) ++ y ++ (⟨#[32]⟩ : ByteArray)), .string ⟨#[32]⟩] W fun e w' => e = .returned (.string ⟨(stX true X.data.toList (bts y)).toArray⟩) ∧ Below W.heap.size W w') := fun W => by
            have := replaceAll_any X ((⟨#[32]⟩ : ByteArray) ++ y ++ (⟨#[32]⟩ : ByteArray)) ⟨#[32]⟩ (by omega) (by rw [blkB_size]; omega) (by rw [blkB_size]; omega) (by rw [blkB_size]; show 1 ≤ _; omega) hXne (by simp) W
            rw [blkB_bytes] at this
            have e : stX true X.data.toList (bts y) = repl (blk (bts y)) [32] (X.size + 1) X.data.toList := by
              simp only [stX, if_true, togX, hct]; rfl
            rw [e]; exact this
          have HRw := Lib.hid (HRp.out wr)
          have HZ : Hid ((⟨(stX true X.data.toList (bts y)).toArray⟩ : ByteArray).data.toList = stAll true (bts (clX l)) ((xs.map bts).take (k + 1))) := HNx.out _ (by simp)
          clear hA1 hA2 hXk hbk4 hcell hyb hyn hsnoc hct hy hXne
          go_wp2_with fail
          refine HCw.out.mono ?_
          rintro e w5 ⟨rfl, rfl⟩
          go_wp2_with fail
          refine HRw.out.mono ?_
          rintro e w5 ⟨rfl, hb5⟩
          have HB5 := Lib.hid (bnext HBw.out hb5)
          clear hb5
          go_wp2_with fail
          go_roundw
          case rel => exact ⟨k + 1, _, hlt, by go_num, rfl, HZ.out, HB5.out⟩
          case measure => simp [intOf]; omega
      · have ek : k = xs.length := by omega
        subst ek
        have hft : (xs.map bts).take xs.length = xs.map bts := List.take_of_length_le (by rw [HLm.out]; omega)
        rw [hft] at hA1
        have hXf := hXk.out
        rw [hft] at hXf
        have HScl := Lib.hid (HSc.out X (by rw [hXf]; exact hA1) (by omega) ab cap cur wr (HEB.out.below hbk4.out))
        rw [hXf, ← HIx.out] at HScl
        have HBf : Hid (Below g w wr) := HBg4.out.trans (hbk4.out.mono (by have := (Array.getElem?_eq_some_iff.1 HEB.out.blk).1; omega))
        clear hXk hbk4 hA1 hA2 hft hXf
        go_wp2_with fail
        refine HScl.out.mono ?_
        rintro e w6 ⟨rfl, hE6, hb6⟩
        have HF6 : Hid (ElA (tgA l (stAll true (bts (clX l)) (xs.map bts))) g w6 ∧ Below g w w6) := ⟨hE6, HBf.out.trans hb6⟩
        clear hE6 hb6
        go_wp2_with fail
        go_roundw
        case rel => exact .inr ⟨by go_num, HF6⟩
        case measure => simp [intOf]

set_option maxRecDepth 100000 in
set_option maxHeartbeats 8000000 in
theorem cls_AddClass (xs : List ByteArray) (hxs : xs ≠ []) (hN : ∀ x ∈ xs, NmT (bts x) ∧ x.size ≤ 1000) (hxl : xs.length ≤ 1000) (l : List At2) (hl : l.length ≤ 900) (hv : (clV l).size ≤ 100000000) (hVA : AscT (bts (clX l))) (hXs : (clX l).size ≤ 100000002) (bk o c : Nat) (hc : xs.length ≤ c) (w : World)
    (hcells : ∀ (j : Nat) x, xs[j]? = some x → w.cell? ⟨bk, o + j, none⟩ = some (.string x)) (hbk : bk < w.heap.size) (g gs : Nat) (h : ElA l g w) (hs : SelOne g gs w) :
    Calls Try.prog 24 #[.pointer (some ⟨gs, 0, none⟩), .slice (some ⟨bk, o, none⟩) xs.length c] w fun e w' => e = .returned (.pointer (some ⟨gs, 0, none⟩)) ∧ ElA (tgA l (stAll false (bts (clX l)) (xs.map bts))) g w' ∧ Below g w w' := by
  have hN2 : ∀ y ∈ xs.map bts, NmT y ∧ y.length ≤ 1000 := fun y hy => by
    obtain ⟨x, hx, rfl⟩ := List.mem_map.1 hy
    exact hN x hx
  obtain ⟨J, hJ⟩ : ∃ J : ByteArray, J = ⟨(Lib.join (xs.map bts) [32]).toArray⟩ := ⟨_, rfl⟩
  have hJb : J.data.toList = Lib.join (xs.map bts) [32] := by rw [hJ]
  have hJl : J.size ≤ 1001000 := by
    have h1 := join_len (m := 1000) (xs.map bts) (fun y hy => (hN2 y hy).2)
    rw [List.length_map] at h1
    have h2 : J.size = J.data.toList.length := rfl
    rw [h2, hJb]
    have : xs.length * (1000 + 1) ≤ 1000 * (1000 + 1) := Nat.mul_le_mul_right _ hxl
    omega
  have hJA : AscT J.data.toList := by rw [hJb]; exact join_asc fun y hy => (hN2 y hy).1
  have hJw : words J.data.toList = xs.map bts := by rw [hJb]; exact join_words _ fun y hy => (hN2 y hy).1.cn
  obtain ⟨T, hT⟩ : ∃ T : ByteArray, T = ⟨(Lib.trimSpace J.data.toList).toArray⟩ := ⟨_, rfl⟩
  have hTb : T.data.toList = Lib.trimSpace J.data.toList := by rw [hT]
  have hTA : AscT T.data.toList := by rw [hTb]; exact asc_sub hJA (trim_sub _)
  have hTw : words T.data.toList = xs.map bts := by rw [hTb, trim_asc hJA, hJw]
  have hTl : T.size ≤ 1001000 := by
    have h2 : T.size = T.data.toList.length := rfl
    have := trim_len J.data.toList
    have h3 : J.size = J.data.toList.length := rfl
    rw [h2, hTb]; omega
  have hTe : T.toList.isEmpty = false := by
    cases e : T.toList.isEmpty
    · rfl
    · rw [ByteArray.toList_eq, hTb, List.isEmpty_iff, trim_words hJA, hJw, List.map_eq_nil_iff] at e
      exact absurd e hxs
  have hJoin : Calls Try.prog 28 #[.slice (some ⟨bk, o, none⟩) xs.length c, .string ⟨#[32]⟩] w fun e w' => e = .returned (.string J) ∧ Below w.heap.size w w' := by
    have := Try.strings_Join bk o c xs ⟨#[32]⟩ w hcells hbk (by omega) hc (by
      have h2 : J.size = J.data.toList.length := rfl
      rw [hJb] at h2
      show (Lib.join (xs.map bts) [32]).length ≤ _
      omega)
    rw [hJ]; exact this
  have HJn := Lib.hid hJoin
  have HTr : Hid (∀ W, Calls Try.prog 27 #[.string J] W fun e w' => e = .returned (.string T) ∧ Below W.heap.size W w') := fun W => by rw [hT]; exact trimA_any J hJA (by omega) W
  have HFl : Hid (∀ W, Calls Try.prog 39 #[.string T] W (StrsPost (xs.map bts) W)) := fun W => by rw [← hTw]; exact fieldsA_any T hTA (by omega) W
  have HGs : Hid (∀ W, Calls Try.prog 29 #[.string T] W (StrsPost (xs.map bts) W)) := fun W => slice_of T (xs.map bts) W (HFl.out W)
  have hel2 := h
  obtain ⟨aa, ac, hblk, hown⟩ := hel2
  have hg : g < w.heap.size := (Array.getElem?_eq_some_iff.1 hblk).1
  have HGc : Hid (∀ W, Below w.heap.size w W → Calls Try.prog 30 #[.pointer (some ⟨g, 0, none⟩)] W fun e w' => ∃ ab cap cur, e = .returned (.tuple #[.string (clX l), .pointer (some ⟨ab, idxA (clL l) clA * 3, none⟩)]) ∧ ElB (clL l) g ab cap cur w' ∧ Below g W w' ∧ Lib.OthersKept 56 (some g) W w') := fun W hb => classesAttr_any l hl (by omega) g W (h.below hb)
  have HBk : Hid (∀ W, Below w.heap.size w W → ∃ cs, W.heap[g]? = some (.cells cs 54 (0, 0))) := fun W hb => ⟨_, (hb.block _ hg).trans hblk⟩
  obtain ⟨r, hs1, hr⟩ := hs
  have HSl : Hid (∀ W, Below w.heap.size w W → W.cell? ⟨gs, 0, none⟩ = some (.slice (some ⟨r, 0, none⟩) 1 1) ∧ W.cell? ⟨r, 0, none⟩ = some (.pointer (some ⟨g, 0, none⟩))) := fun W hb =>
    ⟨cell_of_row W gs 0 _ _ _ ((hb.block _ (Array.getElem?_eq_some_iff.1 hs1).1).trans hs1), cell_of_row W r 0 _ _ _ ((hb.block _ (Array.getElem?_eq_some_iff.1 hr).1).trans hr)⟩
  have hxpos : 0 < xs.length := List.length_pos_iff.2 hxs
  have HSc : Hid (∀ X : ByteArray, AscT X.data.toList → X.size ≤ 2147483647 → ∀ ab cap cur W, ElB (clL l) g ab cap cur W → Calls Try.prog 33 #[.pointer (some ⟨g, 0, none⟩), .pointer (some ⟨ab, idxA (clL l) clA * 3, none⟩), .string X] W fun e w' => e = .returned (.tuple #[]) ∧ ElA (tgA l X.data.toList) g w' ∧ Below g W w') := fun X h1 h2 ab cap cur W h3 => setClasses_any l hl X h1 h2 g ab cap cur W h3
  have HN := Lib.hid hN
  have HVA := Lib.hid hVA
  have HXl := Lib.hid hXs
  have HStA : Hid (∀ k, AscT (stAll false (bts (clX l)) ((xs.map bts).take k)) ∧ (stAll false (bts (clX l)) ((xs.map bts).take k)).length ≤ 100000002 + k * 1001) := fun k => by
    refine ⟨stAll_asc hVA fun y hy => ((hN2 y (List.mem_of_mem_take hy)).1).asc, ?_⟩
    have h1 := stAll_len (how := false) (m := 1000) (ns := (xs.map bts).take k) (X := bts (clX l)) fun y hy => (hN2 y (List.mem_of_mem_take hy)).2
    have h2 : (bts (clX l)).length = (clX l).size := rfl
    have h3 : ((xs.map bts).take k).length * (1000 + 1) ≤ k * (1000 + 1) := Nat.mul_le_mul_right _ (by rw [List.length_take]; omega)
    omega
  clear hJoin hcells h hs1 hr hblk hown hN hN2 hVA hXs hJA hJw hTA hTw hTb hJb hT hJ hv
  go_enter Try.func24, Try.ntmps24
  go_wp2_with fail
  refine HJn.out.mono ?_
  rintro e w1 ⟨rfl, hb1⟩
  have HB1 := Lib.hid hb1
  have HTr1 := Lib.hid (HTr.out w1)
  clear hb1
  go_wp2_with fail
  refine HTr1.out.mono ?_
  rintro e w2 ⟨rfl, hb2⟩
  have HB2 := Lib.hid (bnext HB1.out hb2)
  have HGs2 := Lib.hid (HGs.out w2)
  clear hb2
  go_wp2_with fail
  refine HGs2.out.mono ?_
  rintro e w3 ⟨at_, ct, rfl, hown3, hb3⟩
  have HB3 := Lib.hid (bnext HB2.out hb3)
  have HO3 := Lib.hid hown3
  clear hb3 hown3
  obtain ⟨z0, z1⟩ := HSl.out w3 HB3.out
  have HGc3 := Lib.hid (HGc.out w3 HB3.out)
  have HBg : Hid (Below g w w3) := HB3.out.mono (Nat.le_of_lt hg)
  go_wp2_with fail
  go_loopw [26] (fun v wr => (v = .int .i64 0 ∧ wr = w3) ∨ (v = .int .i64 1 ∧ Hid (ElA (tgA l (stAll false (bts (clX l)) (xs.map bts))) g wr ∧ Below g w wr))) (fun v _ => 1 - (intOf v).toNat)
  case atStart => exact .inl ⟨rfl, rfl⟩
  case round =>
    rcases hrel with ⟨rfl, hwr⟩ | ⟨rfl, hfin⟩
    case inr =>
      clear z0 z1
      go_wp2_with fail
      go_ret
      exact ⟨rfl, hfin.out⟩
    have hwe := hwr.symm
    subst hwe
    go_wp2_with fail
    refine HGc3.out.mono ?_
    rintro e w4 ⟨ab, cap, cur, rfl, hB4, hbg4, hok4⟩
    have HEB := Lib.hid hB4
    have HBg4 := Lib.hid (HBg.out.trans hbg4)
    have HOk := Lib.hid hok4
    obtain ⟨ix, hix⟩ : ∃ ix, ix = idxA (clL l) clA * 3 := ⟨_, rfl⟩
    rw [← hix]
    have HIx := Lib.hid hix
    have HRow : Hid (∀ i, (hi : i < (xs.map bts).length) → ∃ b, at_ = some ⟨b, 0, none⟩ ∧ b < w4.heap.size ∧ w4.cell? ⟨b, i, none⟩ = some (.string ⟨(xs.map bts)[i].toArray⟩)) := fun i hi => rsl_strs HO3.out hok4 (HBk.out w3 HB3.out) i hi
    have hXA0 : stAll false (bts (clX l)) ((xs.map bts).take 0) = (clX l).data.toList := rfl
    have HX0 := Lib.hid hXA0
    have hlm : (xs.map bts).length = xs.length := List.length_map _
    have HLm := Lib.hid hlm
    try rw [hlm]
    clear hB4 hbg4 hok4 z0 z1 hix hXA0 hlm
    go_wp2_with fail
    go_loopw [9, 37] (fun xv v wr => ∃ (k : Nat) (X : ByteArray), k ≤ xs.length ∧ v = .int .i64 k ∧ xv = .string X ∧ Hid (X.data.toList = stAll false (bts (clX l)) ((xs.map bts).take k)) ∧ Hid (Below w4.heap.size w4 wr)) (fun _ v _ => xs.length - (intOf v).toNat)
    case atStart => exact ⟨0, clX l, by omega, rfl, rfl, HX0.out.symm, Below.refl _ _⟩
    case round =>
      obtain ⟨k, X, hk, rfl, rfl, hXk, hbk4⟩ := hrel
      obtain ⟨hA1, hA2⟩ := HStA.out k
      have hXz : X.size ≤ 100000002 + 1001000 := by
        have h2 : X.size = X.data.toList.length := rfl
        rw [h2, hXk.out]
        have : k * 1001 ≤ 1000 * 1001 := Nat.mul_le_mul_right _ (by omega)
        omega
      by_cases hlt : k < xs.length
      · have hk2 : k < (xs.map bts).length := by rw [HLm.out]; exact hlt
        obtain ⟨b, hab, hbl, hcell⟩ := HRow.out k hk2
        cases hab
        have hcell2 := (hbk4.out.cell (p := ⟨b, k, none⟩) hbl).trans hcell
        obtain ⟨y, hy⟩ : ∃ y : ByteArray, y = xs[k] := ⟨_, rfl⟩
        have hyb : (⟨((xs.map bts)[k]'hk2).toArray⟩ : ByteArray) = y := by rw [hy]; simp [bts]
        rw [hyb] at hcell2
        obtain ⟨hyn, hys⟩ := HN.out y (by rw [hy]; exact List.getElem_mem hlt)
        have hsnoc : (xs.map bts).take (k + 1) = (xs.map bts).take k ++ [bts y] := by
          rw [List.take_succ_eq_append_getElem hk2]; simp [hy]
        have HNx : Hid (∀ Z : ByteArray, Z.data.toList = stX false X.data.toList (bts y) → Z.data.toList = stAll false (bts (clX l)) ((xs.map bts).take (k + 1))) := fun Z hZ => by
          rw [hsnoc, stAll_snoc, ← hXk.out]; exact hZ
        have HCon : Hid (∀ W, Calls Try.prog 31 #[.string X, .string ((⟨#[32]⟩ : ByteArray) ++ y ++ (⟨#[32]⟩ : ByteArray))] W fun e w' => e = .returned (.bool (Lib.contains X.data.toList (blk (bts y)))) ∧ W = w') := fun W => by
          have := zzCon_g X ((⟨#[32]⟩ : ByteArray) ++ y ++ (⟨#[32]⟩ : ByteArray)) (by omega) (by rw [blkB_size]; omega) W
          rw [blkB_bytes] at this
          exact this
        have HBw := Lib.hid hbk4.out
        have HCw := Lib.hid (HCon.out wr)
        cases hct : Lib.contains X.data.toList (blk (bts y))
        · rw [hct] at HCw
          have HZ : Hid ((X ++ (y ++ (⟨#[32]⟩ : ByteArray))).data.toList = stAll false (bts (clX l)) ((xs.map bts).take (k + 1))) := HNx.out _ (by
            have e : stX false X.data.toList (bts y) = X.data.toList ++ bts y ++ [32] := by simp only [stX, addX, hct, Bool.false_eq_true, if_false]
            rw [e]; simp [bts])
          clear hA1 hA2 hXk hbk4 hcell hyb hyn hsnoc hct hy
          go_wp2_with fail
          refine HCw.out.mono ?_
          rintro e w5 ⟨rfl, rfl⟩
          go_wp2_with fail
          go_roundw
          case rel => exact ⟨k + 1, _, hlt, by go_num, rfl, HZ.out, HBw.out⟩
          case measure => simp [intOf]; omega
        · rw [hct] at HCw
          have HZ : Hid (X.data.toList = stAll false (bts (clX l)) ((xs.map bts).take (k + 1))) := HNx.out _ (by
            simp only [stX, addX, hct, if_true, Bool.false_eq_true, if_false])
          clear hA1 hA2 hXk hbk4 hcell hyb hyn hsnoc hct hy
          go_wp2_with fail
          refine HCw.out.mono ?_
          rintro e w5 ⟨rfl, rfl⟩
          go_wp2_with fail
          go_roundw
          case rel => exact ⟨k + 1, X, hlt, by go_num, rfl, HZ.out, HBw.out⟩
          case measure => simp [intOf]; omega
      · have ek : k = xs.length := by omega
        subst ek
        have hft : (xs.map bts).take xs.length = xs.map bts := List.take_of_length_le (by rw [HLm.out]; omega)
        rw [hft] at hA1
        have hXf := hXk.out
        rw [hft] at hXf
        have HScl := Lib.hid (HSc.out X (by rw [hXf]; exact hA1) (by omega) ab cap cur wr (HEB.out.below hbk4.out))
        rw [hXf, ← HIx.out] at HScl
        have HBf : Hid (Below g w wr) := HBg4.out.trans (hbk4.out.mono (by have := (Array.getElem?_eq_some_iff.1 HEB.out.blk).1; omega))
        clear hXk hbk4 hA1 hA2 hft hXf
        go_wp2_with fail
        refine HScl.out.mono ?_
        rintro e w6 ⟨rfl, hE6, hb6⟩
        have HF6 : Hid (ElA (tgA l (stAll false (bts (clX l)) (xs.map bts))) g w6 ∧ Below g w w6) := ⟨hE6, HBf.out.trans hb6⟩
        clear hE6 hb6
        go_wp2_with fail
        go_roundw
        case rel => exact .inr ⟨by go_num, HF6⟩
        case measure => simp [intOf]
end Go.Proofs.Ytjebadadimejpaa

namespace Go.Proofs.Ytjebadadimejpaa
open Go.RowKit
set_option linter.unusedVariables false

def clsN : List UInt8 := [99, 108, 97, 115, 115]

set_option maxRecDepth 100000 in
set_option maxHeartbeats 2000000 in
/-- Two lists that agree but for one key. -/
theorem others8_any (a b : Option Addr) (ca cb : Nat) (la lb : List At2) (k : ByteArray) (w : World) (ha : ASl w w.heap.size a la) (hb : ASl w w.heap.size b lb) (hal : la.length ≤ 2147483647) (hbl : lb.length ≤ 2147483647)
    (h1 : ∀ x ∈ la, x.key.toList ≠ k.toList → findA lb x.key = some x) (h2 : ∀ x ∈ lb, x.key.toList ≠ k.toList → ∃ z, findA la x.key = some z) :
    Calls Try.prog 15 #[.slice a la.length ca, .slice b lb.length cb, .string k] w fun e w' => e = .returned (.bool true) ∧ Below w.heap.size w w' := by
  have HA := Lib.hid ha
  have HB := Lib.hid hb
  have H1 := Lib.hid h1
  have H2 := Lib.hid h2
  have VA := Lib.hid (fun W k (hW : Below w.heap.size w W) => val7_any a ca la k W ((HA.out.below hW).more hW.size) hal)
  have VB := Lib.hid (fun W k (hW : Below w.heap.size w W) => val7_any b cb lb k W ((HB.out.below hW).more hW.size) hbl)
  clear ha hb h1 h2
  go_enter Try.func15, Try.ntmps15
  go_wp2_with fail
  go_loopw [7] (fun x wr => ∃ i : Nat, i ≤ la.length ∧ x = .int .i64 i ∧ Below w.heap.size w wr) (fun x _ => la.length - (intOf x).toNat)
  case atStart => exact ⟨0, by omega, rfl, Below.refl _ _⟩
  case round =>
    obtain ⟨i, hi, rfl, hbw⟩ := hrel
    have HW := Lib.hid hbw
    by_cases hlt : i < la.length
    · obtain ⟨ba, oa, rfl, hbA, hc⟩ := (HA.out.below hbw).2.2.resolve_left (fun h0 => by rw [h0] at hlt; simp at hlt)
      obtain ⟨g1, g2⟩ := hc i hlt
      rw [List.getD_eq_getElem?_getD, List.getElem?_eq_getElem hlt, Option.getD_some] at g1 g2
      obtain ⟨y, hy⟩ : ∃ y, y = la[i] := ⟨_, rfl⟩
      rw [← hy] at g1 g2
      have HK : Hid (y.key.toList ≠ k.toList → findA lb y.key = some y) := by rw [hy]; exact H1.out _ (List.getElem_mem hlt)
      clear hy hc hbw
      go_wp2_with fail
      refine (VB.out _ _ HW.out).mono ?_
      rintro e w1 ⟨rfl, hb1⟩
      have HW1 := Lib.hid (bnext HW.out hb1)
      have g1' := (hb1.cell (p := ⟨ba, oa + i * 2, none⟩) (Nat.lt_of_lt_of_le hbA HW.out.size)).trans g1
      have g2' := (hb1.cell (p := ⟨ba, oa + i * 2 + 1, none⟩) (Nat.lt_of_lt_of_le hbA HW.out.size)).trans g2
      clear hb1 g1 g2
      cases hq : (y.key.toList == k.toList)
      · have hf := HK.out (by rw [beq_eq_false_iff_ne] at hq; exact hq)
        rw [hf]
        unfold valA
        simp only [Option.isSome_some]
        go_wp2_with fail
        go_roundw
        case rel => exact ⟨i + 1, by omega, by go_num, HW1.out⟩
        case measure => simp [intOf]; omega
      · go_wp2_with fail
        go_roundw
        case rel => exact ⟨i + 1, by omega, by go_num, HW1.out⟩
        case measure => simp [intOf]; omega
    · go_wp2_with fail
      go_loopw [10] (fun x wr => ∃ i : Nat, i ≤ lb.length ∧ x = .int .i64 i ∧ Below w.heap.size w wr) (fun x _ => lb.length - (intOf x).toNat)
      case atStart => exact ⟨0, by omega, rfl, HW.out⟩
      case round =>
        obtain ⟨i, hi, rfl, hbw⟩ := hrel
        have HW := Lib.hid hbw
        by_cases hlt : i < lb.length
        · obtain ⟨ba, oa, rfl, hbA, hc⟩ := (HB.out.below hbw).2.2.resolve_left (fun h0 => by rw [h0] at hlt; simp at hlt)
          obtain ⟨g1, g2⟩ := hc i hlt
          rw [List.getD_eq_getElem?_getD, List.getElem?_eq_getElem hlt, Option.getD_some] at g1 g2
          obtain ⟨y, hy⟩ : ∃ y, y = lb[i] := ⟨_, rfl⟩
          rw [← hy] at g1 g2
          have HK2 : Hid (y.key.toList ≠ k.toList → ∃ z, findA la y.key = some z) := by rw [hy]; exact H2.out _ (List.getElem_mem hlt)
          clear hy hc hbw
          go_wp2_with fail
          refine (VA.out _ _ HW.out).mono ?_
          rintro e w1 ⟨rfl, hb1⟩
          have HW1 := Lib.hid (bnext HW.out hb1)
          have g1' := (hb1.cell (p := ⟨ba, oa + i * 2, none⟩) (Nat.lt_of_lt_of_le hbA HW.out.size)).trans g1
          clear hb1 g1 g2
          obtain ⟨bI, hbI⟩ : ∃ bI, bI = (findA la y.key).isSome := ⟨_, rfl⟩
          rw [← hbI]
          cases hq : (y.key.toList == k.toList)
          · have hbt : bI = true := by
              obtain ⟨z, hz⟩ := HK2.out (by rw [beq_eq_false_iff_ne] at hq; exact hq)
              rw [hbI, hz]; rfl
            subst hbt
            clear hbI
            go_wp2_with fail
            go_roundw
            case rel => exact ⟨i + 1, by omega, by go_num, HW1.out⟩
            case measure => simp [intOf]; omega
          clear hbI
          cases bI
          all_goals
            go_wp2_with fail
            go_roundw
            case rel => exact ⟨i + 1, by omega, by go_num, HW1.out⟩
            case measure => simp [intOf]; omega
        · go_wp2_with fail
          go_ret
          exact ⟨rfl, HW.out⟩

def At8Post (l : List At2) (w : World) (e : Ending) (w' : World) : Prop := ∃ b, e = .returned (.bool b) ∧ (b = true → Ats7 l ∧ ∀ x ∈ l, x.key.toList = clsN → SimC x.val) ∧ Below w.heap.size w w'

set_option maxRecDepth 100000 in
set_option maxHeartbeats 2000000 in
theorem attrs8_any (a : Option Addr) (c : Nat) (l : List At2) (w : World) (ha : ASl w w.heap.size a l) (hal : l.length ≤ 2147483647) :
    Calls Try.prog 6 #[.slice a l.length c] w (At8Post l w) := by
  have HA := Lib.hid ha
  clear ha
  go_enter Try.func6, Try.ntmps6
  by_cases h12 : 12 < l.length
  · go_wp2_with fail
    go_ret
    exact ⟨false, rfl, by simp, Below.refl _ _⟩
  go_wp2_with fail
  go_loopw [3, 4] (fun x y wr => ∃ i : Nat, i ≤ l.length ∧ x = .int .i64 i ∧ Hid ((∀ j (hj : j < l.length), j < i → l[j].key.size ≤ 200 ∧ l[j].val.size ≤ 200) ∧ (∀ m j, m < j → j < i → keyAt l m ≠ keyAt l j) ∧ (∀ j (hj : j < l.length), j < i → l[j].key.toList = clsN → SimC l[j].val)) ∧ Below w.heap.size w wr) (fun x _ _ => l.length - (intOf x).toNat)
  case atStart => exact ⟨0, by omega, rfl, ⟨fun j _ hj => by omega, fun _ _ _ h => by omega, fun j _ hj => by omega⟩, Below.refl _ _⟩
  case round =>
    obtain ⟨i, hi, rfl, hno, hbw⟩ := hrel
    have HW := Lib.hid hbw
    by_cases hlt : i < l.length
    · obtain ⟨ba, oa, rfl, hbA, hc⟩ := (HA.out.below hbw).2.2.resolve_left (fun h0 => by rw [h0] at hlt; simp at hlt)
      obtain ⟨g1, g2⟩ := hc i hlt
      rw [List.getD_eq_getElem?_getD, List.getElem?_eq_getElem hlt, Option.getD_some] at g1 g2
      have HC := Lib.hid (HA.out.2.2.resolve_left (fun h0 => by rw [h0] at hlt; simp at hlt))
      obtain ⟨y, hy⟩ : ∃ y, y = l[i] := ⟨_, rfl⟩
      rw [← hy] at g1 g2
      have hys := HA.out.2.1 y (by rw [hy]; exact List.getElem_mem hlt)
      have HY := Lib.hid hy
      clear hy hc hbw
      unfold maxLen at hys
      obtain ⟨hys1, hys2⟩ := hys
      by_cases c1 : 200 < y.key.size
      · go_wp2_with fail
        go_ret
        exact ⟨false, rfl, by simp, HW.out⟩
      by_cases c2 : 200 < y.val.size
      · go_wp2_with fail
        go_ret
        exact ⟨false, rfl, by simp, HW.out⟩
      cases hcl : (y.key.toList == [99, 108, 97, 115, 115])
      · have HW1 := HW
        have HSim : Hid (y.key.toList = clsN → SimC y.val) := fun e => by rw [beq_eq_false_iff_ne] at hcl; exact absurd e hcl
        go_wp2_with fail
        go_loopw [4] (fun y wr => ∃ m : Nat, m ≤ i ∧ y = .int .i64 m ∧ Hid (∀ j, j < m → keyAt l j ≠ keyAt l i) ∧ Below w.heap.size w wr) (fun y _ => i - (intOf y).toNat)
        case atStart => exact ⟨0, by omega, rfl, (fun _ h => by omega), HW1.out⟩
        case round =>
          obtain ⟨m, hm, rfl, hin, hbw2⟩ := hrel
          have HW2 := Lib.hid hbw2
          by_cases hmk : m < i
          · obtain ⟨ba2, oa2, hv, hbA2, hc2⟩ := HC.out
            cases hv
            have p1 := (hc2 m (by omega)).1
            have p2 := (hc2 i hlt).1
            rw [List.getD_eq_getElem?_getD, List.getElem?_eq_getElem (by omega : m < l.length), Option.getD_some] at p1
            rw [List.getD_eq_getElem?_getD, List.getElem?_eq_getElem hlt, Option.getD_some, ← HY.out] at p2
            obtain ⟨z, hz⟩ : ∃ z, z = l[m] := ⟨_, rfl⟩
            rw [← hz] at p1
            have HZ : Hid (keyAt l m = z.key) := by rw [Hid, keyAt, List.getD_eq_getElem?_getD, List.getElem?_eq_getElem (by omega : m < l.length), Option.getD_some, hz]
            have HZi : Hid (keyAt l i = y.key) := by rw [Hid, keyAt, List.getD_eq_getElem?_getD, List.getElem?_eq_getElem hlt, Option.getD_some, HY.out]
            have p1' := (hbw2.cell (p := ⟨ba, oa + m * 2, none⟩) hbA2).trans p1
            have p2' := (hbw2.cell (p := ⟨ba, oa + i * 2, none⟩) hbA2).trans p2
            clear hc2 hz p1 p2 hbw2
            cases hzk : (z.key.toList == y.key.toList)
            · have HNe : Hid (keyAt l m ≠ keyAt l i) := by
                rw [Hid, HZ.out, HZi.out]
                intro e
                rw [e] at hzk
                simp at hzk
              go_wp2_with fail
              go_quiet (fail)
              go_wp2_with fail
              go_roundw
              case rel =>
                refine ⟨m + 1, by omega, by go_num, (fun j hj => ?_), below_drewN HW2.out _⟩
                by_cases e : j = m
                · subst e; exact HNe.out
                · exact hin.out j (by omega)
              case measure => simp [intOf]; omega
            · go_wp2_with fail
              go_quiet (fail)
              go_wp2_with fail
              go_ret
              exact ⟨false, rfl, by simp, below_drewN HW2.out _⟩
          · go_wp2_with fail
            go_roundw
            case rel =>
              refine ⟨i + 1, by omega, by go_num, ⟨fun j hj hji => ?_, fun a b hab hbi => ?_, fun j hj hji hkj => ?_⟩, HW2.out⟩
              · by_cases e : j = i
                · subst e; rw [← HY.out]; exact ⟨by omega, by omega⟩
                · exact hno.out.1 j hj (by omega)
              · by_cases e : b = i
                · subst e; exact hin.out a (by omega)
                · exact hno.out.2.1 a b hab (by omega)
              · by_cases e : j = i
                · subst e; rw [← HY.out] at hkj ⊢; exact HSim.out hkj
                · exact hno.out.2.2 j hj (by omega) hkj
            case measure => simp [intOf]; omega
      · go_wp2_with fail
        refine (simple_any y.val (by omega) wr).mono ?_
        rintro e w1 ⟨bs, rfl, hsim, hb1⟩
        have HW1 := Lib.hid (bnext HW.out hb1)
        clear hb1
        cases bs
        · go_wp2_with fail
          go_ret
          exact ⟨false, rfl, by simp, HW1.out⟩
        have HSim : Hid (y.key.toList = clsN → SimC y.val) := fun _ => hsim rfl
        clear hsim
        go_wp2_with fail
        go_loopw [4] (fun y wr => ∃ m : Nat, m ≤ i ∧ y = .int .i64 m ∧ Hid (∀ j, j < m → keyAt l j ≠ keyAt l i) ∧ Below w.heap.size w wr) (fun y _ => i - (intOf y).toNat)
        case atStart => exact ⟨0, by omega, rfl, (fun _ h => by omega), HW1.out⟩
        case round =>
          obtain ⟨m, hm, rfl, hin, hbw2⟩ := hrel
          have HW2 := Lib.hid hbw2
          by_cases hmk : m < i
          · obtain ⟨ba2, oa2, hv, hbA2, hc2⟩ := HC.out
            cases hv
            have p1 := (hc2 m (by omega)).1
            have p2 := (hc2 i hlt).1
            rw [List.getD_eq_getElem?_getD, List.getElem?_eq_getElem (by omega : m < l.length), Option.getD_some] at p1
            rw [List.getD_eq_getElem?_getD, List.getElem?_eq_getElem hlt, Option.getD_some, ← HY.out] at p2
            obtain ⟨z, hz⟩ : ∃ z, z = l[m] := ⟨_, rfl⟩
            rw [← hz] at p1
            have HZ : Hid (keyAt l m = z.key) := by rw [Hid, keyAt, List.getD_eq_getElem?_getD, List.getElem?_eq_getElem (by omega : m < l.length), Option.getD_some, hz]
            have HZi : Hid (keyAt l i = y.key) := by rw [Hid, keyAt, List.getD_eq_getElem?_getD, List.getElem?_eq_getElem hlt, Option.getD_some, HY.out]
            have p1' := (hbw2.cell (p := ⟨ba, oa + m * 2, none⟩) hbA2).trans p1
            have p2' := (hbw2.cell (p := ⟨ba, oa + i * 2, none⟩) hbA2).trans p2
            clear hc2 hz p1 p2 hbw2
            cases hzk : (z.key.toList == y.key.toList)
            · have HNe : Hid (keyAt l m ≠ keyAt l i) := by
                rw [Hid, HZ.out, HZi.out]
                intro e
                rw [e] at hzk
                simp at hzk
              go_wp2_with fail
              go_quiet (fail)
              go_wp2_with fail
              go_roundw
              case rel =>
                refine ⟨m + 1, by omega, by go_num, (fun j hj => ?_), below_drewN HW2.out _⟩
                by_cases e : j = m
                · subst e; exact HNe.out
                · exact hin.out j (by omega)
              case measure => simp [intOf]; omega
            · go_wp2_with fail
              go_quiet (fail)
              go_wp2_with fail
              go_ret
              exact ⟨false, rfl, by simp, below_drewN HW2.out _⟩
          · go_wp2_with fail
            go_roundw
            case rel =>
              refine ⟨i + 1, by omega, by go_num, ⟨fun j hj hji => ?_, fun a b hab hbi => ?_, fun j hj hji hkj => ?_⟩, HW2.out⟩
              · by_cases e : j = i
                · subst e; rw [← HY.out]; exact ⟨by omega, by omega⟩
                · exact hno.out.1 j hj (by omega)
              · by_cases e : b = i
                · subst e; exact hin.out a (by omega)
                · exact hno.out.2.1 a b hab (by omega)
              · by_cases e : j = i
                · subst e; rw [← HY.out] at hkj ⊢; exact HSim.out hkj
                · exact hno.out.2.2 j hj (by omega) hkj
            case measure => simp [intOf]; omega
    · go_wp2_with fail
      go_ret
      refine ⟨true, rfl, fun _ => ⟨⟨by omega, keysOnce_of (fun j hj m hm => ?_), fun x hx => ?_⟩, fun x hx hkx => ?_⟩, HW.out⟩
      · have := hno.out.2.1 m j hm (by omega)
        unfold keyAt at this
        rw [List.getD_eq_getElem?_getD, List.getD_eq_getElem?_getD, List.getElem?_eq_getElem hj, List.getElem?_eq_getElem (by omega : m < l.length)] at this
        intro e
        refine this ?_
        rw [Option.getD_some, Option.getD_some]
        exact ByteArray.ext (Array.toList_inj.1 (by rw [← ByteArray.toList_eq, ← ByteArray.toList_eq]; exact e))
      · obtain ⟨j, hj, rfl⟩ := List.getElem_of_mem hx
        exact hno.out.1 j hj (by omega)
      · obtain ⟨j, hj, rfl⟩ := List.getElem_of_mem hx
        exact hno.out.2.2 j hj (by omega) hkx

set_option maxRecDepth 100000 in
set_option maxHeartbeats 1000000 in
theorem attrsToggled_any (xs : List ByteArray) (hxs : xs ≠ []) (hN : ∀ x ∈ xs, NmT (bts x) ∧ x.size ≤ 1000) (hxl : xs.length ≤ 1000) (a : Option Addr) (ca : Nat) (l : List At2) (hl : l.length ≤ 900) (hv : (clV l).size ≤ 100000000) (hVA : AscT (bts (clX l))) (hXs : (clX l).size ≤ 100000002) (hRl : (tgA l (stAll true (bts (clX l)) (xs.map bts))).length ≤ 1000) (bk o c : Nat) (hc : xs.length ≤ c) (w : World) (hx : ASl w w.heap.size a l)
    (hcells : ∀ (j : Nat) x, xs[j]? = some x → w.cell? ⟨bk, o + j, none⟩ = some (.string x)) (hbk : bk < w.heap.size) :
    Calls Try.prog 12 #[.slice a l.length ca, .slice (some ⟨bk, o, none⟩) xs.length c] w (AtsPost (tgA l (stAll true (bts (clX l)) (xs.map bts))) w) := by
  have HX := Lib.hid hx
  have HCl : Hid (∀ g gs w1, Below w.heap.size w w1 → ElA l g w1 → SelOne g gs w1 → Calls Try.prog 22 #[.pointer (some ⟨gs, 0, none⟩), .slice (some ⟨bk, o, none⟩) xs.length c] w1 fun e w' => e = .returned (.pointer (some ⟨gs, 0, none⟩)) ∧ ElA (tgA l (stAll true (bts (clX l)) (xs.map bts))) g w' ∧ Below g w1 w') := fun g gs w1 hb h1 h2 =>
    cls_ToggleClass xs hxs hN hxl l hl hv hVA hXs bk o c hc w1 (fun j x hj => (hb.cell (p := ⟨bk, o + j, none⟩) hbk).trans (hcells j x hj)) (Nat.lt_of_lt_of_le hbk hb.size) g gs h1 h2
  obtain ⟨R, hR⟩ : ∃ R, R = tgA l (stAll true (bts (clX l)) (xs.map bts)) := ⟨_, rfl⟩
  rw [← hR] at HCl hRl ⊢
  clear hx hcells hN hVA hR hv hXs hxs
  go_enter Try.func12, Try.ntmps12
  go_wp2_with fail
  refine (element_any a ca l w HX.out (by omega)).mono ?_
  rintro e w1 ⟨g, gs, rfl, hg, hE, hS, hb1⟩
  have HR := Lib.hid (HCl.out g gs w1 hb1 hE hS)
  have HB1 := Lib.hid hb1
  clear hE hS hb1
  go_wp2_with fail
  refine HR.out.mono ?_
  rintro e w2 ⟨rfl, hE2, hb2⟩
  have HA := Lib.hid (attrs_any R hRl g w2 hE2)
  have HB2 := Lib.hid (HB1.out.trans (hb2.mono hg))
  clear hE2 hb2
  go_wp2_with fail
  refine HA.out.mono ?_
  rintro e w3 ⟨a3, c3, rfl, hown, hb3⟩
  have HO := Lib.hid hown
  have HB3 := Lib.hid (bnext HB2.out hb3)
  clear hown hb3
  go_wp2_with fail
  go_ret
  exact ⟨a3, c3, rfl, own_base HO.out HB2.out.size, HB3.out⟩

set_option maxRecDepth 100000 in
set_option maxHeartbeats 1000000 in
theorem attrsAdded_any (xs : List ByteArray) (hxs : xs ≠ []) (hN : ∀ x ∈ xs, NmT (bts x) ∧ x.size ≤ 1000) (hxl : xs.length ≤ 1000) (a : Option Addr) (ca : Nat) (l : List At2) (hl : l.length ≤ 900) (hv : (clV l).size ≤ 100000000) (hVA : AscT (bts (clX l))) (hXs : (clX l).size ≤ 100000002) (hRl : (tgA l (stAll false (bts (clX l)) (xs.map bts))).length ≤ 1000) (bk o c : Nat) (hc : xs.length ≤ c) (w : World) (hx : ASl w w.heap.size a l)
    (hcells : ∀ (j : Nat) x, xs[j]? = some x → w.cell? ⟨bk, o + j, none⟩ = some (.string x)) (hbk : bk < w.heap.size) :
    Calls Try.prog 13 #[.slice a l.length ca, .slice (some ⟨bk, o, none⟩) xs.length c] w (AtsPost (tgA l (stAll false (bts (clX l)) (xs.map bts))) w) := by
  have HX := Lib.hid hx
  have HCl : Hid (∀ g gs w1, Below w.heap.size w w1 → ElA l g w1 → SelOne g gs w1 → Calls Try.prog 24 #[.pointer (some ⟨gs, 0, none⟩), .slice (some ⟨bk, o, none⟩) xs.length c] w1 fun e w' => e = .returned (.pointer (some ⟨gs, 0, none⟩)) ∧ ElA (tgA l (stAll false (bts (clX l)) (xs.map bts))) g w' ∧ Below g w1 w') := fun g gs w1 hb h1 h2 =>
    cls_AddClass xs hxs hN hxl l hl hv hVA hXs bk o c hc w1 (fun j x hj => (hb.cell (p := ⟨bk, o + j, none⟩) hbk).trans (hcells j x hj)) (Nat.lt_of_lt_of_le hbk hb.size) g gs h1 h2
  obtain ⟨R, hR⟩ : ∃ R, R = tgA l (stAll false (bts (clX l)) (xs.map bts)) := ⟨_, rfl⟩
  rw [← hR] at HCl hRl ⊢
  clear hx hcells hN hVA hR hv hXs hxs
  go_enter Try.func13, Try.ntmps13
  go_wp2_with fail
  refine (element_any a ca l w HX.out (by omega)).mono ?_
  rintro e w1 ⟨g, gs, rfl, hg, hE, hS, hb1⟩
  have HR := Lib.hid (HCl.out g gs w1 hb1 hE hS)
  have HB1 := Lib.hid hb1
  clear hE hS hb1
  go_wp2_with fail
  refine HR.out.mono ?_
  rintro e w2 ⟨rfl, hE2, hb2⟩
  have HA := Lib.hid (attrs_any R hRl g w2 hE2)
  have HB2 := Lib.hid (HB1.out.trans (hb2.mono hg))
  clear hE2 hb2
  go_wp2_with fail
  refine HA.out.mono ?_
  rintro e w3 ⟨a3, c3, rfl, hown, hb3⟩
  have HO := Lib.hid hown
  have HB3 := Lib.hid (bnext HB2.out hb3)
  clear hown hb3
  go_wp2_with fail
  go_ret
  exact ⟨a3, c3, rfl, own_base HO.out HB2.out.size, HB3.out⟩
end Go.Proofs.Ytjebadadimejpaa

namespace Go.Proofs.Ytjebadadimejpaa
open Go.RowKit
set_option linter.unusedVariables false

def SomeLe (P : Prop) (w : World) (e : Ending) (w' : World) : Prop := ∃ b, e = .returned (.bool b) ∧ (b = true → P) ∧ Below w.heap.size w w'

set_option maxHeartbeats 1000000 in
theorem zzFits8_any (a : Option Addr) (c : Nat) (l : List ByteArray) (w : World) (h : SSl w w.heap.size a l) :
    Calls Try.prog 5 #[.slice a l.length c] w (SomeLe (l.length ≤ 2147483647 ∧ ∀ x ∈ l, x.size ≤ 2147483647) w) := by
  have hm := h.1
  unfold maxLen at hm
  have HS := Lib.hid h
  clear h
  by_cases hl : 2147483647 < l.length
  · go_enter Try.func5, Try.ntmps5
    go_wp2_with fail
    go_ret
    exact ⟨false, rfl, by simp, Below.refl _ _⟩
  go_enter Try.func5, Try.ntmps5
  go_wp2_with fail
  go_loopw [10] (fun x wr => ∃ k : Nat, k ≤ l.length ∧ x = .int .i64 k ∧ Hid (∀ i (h : i < l.length), i < k → l[i].size ≤ 2147483647) ∧ w = wr) (fun x _ => l.length - (intOf x).toNat)
  case atStart => exact ⟨0, by omega, rfl, (fun _ _ h => by omega), rfl⟩
  case round =>
    obtain ⟨k, hk, rfl, hno, rfl⟩ := hrel
    by_cases hlt : k < l.length
    · obtain ⟨b, o, rfl, hbB, hc⟩ := HS.out.at_ (by omega)
      have g1 := hc k hlt
      have hsz := HS.out.2.1 _ (List.getElem_mem hlt)
      unfold maxLen at hsz
      obtain ⟨y, hy⟩ : ∃ y, y = l[k] := ⟨_, rfl⟩
      rw [← hy] at g1 hsz
      have HY := Lib.hid hy
      clear hc hy
      by_cases h2 : 2147483647 < y.size
      · go_wp2_with fail
        go_ret
        exact ⟨false, rfl, by simp, Below.refl _ _⟩
      · go_wp2_with fail
        go_roundw
        case rel =>
          refine ⟨k + 1, by omega, by go_num, (fun i hi hik => ?_), by trivial⟩
          by_cases e : i = k
          · subst e; rw [← HY.out]; omega
          · exact hno.out i hi (by omega)
        case measure => simp [intOf]; omega
    · go_wp2_with fail
      go_ret
      refine ⟨true, rfl, fun _ => ⟨by omega, fun x hx => ?_⟩, Below.refl _ _⟩
      obtain ⟨i, hi, rfl⟩ := List.getElem_of_mem hx
      exact hno.out i hi (by omega)

/-- Names with blanks ahead. -/
def jnL (xs : List ByteArray) : List UInt8 := xs.flatMap fun x => 32 :: bts x
def jnB (xs : List ByteArray) : ByteArray := ⟨(jnL xs).toArray⟩
theorem jnL_len {m : Nat} : ∀ (xs : List ByteArray), (∀ x ∈ xs, x.size ≤ m) → (jnL xs).length ≤ xs.length * (m + 1) := by
  intro xs
  induction xs with
  | nil => intro _; simp [jnL]
  | cons a xs ih =>
    intro h
    have h1 := h a (by simp)
    have h2 := ih fun x hx => h x (List.mem_cons_of_mem _ hx)
    have h3 : (jnL (a :: xs)).length = 1 + a.size + (jnL xs).length := by
      unfold jnL; simp [bts]; have : a.data.size = a.size := rfl; omega
    rw [h3, List.length_cons, Nat.add_mul, Nat.one_mul]
    omega
theorem jnL_words : ∀ (xs : List ByteArray), (∀ x ∈ xs, CN (bts x)) → words (jnL xs) = xs.map bts := by
  intro xs
  induction xs with
  | nil => intro _; rfl
  | cons a xs ih =>
    intro h
    have ha := h a (by simp)
    have hn := fun x hx => h x (List.mem_cons_of_mem _ hx)
    have e : jnL (a :: xs) = 32 :: (bts a ++ jnL xs) := by unfold jnL; simp
    rw [e, words_front (by decide)]
    cases xs with
    | nil => simp only [jnL, List.flatMap_nil, List.append_nil]; exact words_one ha.ws ha.ne
    | cons b xs =>
      have e2 : jnL (b :: xs) = 32 :: (bts b ++ jnL xs) := by unfold jnL; simp
      have := ih hn
      rw [e2, words_front (by decide)] at this
      rw [e2, words_cat (by decide), words_one ha.ws ha.ne, this]; rfl

set_option maxRecDepth 100000 in
set_option maxHeartbeats 2000000 in
theorem joined7_any (xs : List ByteArray) (hxl : xs.length ≤ 2147483647) (hxs : ∀ x ∈ xs, x.size ≤ 1000) (a : Option Addr) (c : Nat) (w : World) (h : SSl w w.heap.size a xs) :
    Calls Try.prog 11 #[.slice a xs.length c] w fun e w' => e = .returned (.string (jnB xs)) ∧ w' = w := by
  have HS := Lib.hid h
  have HX := Lib.hid hxs
  clear h hxs
  go_enter Try.func11, Try.ntmps11
  go_wp2_with fail
  go_loopw [3, 4] (fun sv v wr => ∃ (k : Nat) (X : ByteArray), k ≤ xs.length ∧ v = .int .i64 k ∧ sv = .string X ∧ Hid (X.data.toList = jnL (xs.take k)) ∧ X.size ≤ 1001 * k ∧ w = wr) (fun _ v _ => xs.length - (intOf v).toNat)
  case atStart => exact ⟨0, ⟨#[]⟩, by omega, rfl, rfl, rfl, Nat.le_refl 0, rfl⟩
  case round =>
    obtain ⟨k, X, hk, rfl, rfl, hX, hXs, rfl⟩ := hrel
    by_cases hlt : k < xs.length
    · obtain ⟨b, o, rfl, -, hc⟩ := HS.out.at_ (by omega)
      have g1 := hc k hlt
      have hys := HX.out _ (List.getElem_mem hlt)
      obtain ⟨y, hy⟩ : ∃ y, y = xs[k] := ⟨_, rfl⟩
      rw [← hy] at g1 hys
      have HN : Hid ((X ++ ((⟨#[32]⟩ : ByteArray) ++ y)).data.toList = jnL (xs.take (k + 1))) := by
        rw [Hid, List.take_succ_eq_append_getElem hlt]
        unfold jnL
        rw [List.flatMap_append]
        have := hX.out
        unfold jnL at this
        rw [← this, ← hy]
        simp [bts]
      have hzs : (X ++ ((⟨#[32]⟩ : ByteArray) ++ y)).size ≤ 1001 * (k + 1) := by
        rw [ByteArray.size_append, ByteArray.size_append]
        show X.size + (1 + y.size) ≤ _
        omega
      have hys1 : ((⟨#[32]⟩ : ByteArray) ++ y).size ≤ 1001 := by
        rw [ByteArray.size_append]
        show 1 + y.size ≤ _
        omega
      clear hc hy hX
      go_wp2_with fail
      go_roundw
      case rel => exact ⟨k + 1, _, hlt, by go_num, rfl, HN.out, hzs, by trivial⟩
      case measure => simp [intOf]; omega
    · have ek : k = xs.length := by omega
      have hE : X = jnB xs := by
        have := hX.out
        rw [ek, List.take_length] at this
        exact ByteArray.ext (Array.toList_inj.1 (by rw [this]; simp [jnB]))
      subst hE
      clear hX
      go_wp2_with fail
      go_ret
      exact ⟨rfl, rfl⟩

noncomputable def prB (s : ByteArray) : Bool := @decide (NmT (bts s)) (Classical.propDecidable _)
theorem prB_yes {s : ByteArray} (h : NmT (bts s)) : prB s = true := by unfold prB; exact @decide_eq_true _ (Classical.propDecidable _) h
theorem prB_no {s : ByteArray} (h : ¬ NmT (bts s)) : prB s = false := by unfold prB; exact @decide_eq_false _ (Classical.propDecidable _) h
theorem prB_of {s : ByteArray} (h : prB s = true) : NmT (bts s) := by unfold prB at h; exact @of_decide_eq_true _ (Classical.propDecidable _) h
def PrPost (s : ByteArray) (w : World) (e : Ending) (w' : World) : Prop := e = .returned (.bool (prB s)) ∧ w' = w

set_option maxRecDepth 100000 in
set_option maxHeartbeats 2000000 in
theorem printable_any (s : ByteArray) (hs : s.size ≤ 2147483647) (w : World) :
    Calls Try.prog 18 #[.string s] w (PrPost s w) := by
  have hsl : s.data.toList.length = s.size := rfl
  have HL := Lib.hid hsl
  clear hsl
  go_enter Try.func18, Try.ntmps18
  go_wp2_with fail
  go_loopw [3] (fun v wr => ∃ k : Nat, k ≤ s.size ∧ v = .int .i64 k ∧ Hid (∀ x ∈ (bts s).take k, 33 ≤ x.toNat ∧ x.toNat ≤ 126) ∧ w = wr) (fun v _ => s.size - (intOf v).toNat)
  case atStart => exact ⟨0, by omega, rfl, (fun x hx => by simp at hx), rfl⟩
  case round =>
    obtain ⟨k, hk, rfl, hno, rfl⟩ := hrel
    by_cases hlt : k < s.size
    · have hkl : k < (bts s).length := by have := HL.out; unfold bts; omega
      have HTk : Hid ((bts s).take (k + 1) = (bts s).take k ++ [s[k]]) := by
        rw [Hid, List.take_succ_eq_append_getElem hkl]; rfl
      by_cases h1 : s[k].toNat ≤ 32
      · have z1 : decide (((s[k].toNat : Nat) : Int) ≤ 32) = true := decide_eq_true (by omega)
        have HNo : Hid (prB s = false) := prB_no fun h => by
          have := h.2 s[k] (by have e : (bts s)[k]'hkl = s[k] := rfl
                               rw [← e]; exact List.getElem_mem hkl)
          omega
        go_wp2_with fail
        go_ret
        exact ⟨by rw [HNo.out]; rfl, rfl⟩
      have z1 : decide (((s[k].toNat : Nat) : Int) ≤ 32) = false := decide_eq_false (by omega)
      by_cases h2 : 126 < s[k].toNat
      · have z2 : decide ((126 : Int) < ((s[k].toNat : Nat) : Int)) = true := decide_eq_true (by omega)
        have HNo : Hid (prB s = false) := prB_no fun h => by
          have := h.2 s[k] (by have e : (bts s)[k]'hkl = s[k] := rfl
                               rw [← e]; exact List.getElem_mem hkl)
          omega
        go_wp2_with fail
        go_ret
        exact ⟨by rw [HNo.out]; rfl, rfl⟩
      have z2 : decide ((126 : Int) < ((s[k].toNat : Nat) : Int)) = false := decide_eq_false (by omega)
      have HN : Hid (∀ x ∈ (bts s).take (k + 1), 33 ≤ x.toNat ∧ x.toNat ≤ 126) := by
        intro x hx
        rw [HTk.out, List.mem_append, List.mem_singleton] at hx
        rcases hx with hx | hx
        · exact hno.out x hx
        · rw [hx]; omega
      clear hno
      go_wp2_with fail
      go_roundw
      case rel => exact ⟨k + 1, hlt, by go_num, HN.out, by trivial⟩
      case measure => simp [intOf]; omega
    · have HF : Hid (∀ x ∈ bts s, 33 ≤ x.toNat ∧ x.toNat ≤ 126) := by
        have := hno.out
        rw [List.take_of_length_le (by have := HL.out; unfold bts; omega)] at this
        exact this
      have hne : ∃ b, b = s.toList.isEmpty := ⟨_, rfl⟩
      obtain ⟨b, hb⟩ := hne
      have HB := Lib.hid hb
      clear hno
      cases b
      · have he : s.toList.isEmpty = false := hb.symm
        have HYes : Hid (prB s = true) := prB_yes ⟨(fun e => by
          have := HB.out
          rw [ByteArray.toList_eq, show s.data.toList = bts s from rfl, e] at this
          cases this), HF.out⟩
        clear hb
        go_wp2_with fail
        go_ret
        exact ⟨by rw [HYes.out]; rfl, rfl⟩
      · have he : s.toList.isEmpty = true := hb.symm
        have HNo : Hid (prB s = false) := prB_no fun h => h.1 (by
          have := HB.out.symm
          rw [ByteArray.toList_eq, List.isEmpty_iff] at this
          exact this)
        clear hb
        go_wp2_with fail
        go_ret
        exact ⟨by rw [HNo.out]; rfl, rfl⟩

structure Cls7 (xs : List ByteArray) : Prop where
  ne : xs ≠ []
  len : xs.length ≤ 8
  nm : ∀ x ∈ xs, NmT (bts x) ∧ x.size ≤ 40
  once : (xs.map bts).Nodup
def Cls7Post (xs : List ByteArray) (w : World) (e : Ending) (w' : World) : Prop := ∃ b, e = .returned (.bool b) ∧ (b = true → Cls7 xs) ∧ Below w.heap.size w w'

theorem SSl.take {w : World} {B : Nat} {a : Option Addr} {l : List ByteArray} (h : SSl w B a l) (k : Nat) : SSl w B a (l.take k) := by
  obtain ⟨h1, h2, h3⟩ := h
  refine ⟨by rw [List.length_take]; omega, fun x hx => h2 x (List.mem_of_mem_take hx), ?_⟩
  rcases h3 with h3 | ⟨b, o, ha, hb, hc⟩
  · subst h3; exact .inl (by simp)
  · exact .inr ⟨b, o, ha, hb, fun i hi => by
      rw [List.length_take] at hi
      rw [List.getElem_take]; exact hc i (by omega)⟩

set_option maxRecDepth 100000 in
set_option maxHeartbeats 4000000 in
theorem classes7_any (xs : List ByteArray) (hxl : xs.length ≤ 2147483647) (hxs : ∀ x ∈ xs, x.size ≤ 2147483647) (a : Option Addr) (c : Nat) (hc : xs.length ≤ c) (w : World) (h : SSl w w.heap.size a xs) :
    Calls Try.prog 7 #[.slice a xs.length c] w (Cls7Post xs w) := by
  have HS := Lib.hid h
  have HX := Lib.hid hxs
  clear h hxs
  go_enter Try.func7, Try.ntmps7
  go_wp2_with fail
  go_loopw [3] (fun v wr => ∃ k : Nat, k ≤ xs.length ∧ v = .int .i64 k ∧ Hid ((∀ x ∈ xs.take k, NmT (bts x) ∧ x.size ≤ 40) ∧ ((xs.take k).map bts).Nodup) ∧ Below w.heap.size w wr) (fun v _ => xs.length - (intOf v).toNat)
  case atStart => exact ⟨0, by omega, rfl, ⟨fun x hx => by simp at hx, by simp⟩, Below.refl _ _⟩
  case round =>
    obtain ⟨k, hk, rfl, hno, hbw⟩ := hrel
    have HB := Lib.hid hbw
    obtain ⟨W, rfl⟩ : ∃ W : World, W = wr := ⟨_, rfl⟩
    by_cases hlt : k < xs.length
    · obtain ⟨b, o, rfl, hbB, hcc⟩ := (HS.out.next hbw).at_ (by omega)
      have g1 := hcc k hlt
      have hys := HX.out _ (List.getElem_mem hlt)
      have HTk : Hid (xs.take (k + 1) = xs.take k ++ [xs[k]]) := List.take_succ_eq_append_getElem hlt
      have HSk : Hid (SSl W W.heap.size (some ⟨b, o, none⟩) (xs.take k)) := (HS.out.next hbw).take k
      have hkl : (xs.take k).length = k := by rw [List.length_take]; omega
      have HKl := Lib.hid hkl
      obtain ⟨y, hy⟩ : ∃ y, y = xs[k] := ⟨_, rfl⟩
      rw [← hy] at g1 hys HTk
      have HPr : Hid (∀ n, Calls Try.prog 18 #[.string y] (W.drewN n) fun e w' => e = .returned (.bool (prB y)) ∧ w' = W.drewN n) := fun n => printable_any y hys (W.drewN n)
      obtain ⟨P, hP⟩ : ∃ P, P = prB y := ⟨_, rfl⟩
      have HP := Lib.hid hP
      rw [← hP] at HPr
      clear hcc hy hP hbw hkl
      cases P
      · go_wp2_with fail
        go_quiet (first | (go_at_call 18; exact (HPr.out _).mono (fun _ _ hh => ⟨hh.1, _, hh.2⟩)))
        go_wp2_with fail
        go_ret
        exact ⟨false, rfl, by simp, below_drewN HB.out _⟩
      by_cases h40 : 40 < y.size
      · have e40 : decide ((40 : Int) < (y.size : Int)) = true := decide_eq_true (by omega)
        go_wp2_with fail
        go_quiet (first | (go_at_call 18; exact (HPr.out _).mono (fun _ _ hh => ⟨hh.1, _, hh.2⟩)))
        go_wp2_with fail
        go_ret
        exact ⟨false, rfl, by simp, below_drewN HB.out _⟩
      have e40 : decide ((40 : Int) < (y.size : Int)) = false := decide_eq_false (by omega)
      have hkc : k ≤ c := by omega
      have HYn : Hid (NmT (bts y)) := prB_of HP.out.symm
      have HPr1 : Hid (Calls Try.prog 18 #[.string y] W.drew fun e w' => e = .returned (.bool true) ∧ w' = W.drew) := HPr.out 1
      have HJ : Hid (Calls Try.prog 11 #[.slice (some ⟨b, o, none⟩) k c] W.drew fun e w' => e = .returned (.string (jnB (xs.take k))) ∧ w' = W.drew) := by
        have := joined7_any (xs.take k) (by rw [HKl.out]; omega) (fun x hx => by have := (hno.out.1 x hx).2; omega) (some ⟨b, o, none⟩) c W.drew (HSk.out.next (Below.refl _ _).drew)
        rw [HKl.out] at this
        exact this
      have hjw : words (jnL (xs.take k)) = (xs.take k).map bts := jnL_words _ fun x hx => (hno.out.1 x hx).1.cn
      have hjs : (jnB (xs.take k)).size ≤ 4398046511104 := by
        have h1 := jnL_len (m := 40) (xs.take k) (fun x hx => (hno.out.1 x hx).2)
        rw [HKl.out] at h1
        have h2 : (jnB (xs.take k)).size = (jnL (xs.take k)).length := by
          show (jnL (xs.take k)).toArray.size = _; simp
        rw [h2]
        have : k * (40 + 1) ≤ 2147483647 * (40 + 1) := Nat.mul_le_mul_right _ (by omega)
        omega
      have HWd : Hid (Calls Try.prog 10 #[.string (jnB (xs.take k)), .string y] W.drew (BoolB (decide (bts y ∈ (xs.take k).map bts)) W.drew)) := by
        have := wordL_any (jnB (xs.take k)) y hjs W.drew
        have e : (jnB (xs.take k)).data.toList = jnL (xs.take k) := by unfold jnB; simp
        rw [e, hjw] at this
        exact this
      obtain ⟨Jn, hJn⟩ : ∃ Jn, Jn = jnB (xs.take k) := ⟨_, rfl⟩
      rw [← hJn] at HJ HWd
      obtain ⟨D, hD⟩ : ∃ D, D = decide (bts y ∈ (xs.take k).map bts) := ⟨_, rfl⟩
      have HD := Lib.hid hD
      rw [← hD] at HWd
      have HNo := Lib.hid hno.out
      clear hjw hjs hJn hD hno
      go_wp2_with fail
      refine wp_region_still_tail 23 (by kernel_rfl) (by kernel_rfl) ?_
      simp only [List.take_succ_cons, List.take_zero, List.drop_succ_cons, List.drop_zero]
      iterate 4 still_step
      still_call HPr1.out
      iterate 13 still_step
      still_call HJ.out
      iterate 4 still_step
      refine wpStill_nil ?_
      change wpList _ _ _ _ _ W.drew
      go_wp2_with fail
      refine HWd.out.mono ?_
      rintro e w2 ⟨rfl, hb2⟩
      have HB2 : Hid (Below w.heap.size w w2) := bnext HB.out.drew hb2
      clear hb2
      cases D
      · have HN : Hid ((∀ x ∈ xs.take (k + 1), NmT (bts x) ∧ x.size ≤ 40) ∧ ((xs.take (k + 1)).map bts).Nodup) := by
          have hd := of_decide_eq_false HD.out.symm
          rw [Hid, HTk.out]
          refine ⟨fun x hx => ?_, ?_⟩
          · rw [List.mem_append, List.mem_singleton] at hx
            rcases hx with hx | hx
            · exact HNo.out.1 x hx
            · rw [hx]; exact ⟨HYn.out, by omega⟩
          · rw [List.map_append, List.nodup_append]
            refine ⟨HNo.out.2, by simp, fun p hp q hq e => ?_⟩
            simp at hq
            rw [e, hq] at hp
            exact hd hp
        go_wp2_with fail
        go_roundw
        case rel => exact ⟨k + 1, hlt, by go_num, HN.out, HB2.out⟩
        case measure => simp [intOf]; omega
      · go_wp2_with fail
        go_ret
        exact ⟨false, rfl, by simp, HB2.out⟩
    · have HF : Hid ((∀ x ∈ xs, NmT (bts x) ∧ x.size ≤ 40) ∧ (xs.map bts).Nodup) := by
        have := hno.out
        rw [List.take_of_length_le (by omega)] at this
        exact this
      clear hno hbw
      by_cases h0 : xs.length = 0
      · have e0 : decide ((0 : Int) < (xs.length : Int)) = false := decide_eq_false (by omega)
        go_wp2_with fail
        go_ret
        exact ⟨false, rfl, by simp, HB.out⟩
      have e0 : decide ((0 : Int) < (xs.length : Int)) = true := decide_eq_true (by omega)
      by_cases h8 : xs.length ≤ 8
      · have e8 : decide ((xs.length : Int) ≤ 8) = true := decide_eq_true (by omega)
        go_wp2_with fail
        go_ret
        exact ⟨true, rfl, fun _ => ⟨fun e => h0 (by rw [e]; rfl), h8, HF.out.1, HF.out.2⟩, HB.out⟩
      · have e8 : decide ((xs.length : Int) ≤ 8) = false := decide_eq_false (by omega)
        go_wp2_with fail
        go_ret
        exact ⟨false, rfl, by simp, HB.out⟩
end Go.Proofs.Ytjebadadimejpaa

namespace Go.Proofs.Ytjebadadimejpaa
open Go.RowKit
set_option linter.unusedVariables false

set_option maxRecDepth 100000 in
set_option maxHeartbeats 2000000 in
theorem classed7_yes (a : Option Addr) (c : Nat) (l : List At2) (hl : l.length ≤ 2147483647) (W : List (List UInt8)) (hWl : W.length ≤ 2147483647) (aw : Option Addr) (cw : Nat) (w : World) (hx : ASl w w.heap.size a l) (hw : RSl w w.heap.size aw (strs W)) (V : ByteArray) (hV : valA (findA l clA) = V) (hVs : V.size ≤ 2147483647)
    (h1 : (words V.data.toList).length = W.length) (h2 : ∀ v ∈ W, v ∈ words V.data.toList) :
    Calls Try.prog 14 #[.slice a l.length c, .slice aw W.length cw] w fun e w' => e = .returned (.bool true) ∧ Below w.heap.size w w' := by
  have HV7 := Lib.hid (val7_any a c l clA w hx hl)
  have HWd := Lib.hid (fun W1 => wordsC_any V hVs W1)
  have HR := Lib.hid hw
  have H2 := Lib.hid h2
  have H1 := Lib.hid h1
  have HV := Lib.hid hV
  have HWo : Hid (∀ W1 v, v ∈ W → Calls Try.prog 10 #[.string V, .string ⟨v.toArray⟩] W1 (BoolB true W1)) := fun W1 v hv => by
    have := wordL_any V ⟨v.toArray⟩ (by omega) W1
    have e : decide (v ∈ words V.data.toList) = true := decide_eq_true (h2 v hv)
    rw [show (⟨v.toArray⟩ : ByteArray).data.toList = v by simp, e] at this
    exact this
  clear hx hw h1 h2 hV
  go_enter Try.func14, Try.ntmps14
  go_wp2_with fail
  refine HV7.out.mono ?_
  rintro e w1 ⟨rfl, hb1⟩
  have HB1 := Lib.hid hb1
  rw [HV.out]
  obtain ⟨bI, hbI⟩ : ∃ bI, bI = (findA l clA).isSome := ⟨_, rfl⟩
  rw [← hbI]
  have HWd1 := Lib.hid (HWd.out w1)
  clear hb1 hbI
  go_wp2_with fail
  refine HWd1.out.mono ?_
  rintro e w2 ⟨a2, c2, rfl, hown, hb2⟩
  have HB2 := Lib.hid (bnext HB1.out hb2)
  have he : (((words V.data.toList).length : Int) != (W.length : Int)) = false := by rw [H1.out]; simp
  clear hown hb2
  go_wp2_with fail
  go_loopw [8] (fun v wr => ∃ k : Nat, k ≤ W.length ∧ v = .int .i64 k ∧ Below w.heap.size w wr) (fun v _ => W.length - (intOf v).toNat)
  case atStart => exact ⟨0, by omega, rfl, HB2.out⟩
  case round =>
    obtain ⟨k, hk, rfl, hb⟩ := hrel
    have HB := Lib.hid hb
    by_cases hlt : k < W.length
    · obtain ⟨b, o, rfl, hbB, hc⟩ := (HR.out.below hb).at_ (by rw [strs_length]; omega)
      have g1 := hc k (by rw [strs_length]; exact hlt)
      rw [strs_at hlt] at g1
      have HW1 := Lib.hid (HWo.out wr W[k] (List.getElem_mem hlt))
      obtain ⟨y, hy⟩ : ∃ y : ByteArray, y = ⟨W[k].toArray⟩ := ⟨_, rfl⟩
      rw [← hy] at g1 HW1
      clear hc hy hb
      go_wp2_with fail
      refine HW1.out.mono ?_
      rintro e w3 ⟨rfl, hb3⟩
      have HB3 := Lib.hid (bnext HB.out hb3)
      clear hb3
      go_wp2_with fail
      go_roundw
      case rel => exact ⟨k + 1, hlt, by go_num, HB3.out⟩
      case measure => simp [intOf]; omega
    · clear hb
      go_wp2_with fail
      go_ret
      exact ⟨rfl, HB.out⟩

theorem findA_clV (l : List At2) : valA (findA l clA) = clV l := by
  unfold clV
  by_cases h : idxA l clA < l.length
  · rw [dif_pos h]
    have : findA l clA = some l[idxA l clA] := by
      unfold findA idxA
      rw [List.find?_eq_getElem?_findIdx]
      exact List.getElem?_eq_getElem h
    rw [this]; rfl
  · rw [dif_neg h, findA_no.2 (fun x hx e => h (idxA_lt hx e))]; rfl

structure TgF (l R : List At2) (X : List UInt8) : Prop where
  once : KeysOnce R
  wd : words (bts (clV R)) = words X
  sub : ∀ c ∈ bts (clV R), c ∈ X
  sz : (clV R).size ≤ X.length
  o1 : ∀ x ∈ l, x.key.toList ≠ clA.toList → findA R x.key = some x
  o2 : ∀ x ∈ R, x.key.toList ≠ clA.toList → findA l x.key = some x
  len : R.length ≤ l.length + 1

theorem tgA_facts {l : List At2} (h : KeysOnce l) {X : List UInt8} (hX : AscT X) : TgF l (tgA l X) X := by
  unfold tgA
  by_cases he : Lib.trimSpace X = []
  · rw [if_pos he]
    have hw : words X = [] := (trim_words hX).1 he
    obtain ⟨L, hL⟩ : ∃ L, L = clL l := ⟨_, rfl⟩
    have hkey : ∃ m1 m2 m3 m4 : Prop, True := ⟨True, True, True, True, trivial⟩
    have hcl : (clL l = l) ∨ (clL l = setA l clA ⟨#[]⟩) := by
      by_cases hi : idxA l clA < l.length
      · exact .inl (if_pos hi)
      · refine .inr ?_
        rw [setA_new hi]; exact if_neg hi
    have hV0 : clV (rmA (clL l) clA) = ⟨#[]⟩ := by
      rw [← findA_clV]
      have : findA (rmA (clL l) clA) clA = none := by
        rcases hcl with e | e <;> rw [e]
        · exact rm_self h
        · exact gone_self h
      rw [this]; rfl
    refine ⟨?_, ?_, ?_, ?_, ?_, ?_, ?_⟩
    · rcases hcl with e | e <;> rw [e]
      · exact rmA_once h
      · exact rmA_once (setA_once h)
    · rw [hV0, hw]; rfl
    · rw [hV0]; intro c hc; exact absurd hc (by simp [bts])
    · rw [hV0]; exact Nat.zero_le _
    · intro x hx hk
      rcases hcl with e | e <;> rw [e]
      · exact rm_other h hx hk
      · exact gone_other h hx hk
    · intro x hx hk
      rcases hcl with e | e <;> rw [e] at hx
      · exact rm_back h hx
      · exact gone_back h hx
    · have h1 := rmA_le (l := clL l) (k := clA)
      have h2 := (clL_idx l).2.1
      omega
  · rw [if_neg he]
    obtain ⟨V, hV⟩ : ∃ V : ByteArray, V = ⟨(Lib.trimSpace X).toArray⟩ := ⟨_, rfl⟩
    rw [← hV]
    have hVb : bts V = Lib.trimSpace X := by rw [hV]; simp [bts]
    obtain ⟨x0, hx0, hx1⟩ := setA_find (k := clA) (v := V) h
    have hcV : clV (setA l clA V) = V := by rw [← findA_clV, hx0]; exact hx1
    refine ⟨setA_once h, by rw [hcV, hVb, trim_asc hX], by rw [hcV, hVb]; exact trim_sub X, ?_, ?_, ?_, setA_le⟩
    · rw [hcV]
      have h2 : V.size = (bts V).length := rfl
      rw [h2, hVb]; exact trim_len X
    · intro x hx hk
      exact (findA_mem (setA_once h)).2 ⟨(setA_mem h x).2 (.inl ⟨hx, hk⟩), rfl⟩
    · intro x hx hk
      rcases (setA_mem h x).1 hx with h1 | h1
      · exact (findA_mem h).2 ⟨h1.1, rfl⟩
      · exact absurd h1.1 hk

theorem stAll_all {P : UInt8 → Prop} (h32 : P 32) {how : Bool} : ∀ {ns : List (List UInt8)} {X : List UInt8}, (∀ c ∈ X, P c) → (∀ n ∈ ns, ∀ c ∈ n, P c) → ∀ c ∈ stAll how X ns, P c := by
  intro ns
  induction ns with
  | nil => intro X h _; exact h
  | cons n ns ih =>
    intro X h hn
    refine ih (X := stX how X n) ?_ fun m hm => hn m (List.mem_cons_of_mem _ hm)
    have hn0 := hn n (by simp)
    have happ : ∀ c ∈ X ++ n ++ [32], P c := fun c hc => by
      rcases List.mem_append.1 hc with hc | hc
      · rcases List.mem_append.1 hc with hc | hc
        · exact h c hc
        · exact hn0 c hc
      · rw [List.mem_singleton] at hc; rw [hc]; exact h32
    unfold stX
    cases how
    · simp only [Bool.false_eq_true, if_false]
      unfold addX
      split
      · exact h
      · exact happ
    · simp only [if_true]
      unfold togX
      split
      · intro c hc
        rcases repl_mem _ _ c hc with h1 | h1
        · exact h c h1
        · rw [List.mem_singleton] at h1; rw [h1]; exact h32
      · exact happ

theorem isTr_wsB2 {c : UInt8} (h : isTr c = true) : wsB c = true := (wsB_nat c).2 (by have := (isTr_iff c).1 h; omega)
theorem wsB_trB2 (c : UInt8) : wsB (trB c) = wsB c := by
  unfold trB
  split
  · rename_i h
    rw [isTr_wsB2 h]; rfl
  · rfl
theorem wds_trB2 : ∀ (l cur : List UInt8), wds cur (l.map trB) = wds cur l := by
  intro l
  induction l with
  | nil => intro cur; rfl
  | cons x l ih =>
    intro cur
    rw [List.map_cons]
    by_cases h : wsB x = true
    · rw [wds_ws _ h, wds_ws _ (by rw [wsB_trB2]; exact h), ih]
    · have h' : wsB x = false := by simpa using h
      have hx : trB x = x := by
        unfold trB
        rw [if_neg]
        intro e
        rw [isTr_wsB2 e] at h'; cases h'
      rw [hx, wds_no _ h', wds_no _ h', ih]

/-- What the class attribute's text is before toggling. -/
theorem clX_facts {l : List At2} (hv : SimC (clV l)) : CT (bts (clX l)) ∧ words (bts (clX l)) = words (bts (clV l)) ∧ (∀ c ∈ bts (clX l), c.toNat ≠ 12 ∧ c.toNat ≠ 11 ∧ c.toNat < 128) ∧ (clX l).size = (clV l).size + 2 := by
  have e : bts (clX l) = blk ((bts (clV l)).map trB) := by
    unfold clX trS bts blk
    simp [trB, isTr]
  have hb : ∀ c ∈ (bts (clV l)).map trB, c.toNat ≠ 12 ∧ c.toNat ≠ 11 ∧ c.toNat < 128 := by
    intro c hc
    obtain ⟨d, hd, rfl⟩ := List.mem_map.1 hc
    have := hv.byte d hd
    unfold trB
    split
    · decide
    · exact this
  refine ⟨?_, ?_, ?_, ?_⟩
  · rw [e]
    refine ⟨⟨_, rfl⟩, ⟨32 :: (bts (clV l)).map trB, rfl⟩, fun c hm hw => ?_⟩
    unfold blk at hm
    rw [List.mem_append, List.mem_cons, List.mem_singleton] at hm
    rcases hm with (hm | hm) | hm
    · exact hm
    · obtain ⟨d, hd, rfl⟩ := List.mem_map.1 hm
      have h12 := (hv.byte d hd).1
      unfold trB at hw ⊢
      split
      · rfl
      · rename_i hn
        rw [if_neg hn] at hw
        have h1 := (wsB_nat d).1 hw
        have h2 := fun h => hn ((isTr_iff d).2 h)
        have : d.toNat = 32 := by
          rcases h1 with h1 | h1 | h1 | h1 | h1
          · exact h1
          · exact absurd (.inl h1) h2
          · exact absurd (.inr (.inr h1)) h2
          · exact absurd (.inr (.inl h1)) h2
          · exact absurd h1 h12
        exact UInt8.toNat_inj.1 this
    · exact hm
  · rw [e]
    unfold blk
    rw [words_back (by decide), words_front (by decide)]
    exact wds_trB2 _ []
  · rw [e]
    unfold blk
    intro c hc
    rw [List.mem_append, List.mem_cons, List.mem_singleton] at hc
    rcases hc with (hc | hc) | hc
    · subst hc; decide
    · exact hb c hc
    · subst hc; decide
  · have h2 : (clX l).size = (bts (clX l)).length := rfl
    have h3 : (clV l).size = (bts (clV l)).length := rfl
    rw [h2, h3, e]; simp [blk]
end Go.Proofs.Ytjebadadimejpaa

namespace Go.Proofs.Ytjebadadimejpaa
set_option linter.unusedVariables false

theorem stX_true : stX true = togX := by funext X c; simp [stX]

structure TgS (l R : List At2) (ns : List (List UInt8)) : Prop where
  f : TgF l R (stAll true (bts (clX l)) ns)
  asc : AscT (stAll true (bts (clX l)) ns)
  once : (words (bts (clV R))).Nodup
  mem : ∀ v, v ∈ words (bts (clV R)) ↔ (v ∈ words (bts (clV l)) ∧ v ∉ ns) ∨ (v ∈ ns ∧ v ∉ words (bts (clV l)))
  sim : SimC (clV R)

theorem toggle_facts {l : List At2} (h : KeysOnce l) (hv : SimC (clV l)) {ns : List (List UInt8)} (hns : ∀ n ∈ ns, NmT n) (hn : ns.Nodup) : TgS l (tgA l (stAll true (bts (clX l)) ns)) ns := by
  obtain ⟨c1, c2, c3, c4⟩ := clX_facts hv
  have hall := stAll_all (P := fun c => c.toNat ≠ 12 ∧ c.toNat ≠ 11 ∧ c.toNat < 128) (by decide) (how := true) (ns := ns) (X := bts (clX l)) c3 (fun n hn c hc => by have := (hns n hn).2 c hc; omega)
  have hasc : AscT (stAll true (bts (clX l)) ns) := fun c hc => ⟨(hall c hc).2.2, (hall c hc).2.1⟩
  have hf := tgA_facts h hasc
  have hX0 : (words (bts (clX l))).Nodup := by rw [c2]; exact hv.once
  obtain ⟨t1, t2, t3⟩ := c1.togs hX0 ns (fun n hm => (hns n hm).cn) hn
  have e : ns.foldl togX (bts (clX l)) = stAll true (bts (clX l)) ns := by unfold stAll; rw [stX_true]
  rw [e] at t1 t2 t3
  refine ⟨hf, hasc, by rw [hf.wd]; exact t2, fun v => by rw [hf.wd, t3 v, c2], ⟨fun c hc => hall c (hf.sub c hc), ?_⟩⟩
  have := hf.wd
  show (words (bts _)).Nodup
  rw [this]; exact t2

/-- Toggled once, and again. -/
theorem toggle_two {l R R2 : List At2} {ns : List (List UInt8)} (A : TgS l R ns) (B : TgS R R2 ns) (hv : SimC (clV l)) (hn : ns.Nodup) :
    (words (bts (clV R))).length = (togW (words (bts (clV l))) ns).length ∧ (∀ v ∈ togW (words (bts (clV l))) ns, v ∈ words (bts (clV R))) ∧
    (words (bts (clV R2))).length = (words (bts (clV l))).length ∧ (∀ v ∈ words (bts (clV l)), v ∈ words (bts (clV R2))) := by
  have m1 : ∀ v, v ∈ words (bts (clV R)) ↔ v ∈ togW (words (bts (clV l))) ns := fun v => by rw [A.mem, togW_mem]
  have m2 : ∀ v, v ∈ words (bts (clV R2)) ↔ v ∈ words (bts (clV l)) := fun v => by
    rw [B.mem, A.mem]
    by_cases h1 : v ∈ ns <;> by_cases h2 : v ∈ words (bts (clV l)) <;> simp [h1, h2]
  exact ⟨same_length A.once (togW_nodup hv.once hn) m1, fun v h => (m1 v).2 h, same_length B.once hv.once m2, fun v h => (m2 v).2 h⟩

theorem add_one {n : List UInt8} (hn : NmT n) : words (bts (clV (tgA [] (stAll false (bts (clX [])) [n])))) = [n] ∧ TgF [] (tgA [] (stAll false (bts (clX [])) [n])) (stAll false (bts (clX [])) [n]) := by
  have hv : SimC (clV []) := ⟨fun c hc => by simp [clV] at hc, by simp [clV, words, wds]⟩
  obtain ⟨c1, c2, c3, c4⟩ := clX_facts hv
  have hw : words (bts (clX [])) = [] := by rw [c2]; rfl
  have hall := stAll_all (P := fun c => c.toNat ≠ 12 ∧ c.toNat ≠ 11 ∧ c.toNat < 128) (by decide) (how := false) (ns := [n]) (X := bts (clX [])) c3 (fun m hm c hc => by rw [List.mem_singleton] at hm; subst hm; have := hn.2 c hc; omega)
  have hf := tgA_facts (l := []) (by simp [KeysOnce]) (X := stAll false (bts (clX [])) [n]) (fun c hc => ⟨(hall c hc).2.2, (hall c hc).2.1⟩)
  obtain ⟨-, h2⟩ := addX_add c1 hn.cn (by rw [hw]; simp)
  refine ⟨?_, hf⟩
  rw [hf.wd]
  show words (addX (bts (clX [])) n) = [n]
  rw [h2, hw]; rfl

theorem togW_fold (W ns : List (List UInt8)) : togW W ns = (W.filter fun w => !decide (w ∈ ns)) ++ ns.filter fun w => !decide (w ∈ W) := rfl
theorem filter_take_succ {W : List (List UInt8)} {p : List UInt8 → Bool} {k : Nat} (h : k < W.length) : (W.take (k + 1)).filter p = (W.take k).filter p ++ if p W[k] then [W[k]] else [] := by
  rw [List.take_succ_eq_append_getElem h, List.filter_append, List.filter_cons, List.filter_nil]
theorem clV_sim {l : List At2} (h : ∀ x ∈ l, x.key.toList = clsN → SimC x.val) : SimC (clV l) := by
  unfold clV
  split
  · rename_i hi
    exact h _ (List.getElem_mem hi) ((idxA_key hi).trans (by rw [ByteArray.toList_eq]; rfl))
  · exact ⟨fun c hc => by simp at hc, by simp [words, wds]⟩
theorem clV_size {l : List At2} (h : ∀ x ∈ l, x.key.size ≤ 200 ∧ x.val.size ≤ 200) : (clV l).size ≤ 200 := by
  unfold clV
  split
  · rename_i hi
    exact (h _ (List.getElem_mem hi)).2
  · exact Nat.zero_le _
theorem small_of {l R : List At2} {X : List UInt8} {m : Nat} (F : TgF l R X) (hl : ∀ x ∈ l, x.key.size ≤ 200 ∧ x.val.size ≤ 200) (hm : 200 ≤ m) (hv : (clV R).size ≤ m) : ∀ x ∈ R, x.key.size ≤ m ∧ x.val.size ≤ m := by
  intro x hx
  by_cases hk : x.key.toList = clA.toList
  · have h1 : findA R clA = some x := (findA_mem F.once).2 ⟨hx, hk⟩
    have h2 : clV R = x.val := by rw [← findA_clV, h1]; rfl
    refine ⟨?_, by rw [← h2]; exact hv⟩
    have h3 : x.key = clA := ByteArray.ext (Array.toList_inj.1 (by rw [← ByteArray.toList_eq, ← ByteArray.toList_eq]; exact hk))
    rw [h3]
    show 5 ≤ m
    omega
  · have h1 := F.o2 x hx hk
    have h2 : x ∈ l := List.mem_of_find?_eq_some h1
    have := hl x h2
    omega
theorem tog_size {l R : List At2} {ns : List (List UInt8)} {how : Bool} (F : TgF l R (stAll how (bts (clX l)) ns)) (hns : ∀ n ∈ ns, n.length ≤ 40) (hl : ns.length ≤ 8) : (clV R).size ≤ (clX l).size + 328 := by
  have h1 := F.sz
  have h2 := stAll_len (how := how) (m := 40) (ns := ns) (X := bts (clX l)) hns
  have h3 : (bts (clX l)).length = (clX l).size := rfl
  have : ns.length * (40 + 1) ≤ 8 * (40 + 1) := Nat.mul_le_mul_right _ hl
  omega
theorem clX_nil : AscT (bts (clX [])) := by
  have hv : SimC (clV []) := ⟨fun c hc => by simp [clV] at hc, by simp [clV, words, wds]⟩
  obtain ⟨-, -, c3, -⟩ := clX_facts hv
  exact fun c hc => ⟨(c3 c hc).2.2, (c3 c hc).2.1⟩
end Go.Proofs.Ytjebadadimejpaa

namespace Go.Proofs.Ytjebadadimejpaa
open Go.RowKit
set_option linter.unusedVariables false

theorem strs_bts (xs : List ByteArray) : strs (xs.map bts) = xs.map Value.string := by
  unfold strs
  rw [List.map_map]
  refine List.map_congr_left fun x _ => ?_
  show Value.string ⟨(bts x).toArray⟩ = .string x
  simp [bts]
theorem ssl_rsl {w : World} {B : Nat} {a : Option Addr} {xs : List ByteArray} (h : SSl w B a xs) : RSl w B a (strs (xs.map bts)) := by
  rw [strs_bts]
  rcases h.2.2 with h0 | ⟨b, o, ha, hb, hc⟩
  · subst h0; exact .inl rfl
  · exact .inr ⟨b, o, ha, hb, fun i hi => by rw [List.getElem_map]; exact hc i (by simpa using hi)⟩
theorem rsl_ownS {w : World} {base n c : Nat} {a : Option Addr} {l : List (List UInt8)} (h : w.ownsRow base 9 1 (.slice a n c) n (strs l)) : RSl w w.heap.size a (strs l) := by
  obtain ⟨_, _, hv, _, hrs⟩ := RSl.own h
  cases hv; exact hrs
theorem asl_nil (w : World) : ASl w w.heap.size none [] := ⟨by simp, by simp, .inl rfl⟩

set_option maxRecDepth 100000 in
set_option maxHeartbeats 8000000 in
theorem FnAttrsToggled_walk (ad : Option Addr) (len c : Nat) (l : List At2) (a2 : Option Addr) (len2 c2 : Nat) (xs : List ByteArray) (w : World) (h : ASl w w.heap.size ad l ∧ len = l.length) (hi : SSl w w.heap.size a2 xs ∧ len2 = xs.length ∧ len2 ≤ c2) :
    Calls Try.prog 3 #[.slice ad len c, .slice a2 len2 c2] w fun e w' => e = .returned (.bool true) ∧ Below w.heap.size w w' := by
  obtain ⟨h, rfl⟩ := h
  obtain ⟨hi, rfl, hc2⟩ := hi
  obtain ⟨i0, hinf, hz0, hz1, hz2⟩ := info_parts Try.infoStr
  have HH := Lib.hid h
  have HI := Lib.hid hi
  have hlm := h.1
  have hxm := hi.1
  unfold maxLen at hlm hxm
  clear h hi
  go_enter Try.func3, Try.ntmps3
  go_wp2_with fail
  refine (zzFits3_any _ _ l _ HH.out).mono ?_
  rintro e w1 ⟨rfl, hb1⟩
  have HB1 := Lib.hid hb1
  clear hb1
  cases hf : fits3 l
  · go_wp2_with fail
    go_ret
    exact ⟨rfl, HB1.out⟩
  have HZ8 := Lib.hid (zzFits8_any a2 c2 xs w1 (HI.out.next HB1.out))
  go_wp2_with fail
  refine HZ8.out.mono ?_
  rintro e w2 ⟨b8, rfl, hy8, hb2⟩
  have HB2 := Lib.hid (bnext HB1.out hb2)
  clear hb2
  cases b8
  · go_wp2_with fail
    go_ret
    exact ⟨rfl, HB2.out⟩
  obtain ⟨hxl, hxsz⟩ := hy8 rfl
  have hll : l.length ≤ 2147483647 := by
    unfold fits3 at hf
    simp at hf
    omega
  have HA8 := Lib.hid (attrs8_any ad c l w2 ((HH.out.below HB2.out).more HB2.out.size) hll)
  have HXz := Lib.hid hxsz
  clear hy8 hxsz
  go_wp2_with fail
  refine HA8.out.mono ?_
  rintro e w3 ⟨b7, rfl, hy7, hb3⟩
  have HB3 := Lib.hid (bnext HB2.out hb3)
  have HY7 := Lib.hid hy7
  clear hb3 hy7
  cases b7
  · go_wp2_with fail
    go_ret
    exact ⟨rfl, HB3.out⟩
  have HC7 := Lib.hid (classes7_any xs hxl HXz.out a2 c2 hc2 w3 (HI.out.next HB3.out))
  go_wp2_with fail
  refine HC7.out.mono ?_
  rintro e w4 ⟨bc, rfl, hyc, hb4⟩
  have HB4 := Lib.hid (bnext HB3.out hb4)
  have HYc := Lib.hid hyc
  clear hb4 hyc
  cases bc
  · go_wp2_with fail
    go_ret
    exact ⟨rfl, HB4.out⟩
  obtain ⟨h7, hsim⟩ := HY7.out (by trivial)
  have hc7 := HYc.out (by trivial)
  have H7 := Lib.hid h7
  have HC := Lib.hid hc7
  have hl12 := h7.len
  have hx8 := hc7.len
  have HSm : Hid (SimC (clV l)) := clV_sim hsim
  have hvs := clV_size h7.small
  have HVa := Lib.hid (val7_any ad c l clA w4 ((HH.out.below HB4.out).more HB4.out.size) hll)
  clear h7 hc7 hsim HY7 HYc
  go_wp2_with fail
  refine HVa.out.mono ?_
  rintro e w5 ⟨rfl, hb5⟩
  have HB5 := Lib.hid (bnext HB4.out hb5)
  rw [findA_clV]
  obtain ⟨bI, hbI⟩ : ∃ bI, bI = (findA l clA).isSome := ⟨_, rfl⟩
  rw [← hbI]
  obtain ⟨V, hV⟩ : ∃ V, V = clV l := ⟨_, rfl⟩
  rw [← hV] at hvs ⊢
  have HV := Lib.hid hV
  have HWd := Lib.hid (wordsC_any V (by omega) w5)
  clear hb5 hbI hV
  go_wp2_with fail
  refine HWd.out.mono ?_
  rintro e w6 ⟨aw, cw, rfl, hown6, hb6⟩
  have HB6 := Lib.hid (bnext HB5.out hb6)
  obtain ⟨W, hW⟩ : ∃ W, W = words V.data.toList := ⟨_, rfl⟩
  rw [← hW] at hown6 ⊢
  have HW := Lib.hid hW
  have hWl : W.length ≤ 200 := by
    have h1 := words_count V.data.toList
    have h2 : V.data.toList.length = V.size := rfl
    rw [hW]; omega
  have HRw := Lib.hid (rsl_ownS hown6)
  clear hb6 hown6 hW
  obtain ⟨ns, hns⟩ : ∃ ns, ns = xs.map bts := ⟨_, rfl⟩
  have HNs := Lib.hid hns
  have hnl : ns.length = xs.length := by rw [hns, List.length_map]
  have HNl := Lib.hid hnl
  clear hns hnl
  have HJ : Hid (∀ U, Below w6.heap.size w6 U → Calls Try.prog 11 #[.slice a2 xs.length c2] U fun e w' => e = .returned (.string (jnB xs)) ∧ w' = U) := fun U hb => joined7_any xs hxl (fun x hx => by have := (HC.out.nm x hx).2; omega) a2 c2 U (HI.out.next (bnext HB6.out hb))
  have HWn : Hid (∀ U (y : ByteArray), Calls Try.prog 10 #[.string (jnB xs), .string y] U (BoolB (decide (bts y ∈ ns)) U)) := fun U y => by
    have hjw : words (jnL xs) = xs.map bts := jnL_words _ fun x hx => (HC.out.nm x hx).1.cn
    have e : (jnB xs).data.toList = jnL xs := by unfold jnB; simp
    have hjs : (jnB xs).size ≤ 4398046511104 := by
      have h1 := jnL_len (m := 40) xs (fun x hx => (HC.out.nm x hx).2)
      have h2 : (jnB xs).size = (jnL xs).length := by
        show (jnL xs).toArray.size = _; simp
      rw [h2]
      have : xs.length * (40 + 1) ≤ 8 * (40 + 1) := Nat.mul_le_mul_right _ hx8
      omega
    have := wordL_any (jnB xs) y hjs U
    rw [e, hjw] at this
    rw [HNs.out]
    exact this
  have HWv : Hid (∀ U (y : ByteArray), Calls Try.prog 10 #[.string V, .string y] U (BoolB (decide (bts y ∈ W)) U)) := fun U y => by
    have := wordL_any V y (by omega) U
    rw [HW.out]
    exact this
  go_wp2_with fail
  go_loopw [8, 9] (fun v x wr => ∃ (k : Nat) (acc : List (List UInt8)) (a : Option Addr) (cc : Nat), k ≤ W.length ∧ x = .int .i64 k ∧ v = .slice a acc.length cc ∧ Hid (wr.ownsRow w6.heap.size 9 1 (.slice a acc.length cc) acc.length (strs acc)) ∧ Hid (acc = (W.take k).filter fun y => !decide (y ∈ ns)) ∧ Hid (Below w6.heap.size w6 wr)) (fun _ x _ => W.length - (intOf x).toNat)
  case atStart => exact ⟨0, [], none, 0, by omega, rfl, rfl, World.ownsRow_nil _ _ _ _, by simp [Hid], Below.refl _ _⟩
  case round =>
    obtain ⟨k, acc, a, cc, hk, rfl, rfl, hown, hacc, hb⟩ := hrel
    obtain ⟨U, rfl⟩ : ∃ U : World, U = wr := ⟨_, rfl⟩
    have HO := Lib.hid hown.out
    have HAc := Lib.hid hacc.out
    have HBu := Lib.hid hb.out
    have hal : acc.length ≤ 200 := by
      have h1 : acc.length ≤ (W.take k).length := by rw [HAc.out]; exact List.length_filter_le _ _
      rw [List.length_take] at h1; omega
    have hsU := HBu.out.size
    by_cases hlt : k < W.length
    · obtain ⟨b, o, rfl, hbB, hcc⟩ := (HRw.out.below hb.out).at_ (by rw [strs_length]; omega)
      have g1 := hcc k (by rw [strs_length]; exact hlt)
      rw [strs_at hlt] at g1
      have g2 : U.drew.cell? ⟨b, o + k, none⟩ = some (.string ⟨W[k].toArray⟩) := g1
      have HTk := Lib.hid (filter_take_succ (W := W) (p := fun y => !decide (y ∈ ns)) hlt)
      obtain ⟨z, hz⟩ : ∃ z, z = W[k] := ⟨_, rfl⟩
      rw [← hz] at HTk g1 g2
      obtain ⟨y, hy⟩ : ∃ y : ByteArray, y = ⟨z.toArray⟩ := ⟨_, rfl⟩
      have hyb : bts y = z := by rw [hy]; simp [bts]
      rw [← hy] at g1 g2
      have HZ : Hid (Value.string y = .string ⟨z.toArray⟩) := by rw [hy]; rfl
      have HJu := Lib.hid (HJ.out U.drew HBu.out.drew)
      have HWu := Lib.hid (HWn.out U.drew y)
      rw [hyb] at HWu
      obtain ⟨D, hD⟩ : ∃ D, D = decide (z ∈ ns) := ⟨_, rfl⟩
      have HD := Lib.hid hD
      rw [← hD] at HWu
      obtain ⟨Jn, hJn⟩ : ∃ Jn, Jn = jnB xs := ⟨_, rfl⟩
      rw [← hJn] at HJu HWu
      clear hcc hz hy hyb hD hown hacc hb hJn
      go_wp2_with fail
      refine wp_region_still_tail 6 (by kernel_rfl) (by kernel_rfl) ?_
      simp only [List.take_succ_cons, List.take_zero, List.drop_succ_cons, List.drop_zero]
      iterate 1 still_step
      still_call HJu.out
      iterate 4 still_step
      refine wpStill_nil ?_
      change wpList _ _ _ _ _ U.drew
      go_wp2_with fail
      refine HWu.out.mono ?_
      rintro e w7 ⟨rfl, hb7⟩
      have HB7 := Lib.hid (bnext HBu.out.drew hb7)
      have HO7 : Hid (w7.ownsRow w6.heap.size 9 1 (.slice a acc.length cc) acc.length (strs acc)) := own_kept HO.out (fun q _ hq => hb7.block q hq)
      have g3 := (hb7.cell (p := ⟨b, o + k, none⟩) (Nat.lt_of_lt_of_le hbB hsU)).trans g2
      have hs7 := HB7.out.size
      cases D
      · have HN : Hid (acc ++ [z] = (W.take (k + 1)).filter fun y => !decide (y ∈ ns)) := by
          rw [Hid, HTk.out, ← HD.out, ← HAc.out]; rfl
        clear hb7 g1 g2
        go_wp2_with (at_builtin; refine wpList_append_own _ rfl _ _ 23 rfl w6.heap.size 9 i0 (.string ⟨#[]⟩) 1 16 Try.underlying23 hinf hz0 hz1 hz2 rfl (by decide) _ _ _ rfl (HO7.out.alloc _) ⟨w7.heap.size, 0, none⟩ 1 1 [.string y] rfl rfl (cell_one_new _ _ _) (by intro u hu; simp at hu; subst hu; rfl) (by unfold maxLen; omega) (by omega) (by simp; omega) ?_)
        intro v' w8 hown' hgrow _
        obtain ⟨a3, c3, hv2⟩ := own_sl hown'
        rw [hv2] at hown' ⊢
        have hb8 : Below w6.heap.size w6 w8 := (HB7.out.alloc hs7 _).grown hgrow (by simp; omega) (fun q hq => (HO7.out.lt q hq).1)
        have HO8 : Hid (w8.ownsRow w6.heap.size 9 1 (.slice a3 (acc.length + 1) c3) (acc.length + 1) (strs (acc ++ [z]))) := by
          rw [Hid, strs_snoc, ← HZ.out]; exact hown'
        have HB8 := Lib.hid hb8
        clear hown' hgrow hv2 hb8 g3
        go_wp2_with fail
        go_roundw
        case rel => exact ⟨k + 1, acc ++ [z], a3, c3, hlt, by go_num, by rw [List.length_append]; rfl, by rw [List.length_append]; exact HO8.out, HN.out, HB8.out⟩
        case measure => simp [intOf]; omega
      · have HN : Hid (acc = (W.take (k + 1)).filter fun y => !decide (y ∈ ns)) := by
          rw [Hid, HTk.out, ← HD.out, ← HAc.out]; simp
        clear hb7 g1 g2 g3
        go_wp2_with fail
        go_roundw
        case rel => exact ⟨k + 1, acc, a, cc, hlt, by go_num, rfl, HO7.out, HN.out, HB7.out⟩
        case measure => simp [intOf]; omega
    · have ek : k = W.length := by omega
      have HA1 : Hid (acc = W.filter fun y => !decide (y ∈ ns)) := by
        have := HAc.out
        rw [ek, List.take_length] at this
        exact this
      subst ek
      clear hown hacc hb
      go_wp2_with fail
      go_loopw [8, 10] (fun v x wr => ∃ (k : Nat) (acc : List (List UInt8)) (a : Option Addr) (cc : Nat), k ≤ xs.length ∧ x = .int .i64 k ∧ v = .slice a acc.length cc ∧ Hid (wr.ownsRow w6.heap.size 9 1 (.slice a acc.length cc) acc.length (strs acc)) ∧ Hid (acc = (W.filter fun y => !decide (y ∈ ns)) ++ ((ns.take k).filter fun y => !decide (y ∈ W))) ∧ Hid (Below w6.heap.size w6 wr)) (fun _ x _ => xs.length - (intOf x).toNat)
      case atStart => exact ⟨0, acc, a, cc, by omega, rfl, rfl, HO.out, by rw [Hid, HA1.out]; simp, HBu.out⟩
      case round =>
        clear HO HAc HBu HA1
        obtain ⟨k, acc, a, cc, hk, rfl, rfl, hown, hacc, hb⟩ := hrel
        obtain ⟨U, rfl⟩ : ∃ U : World, U = wr := ⟨_, rfl⟩
        have HO := Lib.hid hown.out
        have HAc := Lib.hid hacc.out
        have HBu := Lib.hid hb.out
        have hal : acc.length ≤ 210 := by
          have h1 : (W.filter fun y => !decide (y ∈ ns)).length ≤ W.length := List.length_filter_le _ _
          have h2 : ((ns.take k).filter fun y => !decide (y ∈ W)).length ≤ (ns.take k).length := List.length_filter_le _ _
          rw [List.length_take] at h2
          have h3 := congrArg List.length HAc.out
          rw [List.length_append] at h3
          omega
        have hsU := HBu.out.size
        by_cases hlt : k < xs.length
        · have hkn : k < ns.length := by rw [HNl.out]; exact hlt
          obtain ⟨b, o, rfl, hbB, hcc⟩ := (HI.out.next (bnext HB6.out hb.out)).at_ (by omega)
          have g1 := hcc k hlt
          have HTk := Lib.hid (filter_take_succ (W := ns) (p := fun y => !decide (y ∈ W)) hkn)
          obtain ⟨y, hy⟩ : ∃ y : ByteArray, y = xs[k] := ⟨_, rfl⟩
          have hyb : bts y = ns[k] := by rw [hy]; simp only [HNs.out, List.getElem_map]
          obtain ⟨z, hz⟩ : ∃ z, z = ns[k] := ⟨_, rfl⟩
          rw [← hz] at HTk hyb
          rw [← hy] at g1
          have HZ : Hid (Value.string y = .string ⟨z.toArray⟩) := by rw [← hyb]; simp [bts, Hid]
          have HWu := Lib.hid (HWv.out U y)
          rw [hyb] at HWu
          obtain ⟨D, hD⟩ : ∃ D, D = decide (z ∈ W) := ⟨_, rfl⟩
          have HD := Lib.hid hD
          rw [← hD] at HWu
          clear hcc hz hy hyb hD hown hacc hb hkn
          go_wp2_with fail
          refine HWu.out.mono ?_
          rintro e w7 ⟨rfl, hb7⟩
          have HB7 := Lib.hid (bnext HBu.out hb7)
          have HO7 : Hid (w7.ownsRow w6.heap.size 9 1 (.slice a acc.length cc) acc.length (strs acc)) := own_kept HO.out (fun q _ hq => hb7.block q hq)
          have g3 := (hb7.cell (p := ⟨b, o + k, none⟩) hbB).trans g1
          have hs7 := HB7.out.size
          cases D
          · have HN : Hid (acc ++ [z] = (W.filter fun y => !decide (y ∈ ns)) ++ ((ns.take (k + 1)).filter fun y => !decide (y ∈ W))) := by
              rw [Hid, HTk.out, ← HD.out, HAc.out]; simp
            clear hb7 g1
            go_wp2_with (at_builtin; refine wpList_append_own _ rfl _ _ 23 rfl w6.heap.size 9 i0 (.string ⟨#[]⟩) 1 16 Try.underlying23 hinf hz0 hz1 hz2 rfl (by decide) _ _ _ rfl (HO7.out.alloc _) ⟨w7.heap.size, 0, none⟩ 1 1 [.string y] rfl rfl (cell_one_new _ _ _) (by intro u hu; simp at hu; subst hu; rfl) (by unfold maxLen; omega) (by omega) (by simp; omega) ?_)
            intro v' w8 hown' hgrow _
            obtain ⟨a3, c3, hv2⟩ := own_sl hown'
            rw [hv2] at hown' ⊢
            have hb8 : Below w6.heap.size w6 w8 := (HB7.out.alloc hs7 _).grown hgrow (by simp; omega) (fun q hq => (HO7.out.lt q hq).1)
            have HO8 : Hid (w8.ownsRow w6.heap.size 9 1 (.slice a3 (acc.length + 1) c3) (acc.length + 1) (strs (acc ++ [z]))) := by
              rw [Hid, strs_snoc, ← HZ.out]; exact hown'
            have HB8 := Lib.hid hb8
            clear hown' hgrow hv2 hb8 g3
            go_wp2_with fail
            go_roundw
            case rel => exact ⟨k + 1, acc ++ [z], a3, c3, hlt, by go_num, by rw [List.length_append]; rfl, by rw [List.length_append]; exact HO8.out, HN.out, HB8.out⟩
            case measure => simp [intOf]; omega
          · have HN : Hid (acc = (W.filter fun y => !decide (y ∈ ns)) ++ ((ns.take (k + 1)).filter fun y => !decide (y ∈ W))) := by
              rw [Hid, HTk.out, ← HD.out, HAc.out]; simp
            clear hb7 g1 g3
            go_wp2_with fail
            go_roundw
            case rel => exact ⟨k + 1, acc, a, cc, hlt, by go_num, rfl, HO7.out, HN.out, HB7.out⟩
            case measure => simp [intOf]; omega
        · have ek : k = xs.length := by omega
          have hWt : acc = togW W ns := by
            have := HAc.out
            rw [ek, List.take_of_length_le (by rw [HNl.out]; omega)] at this
            exact this
          have HWt := Lib.hid hWt
          have HBz := Lib.hid (bnext HB6.out HBu.out)
          have HRt := Lib.hid (rsl_ownS HO.out)
          have HRw2 := Lib.hid (HRw.out.below HBu.out)
          -- the facts
          have hnm : ∀ n ∈ ns, NmT n := fun n hn => by
            rw [HNs.out] at hn
            obtain ⟨x, hx, rfl⟩ := List.mem_map.1 hn
            exact (HC.out.nm x hx).1
          have hnd : ns.Nodup := by rw [HNs.out]; exact HC.out.once
          have A := toggle_facts H7.out.once HSm.out hnm hnd
          obtain ⟨R1, hR1⟩ : ∃ R1, R1 = tgA l (stAll true (bts (clX l)) ns) := ⟨_, rfl⟩
          rw [← hR1] at A
          have B := toggle_facts A.f.once A.sim hnm hnd
          obtain ⟨R2, hR2⟩ : ∃ R2, R2 = tgA R1 (stAll true (bts (clX R1)) ns) := ⟨_, rfl⟩
          rw [← hR2] at B
          obtain ⟨t1, t2, t3, t4⟩ := toggle_two A B HSm.out hnd
          have hnl : ∀ n ∈ ns, n.length ≤ 40 := fun n hn => by
            rw [HNs.out] at hn
            obtain ⟨x, hx, rfl⟩ := List.mem_map.1 hn
            exact (HC.out.nm x hx).2
          have hn8 : ns.length ≤ 8 := by rw [HNl.out]; exact hx8
          have hvl : (clV l).size ≤ 200 := by rw [← HV.out]; exact hvs
          obtain ⟨-, -, ca, cb⟩ := clX_facts HSm.out
          have hs1 := tog_size A.f hnl hn8
          obtain ⟨-, -, cc1, cd1⟩ := clX_facts A.sim
          have hs2 := tog_size B.f hnl hn8
          have hL1 := A.f.len
          have hL2 := B.f.len
          have hsm1 := small_of (m := 1000) A.f H7.out.small (by omega) (by omega)
          have o12 : ∀ x ∈ l, x.key.toList ≠ clA.toList → findA R2 x.key = some x := fun x hx hk => by
            have h1 := A.f.o1 x hx hk
            exact B.f.o1 x (List.mem_of_find?_eq_some h1) hk
          have o22 : ∀ x ∈ R2, x.key.toList ≠ clA.toList → ∃ z, findA l x.key = some z := fun x hx hk => by
            have h1 := B.f.o2 x hx hk
            exact ⟨x, A.f.o2 x (List.mem_of_find?_eq_some h1) hk⟩
          have hsm2 : ∀ x ∈ R2, x.key.size ≤ 1000 ∧ x.val.size ≤ 1000 := fun x hx => by
            by_cases hk : x.key.toList = clA.toList
            · have h1 : findA R2 clA = some x := (findA_mem B.f.once).2 ⟨hx, hk⟩
              have h2 : clV R2 = x.val := by rw [← findA_clV, h1]; rfl
              refine ⟨?_, by rw [← h2]; omega⟩
              have h3 : x.key = clA := ByteArray.ext (Array.toList_inj.1 (by rw [← ByteArray.toList_eq, ← ByteArray.toList_eq]; exact hk))
              rw [h3]; decide
            · have h1 := B.f.o2 x hx hk
              exact hsm1 x (List.mem_of_find?_eq_some h1)
          have hxpos : 0 < xs.length := List.length_pos_iff.2 HC.out.ne
          obtain ⟨bk, ok, rfl, hbk, hcx⟩ := (HI.out.next HBz.out).at_ hxpos
          have hcells : ∀ U', Below U.heap.size U U' → ∀ (j : Nat) x, xs[j]? = some x → U'.cell? ⟨bk, ok + j, none⟩ = some (.string x) := fun U' hb j x hj => by
            obtain ⟨hjl, rfl⟩ := List.getElem?_eq_some_iff.1 hj
            exact (hb.cell (p := ⟨bk, ok + j, none⟩) hbk).trans (hcx j hjl)
          have hNx : ∀ x ∈ xs, NmT (bts x) ∧ x.size ≤ 1000 := fun x hx => ⟨(HC.out.nm x hx).1, by have := (HC.out.nm x hx).2; omega⟩
          have HT1 : Hid (Calls Try.prog 12 #[.slice ad l.length c, .slice (some ⟨bk, ok, none⟩) xs.length c2] U (AtsPost R1 U)) := by
            have := attrsToggled_any xs HC.out.ne hNx (by omega) ad c l (by omega) (by omega) (fun x hx => ⟨(ca x hx).2.2, (ca x hx).2.1⟩) (by omega) (by rw [← HNs.out, ← hR1]; omega) bk ok c2 hc2 U ((HH.out.below HBz.out).more HBz.out.size) (hcells U (Below.refl _ _)) hbk
            rw [← HNs.out, ← hR1] at this; exact this
          have HT2 : Hid (∀ U' a' c', Below U.heap.size U U' → ASl U' U'.heap.size a' R1 → Calls Try.prog 12 #[.slice a' R1.length c', .slice (some ⟨bk, ok, none⟩) xs.length c2] U' (AtsPost R2 U')) := fun U' a' c' hb ha => by
            have := attrsToggled_any xs HC.out.ne hNx (by omega) a' c' R1 (by omega) (by omega) (fun x hx => ⟨(cc1 x hx).2.2, (cc1 x hx).2.1⟩) (by omega) (by rw [← HNs.out, ← hR2]; omega) bk ok c2 hc2 U' ha (hcells U' hb) (Nat.lt_of_lt_of_le hbk hb.size)
            rw [← HNs.out, ← hR2] at this; exact this
          have hm0 := List.getElem_mem hxpos
          obtain ⟨w1c, F3⟩ := add_one (hNx _ hm0).1
          obtain ⟨R3, hR3⟩ : ∃ R3, R3 = tgA [] (stAll false (bts (clX [])) [bts (xs[0]'hxpos)]) := ⟨_, rfl⟩
          rw [← hR3] at w1c F3
          have hs3 := tog_size F3 (fun n hn => by rw [List.mem_singleton] at hn; subst hn; exact (HC.out.nm _ hm0).2) (by simp)
          have hcx0 : (clX []).size = 2 := by decide
          have hL3 : R3.length ≤ 1 := F3.len
          have hsm3 := small_of (m := 1000) F3 (fun x hx => by simp at hx) (by omega) (by omega)
          have HT3 : Hid (∀ U', Below U.heap.size U U' → Calls Try.prog 13 #[.slice none 0 0, .slice (some ⟨bk, ok, none⟩) 1 c2] U' (AtsPost R3 U')) := fun U' hb => by
            have := attrsAdded_any [xs[0]'hxpos] (by simp) (fun x hx => by rw [List.mem_singleton] at hx; subst hx; exact hNx _ hm0) (by simp) none 0 [] (by simp) (by decide) clX_nil (by decide) (by rw [List.map_singleton, ← hR3]; omega) bk ok c2 (by simp; omega) U' (asl_nil U') (fun j x hj => by
              cases j with
              | zero => simp at hj; subst hj; exact hcells U' hb 0 _ (List.getElem?_eq_getElem hxpos)
              | succ j => simp at hj) (Nat.lt_of_lt_of_le hbk hb.size)
            rw [List.map_singleton, ← hR3] at this; exact this
          have hA : ∀ (R : List At2) (a : Option Addr) (c' : Nat) (U1 U2 : World), (∀ x ∈ R, x.key.size ≤ 1000 ∧ x.val.size ≤ 1000) → R.length ≤ 1000 → U2.ownsRow U1.heap.size 35 2 (.slice a R.length c') R.length (flat2 R) → ASl U2 U2.heap.size a R := fun R a c' U1 U2 hs hl ho => asl_own ho (by unfold maxLen; omega) (fun x hx => by have := hs x hx; unfold maxLen; omega)
          have HAs := Lib.hid hA
          have HF1 : Hid (∀ U' a' c', Below U.heap.size U U' → ASl U' U'.heap.size a' R1 → Calls Try.prog 14 #[.slice a' R1.length c', .slice a acc.length cc] U' (fun e w' => e = .returned (.bool true) ∧ Below U'.heap.size U' w')) := fun U' a' c' hb ha => by
            have hlw : acc.length ≤ 210 := hal
            have := classed7_yes a' c' R1 (by omega) acc (by omega) a cc U' ha ((HRt.out.below hb).more hb.size) (clV R1) (findA_clV R1) (by omega) (by rw [hWt, HW.out, HV.out]; exact t1) (fun v hv => t2 v (by rw [hWt, HW.out, HV.out] at hv; exact hv))
            exact this
          have HF2 : Hid (∀ U' a' c', Below U.heap.size U U' → ASl U' U'.heap.size a' R2 → Calls Try.prog 14 #[.slice a' R2.length c', .slice aw W.length cw] U' (fun e w' => e = .returned (.bool true) ∧ Below U'.heap.size U' w')) := fun U' a' c' hb ha => by
            exact classed7_yes a' c' R2 (by omega) W (by omega) aw cw U' ha ((HRw.out.below (bnext HBu.out hb)).more (bnext HBu.out hb).size) (clV R2) (findA_clV R2) (by omega) (by rw [HW.out, HV.out]; exact t3) (fun v hv => t4 v (by rw [HW.out, HV.out] at hv; exact hv))
          have HF3 : Hid (∀ U' a' c', Below U.heap.size U U' → ASl U' U'.heap.size a' R3 → Calls Try.prog 14 #[.slice a' R3.length c', .slice (some ⟨bk, ok, none⟩) 1 c2] U' (fun e w' => e = .returned (.bool true) ∧ Below U'.heap.size U' w')) := fun U' a' c' hb ha => by
            have hr : RSl U' U'.heap.size (some ⟨bk, ok, none⟩) (strs [bts (xs[0]'hxpos)]) := by
              refine .inr ⟨bk, ok, rfl, Nat.lt_of_lt_of_le hbk hb.size, fun i hi => ?_⟩
              have e0 : i = 0 := by simpa [strs] using hi
              subst e0
              have := hcells U' hb 0 _ (List.getElem?_eq_getElem hxpos)
              rw [this]
              simp [strs, bts]
            exact classed7_yes a' c' R3 (by omega) [bts (xs[0]'hxpos)] (by simp) (some ⟨bk, ok, none⟩) c2 U' ha hr (clV R3) (findA_clV R3) (by omega) (by show (words (bts (clV R3))).length = _; rw [w1c]) (fun v hv => by show v ∈ words (bts (clV R3)); rw [w1c]; exact hv)
          have HO1 : Hid (∀ U' a' c', Below U.heap.size U U' → ASl U' U'.heap.size a' R1 → Calls Try.prog 15 #[.slice ad l.length c, .slice a' R1.length c', .string clA] U' (fun e w' => e = .returned (.bool true) ∧ Below U'.heap.size U' w')) := fun U' a' c' hb ha =>
            others8_any ad a' c c' l R1 clA U' ((HH.out.below (bnext HBz.out hb)).more (bnext HBz.out hb).size) ha hll (by omega) A.f.o1 (fun x hx hk => ⟨x, A.f.o2 x hx hk⟩)
          have HO2 : Hid (∀ U' a' c', Below U.heap.size U U' → ASl U' U'.heap.size a' R2 → Calls Try.prog 15 #[.slice ad l.length c, .slice a' R2.length c', .string clA] U' (fun e w' => e = .returned (.bool true) ∧ Below U'.heap.size U' w')) := fun U' a' c' hb ha =>
            others8_any ad a' c c' l R2 clA U' ((HH.out.below (bnext HBz.out hb)).more (bnext HBz.out hb).size) ha hll (by omega) o12 o22
          have hxc2 : 1 ≤ c2 := by omega
          have HS1 := Lib.hid hsm1
          have HS2 := Lib.hid hsm2
          have HS3 := Lib.hid hsm3
          have HL1 : Hid (R1.length ≤ 1000) := by rw [Hid]; omega
          have HL2 : Hid (R2.length ≤ 1000) := by rw [Hid]; omega
          have HL3 : Hid (R3.length ≤ 1000) := by rw [Hid]; omega
          clear hWt hnm hnd A B hR1 hR2 t1 t2 t3 t4 hnl hn8 hvl ca cb hs1 cc1 cd1 hs2 hL1 hL2 hsm1 hsm2 o12 o22 hcells hNx hm0 w1c F3 hR3 hs3 hcx0 hL3 hsm3 hA hcx hown hacc hb ek
          go_wp2_with fail
          refine HT1.out.mono ?_
          rintro e u1 ⟨a1, k1, rfl, ho1, hb1⟩
          have HU1 := Lib.hid hb1
          have HR1 : Hid (ASl u1 u1.heap.size a1 R1) := HAs.out R1 a1 k1 U u1 HS1.out HL1.out ho1
          have HTb := Lib.hid (HT2.out u1 a1 k1 hb1 HR1.out)
          clear ho1 hb1
          go_wp2_with fail
          refine HTb.out.mono ?_
          rintro e u2 ⟨a2', k2, rfl, ho2, hb2⟩
          have HU2 := Lib.hid (bnext HU1.out hb2)
          have HR1b : Hid (ASl u2 u2.heap.size a1 R1) := (HR1.out.below hb2).more hb2.size
          have HR2 : Hid (ASl u2 u2.heap.size a2' R2) := HAs.out R2 a2' k2 u1 u2 HS2.out HL2.out ho2
          have HTc := Lib.hid (HT3.out u2 HU2.out)
          clear ho2 hb2
          go_wp2_with fail
          refine HTc.out.mono ?_
          rintro e u3 ⟨a3', k3, rfl, ho3, hb3⟩
          have HU3 := Lib.hid (bnext HU2.out hb3)
          have HR1c : Hid (ASl u3 u3.heap.size a1 R1) := (HR1b.out.below hb3).more hb3.size
          have HR2c : Hid (ASl u3 u3.heap.size a2' R2) := (HR2.out.below hb3).more hb3.size
          have HR3 : Hid (ASl u3 u3.heap.size a3' R3) := HAs.out R3 a3' k3 u2 u3 HS3.out HL3.out ho3
          have HC1 := Lib.hid (HF1.out u3 a1 k1 HU3.out HR1c.out)
          clear ho3 hb3
          go_wp2_with fail
          refine HC1.out.mono ?_
          rintro e u4 ⟨rfl, hb4⟩
          have HU4 := Lib.hid (bnext HU3.out hb4)
          have HR1d : Hid (ASl u4 u4.heap.size a1 R1) := (HR1c.out.below hb4).more hb4.size
          have HR2d : Hid (ASl u4 u4.heap.size a2' R2) := (HR2c.out.below hb4).more hb4.size
          have HR3d : Hid (ASl u4 u4.heap.size a3' R3) := (HR3.out.below hb4).more hb4.size
          have HC2 := Lib.hid (HO1.out u4 a1 k1 HU4.out HR1d.out)
          clear hb4
          go_wp2_with fail
          refine HC2.out.mono ?_
          rintro e u5 ⟨rfl, hb5⟩
          have HU5 := Lib.hid (bnext HU4.out hb5)
          have HR2e : Hid (ASl u5 u5.heap.size a2' R2) := (HR2d.out.below hb5).more hb5.size
          have HR3e : Hid (ASl u5 u5.heap.size a3' R3) := (HR3d.out.below hb5).more hb5.size
          have HC3 := Lib.hid (HF2.out u5 a2' k2 HU5.out HR2e.out)
          clear hb5
          go_wp2_with fail
          refine HC3.out.mono ?_
          rintro e u6 ⟨rfl, hb6⟩
          have HU6 := Lib.hid (bnext HU5.out hb6)
          have HR2f : Hid (ASl u6 u6.heap.size a2' R2) := (HR2e.out.below hb6).more hb6.size
          have HR3f : Hid (ASl u6 u6.heap.size a3' R3) := (HR3e.out.below hb6).more hb6.size
          have HC4 := Lib.hid (HO2.out u6 a2' k2 HU6.out HR2f.out)
          clear hb6
          go_wp2_with fail
          refine HC4.out.mono ?_
          rintro e u7 ⟨rfl, hb7⟩
          have HU7 := Lib.hid (bnext HU6.out hb7)
          have HR3g : Hid (ASl u7 u7.heap.size a3' R3) := (HR3f.out.below hb7).more hb7.size
          have HC5 := Lib.hid (HF3.out u7 a3' k3 HU7.out HR3g.out)
          clear hb7
          go_wp2_with fail
          refine HC5.out.mono ?_
          rintro e u8 ⟨rfl, hb8⟩
          have HU8 := Lib.hid (bnext HBz.out (bnext HU7.out hb8))
          clear hb8
          go_wp2_with fail
          go_ret
          exact ⟨by trivial, HU8.out⟩
end Go.Proofs.Ytjebadadimejpaa
