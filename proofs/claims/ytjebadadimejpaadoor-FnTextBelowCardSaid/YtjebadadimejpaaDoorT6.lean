/- The reference's look at a node, and at the whole tree. -/
import Derived.Test.YtjebadadimejpaaDoorT5
namespace Go.Proofs.YtjebadadimejpaaDoor
open Go.RowKit
set_option linter.unusedVariables false

theorem emp_yes {s : ByteArray} (h : s.toList.isEmpty = true) : s.size = 0 := by
  rw [ByteArray.toList_eq] at h
  have h2 : s.data.toList = [] := by simpa using h
  have h3 : s.data.toList.length = 0 := by rw [h2]; rfl
  simpa using h3

theorem emp_no {s : ByteArray} (h : s.toList.isEmpty = false) : 0 < s.size := by
  rw [ByteArray.toList_eq] at h
  rcases Nat.eq_zero_or_pos s.size with h0 | h0
  · have h2 : s.data.toList = [] := by
      apply List.eq_nil_of_length_eq_zero
      simpa using h0
    rw [h2] at h
    simp at h
  · exact h0

theorem NSl.more {w : World} {B B' : Nat} {a : Option Addr} {t : List Nd} (h : NSl w B a t) (hB : B ≤ B') : NSl w B' a t := by
  obtain ⟨hm, hs, hr⟩ := h
  refine ⟨hm, fun x hx => (hs x hx).more hB, ?_⟩
  rcases hr with h0 | ⟨b, o, ha, hbB, hc⟩
  · exact .inl h0
  · exact .inr ⟨b, o, ha, by omega, hc⟩

/-- The list lies as it lay behind whatever leaves old memory alone. -/
theorem NSl.up {w w' : World} {a : Option Addr} {t : List Nd} (h : NSl w w.heap.size a t) (hb : Below w.heap.size w w') : NSl w' w'.heap.size a t := (h.below hb).more hb.size
theorem RSl.up {w w' : World} {a : Option Addr} {xs : List Value} (h : RSl w w.heap.size a xs) (hb : Below w.heap.size w w') : RSl w' w'.heap.size a xs := (h.below hb).more hb.size

/-- What a node's kind says of it. -/
structure NodeP (t : List Nd) (i : Nat) (x : Nd) : Prop where
  kinds : (x.kind = 1 ∧ i = 0) ∨ (x.kind = 2 ∧ x.size = 1 ∧ parI t i i = 0) ∨ (x.kind = 3 ∧ AttrsP x.attrs) ∨ ((x.kind = 4 ∨ x.kind = 5) ∧ x.size = 1)
  text : x.kind = 1 ∨ x.kind = 3 → x.text.size = 0
  tag : x.kind ≠ 3 → x.tag.size = 0 ∧ x.attrs.length = 0

def SomeBB (P : Prop) (w : World) (e : Ending) (w' : World) : Prop := ∃ b, e = .returned (.bool b) ∧ (b = true → P) ∧ Below w.heap.size w w'

set_option maxRecDepth 100000 in
set_option maxHeartbeats 2000000 in
theorem rightNode_any (a : Option Addr) (c : Nat) (t : List Nd) (ht : t.length ≤ 200) (i : Nat) (w : World) (h : NSl w w.heap.size a t) (hi : i < t.length) (hl : Lam t 0 t.length) (h1 : sz t 0 = t.length) (hf : fits1 t = true) :
    Calls Tryd.prog 13 #[.slice a t.length c, .int .i64 i] w (SomeBB (NodeP t i t[i]) w) := by
  have hfx : fits2 t[i] = true := by
    simp only [fits1, Bool.and_eq_true, List.all_eq_true] at hf
    exact hf.2 _ (List.getElem_mem hi)
  simp only [fits2, Bool.and_eq_true, decide_eq_true_eq] at hfx
  have HH := Lib.hid h
  obtain ⟨b, o, rfl, hbB, hc⟩ := h.at_ (by omega)
  obtain ⟨g1, g2, g3, g4, g5, hok⟩ := hc i hi
  clear hc h hf
  obtain ⟨x, hx⟩ : ∃ x, x = t[i] := ⟨_, rfl⟩
  rw [← hx] at g1 g2 g3 g4 g5 hok hfx ⊢
  have HX := Lib.hid hx
  have HA := Lib.hid hok.attrs
  have HF := Lib.hid hfx
  have hal := hok.attrs.1
  unfold maxLen at hal
  clear hx hok hfx
  obtain ⟨kd, tag, text, aa, ac, attrs, size⟩ := x
  dsimp only at g1 g2 g3 g4 g5 HA HF hal
  have hbal : ∀ O, Below w.heap.size w (w.alloc O) := fun O => (Below.refl _ _).alloc (Nat.le_refl _) O
  have HB := Lib.hid hbal
  clear hbal
  by_cases hk3 : kd = 3
  · subst hk3
    cases et : text.toList.isEmpty
    all_goals
      go_enter Tryd.func13, Tryd.ntmps13
      go_wp2_with fail
      refine (plain_any _ _ HF.out.1.2).mono ?_
      rintro e w1 ⟨r, rfl, rfl⟩
      cases r
    · go_wp2_with fail
      go_ret
      exact ⟨false, rfl, by simp, HB.out _⟩
    · go_wp2_with fail
      go_ret
      exact ⟨false, rfl, by simp, HB.out _⟩
    · go_wp2_with fail
      go_ret
      exact ⟨false, rfl, by simp, HB.out _⟩
    · go_wp2_with fail
      refine (name_any _ _ HF.out.1.1).mono ?_
      rintro e w1 ⟨r, rfl, rfl⟩
      cases r
      · go_wp2_with fail
        go_ret
        exact ⟨false, rfl, by simp, HB.out _⟩
      · go_wp2_with fail
        refine (rightAttrs_any _ _ attrs _ ((HA.out.below (HB.out _)).more (by simp)) HF.out.2).mono ?_
        rintro e w1 ⟨r, q, rfl, hr, rfl⟩
        have HR := Lib.hid hr
        clear hr
        go_wp2_with fail
        go_ret
        exact ⟨r, rfl, fun hr => ⟨.inr (.inr (.inl ⟨rfl, HR.out hr⟩)), fun _ => emp_yes et, fun hne => absurd rfl hne⟩, below_drewN (HB.out _) q⟩
  · have z3 : (kd == 3) = false := beq_eq_false_iff_ne.2 hk3
    have HK3 := Lib.hid hk3
    clear hk3
    cases eg : tag.toList.isEmpty
    · go_enter Tryd.func13, Tryd.ntmps13
      go_wp2_with fail
      go_ret
      exact ⟨false, rfl, by simp, HB.out _⟩
    · by_cases hat : 0 < attrs.length
      · go_enter Tryd.func13, Tryd.ntmps13
        go_wp2_with fail
        go_ret
        exact ⟨false, rfl, by simp, HB.out _⟩
      · have htag : Hid (tag.size = 0 ∧ attrs.length = 0) := ⟨emp_yes eg, by omega⟩
        by_cases hk1 : kd = 1
        · subst hk1
          go_enter Tryd.func13, Tryd.ntmps13
          go_wp2_with fail
          refine (plain_any _ _ HF.out.1.2).mono ?_
          rintro e w1 ⟨r, rfl, rfl⟩
          cases r
          · go_wp2_with fail
            go_ret
            exact ⟨false, rfl, by simp, HB.out _⟩
          · cases et : text.toList.isEmpty
            · by_cases hi0 : i = 0
              · subst hi0
                go_wp2_with fail
                go_ret
                exact ⟨false, rfl, by simp, HB.out _⟩
              · have zi : ((i : Int) == 0) = false := beq_eq_false_iff_ne.2 (by omega)
                clear hi0
                go_wp2_with fail
                go_ret
                exact ⟨false, rfl, by simp, HB.out _⟩
            · by_cases hi0 : i = 0
              · subst hi0
                go_wp2_with fail
                refine (rightRoot_any _ _ t ht _ (HH.out.up (HB.out _)) hi hl h1).mono ?_
                rintro e w1 ⟨r, rfl, hb⟩
                go_wp2_with fail
                go_ret
                exact ⟨r, rfl, fun _ => ⟨.inl ⟨rfl, rfl⟩, fun _ => emp_yes et, fun _ => htag.out⟩, (HB.out _).trans (hb.mono (by simp))⟩
              · have zi : ((i : Int) == 0) = false := beq_eq_false_iff_ne.2 (by omega)
                clear hi0
                go_wp2_with fail
                go_ret
                exact ⟨false, rfl, by simp, HB.out _⟩
        · have z1 : (kd == 1) = false := beq_eq_false_iff_ne.2 hk1
          have HK1 := Lib.hid hk1
          clear hk1
          by_cases hk2 : kd = 2
          · subst hk2
            go_enter Tryd.func13, Tryd.ntmps13
            go_wp2_with fail
            refine (plain_any _ _ HF.out.1.2).mono ?_
            rintro e w1 ⟨r, rfl, rfl⟩
            cases r
            · go_wp2_with fail
              go_ret
              exact ⟨false, rfl, by simp, HB.out _⟩
            · by_cases hs1 : size = 1
              · subst hs1
                go_wp2_with fail
                refine (name_any _ _ HF.out.1.2).mono ?_
                rintro e w1 ⟨r, rfl, rfl⟩
                cases r
                · go_wp2_with fail
                  go_ret
                  exact ⟨false, rfl, by simp, HB.out _⟩
                · go_wp2_with fail
                  refine (parent_any _ _ t ht i _ rfl _ (HH.out.up (HB.out _)) hi hl).mono ?_
                  rintro e w1 ⟨rfl, rfl⟩
                  obtain ⟨q, hq⟩ : ∃ q, q = parI t i i := ⟨_, rfl⟩
                  rw [← hq]
                  by_cases hq0 : q = 0
                  · have zq : (q == 0) = true := beq_iff_eq.2 hq0
                    have HQ : Hid (parI t i i = 0) := hq.symm.trans hq0
                    clear hq hq0
                    go_wp2_with fail
                    go_ret
                    exact ⟨true, rfl, fun _ => ⟨.inr (.inl ⟨rfl, rfl, HQ.out⟩), fun h => by rcases h with h | h <;> simp at h, fun _ => htag.out⟩, HB.out _⟩
                  · have zq : (q == 0) = false := beq_eq_false_iff_ne.2 hq0
                    clear hq hq0
                    go_wp2_with fail
                    go_ret
                    exact ⟨false, rfl, by simp, HB.out _⟩
              · have zs : (size == 1) = false := beq_eq_false_iff_ne.2 hs1
                clear hs1
                go_wp2_with fail
                go_ret
                exact ⟨false, rfl, by simp, HB.out _⟩
          · have z2 : (kd == 2) = false := beq_eq_false_iff_ne.2 hk2
            have HK2 := Lib.hid hk2
            clear hk2
            by_cases hk4 : kd = 4
            · subst hk4
              go_enter Tryd.func13, Tryd.ntmps13
              go_wp2_with fail
              refine (plain_any _ _ HF.out.1.2).mono ?_
              rintro e w1 ⟨r, rfl, rfl⟩
              cases r
              · go_wp2_with fail
                go_ret
                exact ⟨false, rfl, by simp, HB.out _⟩
              · by_cases hs1 : size = 1
                · subst hs1
                  go_wp2_with fail
                  go_ret
                  exact ⟨true, rfl, fun _ => ⟨.inr (.inr (.inr ⟨.inl rfl, rfl⟩)), fun h => by rcases h with h | h <;> simp at h, fun _ => htag.out⟩, HB.out _⟩
                · have zs : (size == 1) = false := beq_eq_false_iff_ne.2 hs1
                  clear hs1
                  go_wp2_with fail
                  go_ret
                  exact ⟨false, rfl, by simp, HB.out _⟩
            · have z4 : (kd == 4) = false := beq_eq_false_iff_ne.2 hk4
              have HK4 := Lib.hid hk4
              clear hk4
              by_cases hk5 : kd = 5
              · subst hk5
                go_enter Tryd.func13, Tryd.ntmps13
                go_wp2_with fail
                refine (plain_any _ _ HF.out.1.2).mono ?_
                rintro e w1 ⟨r, rfl, rfl⟩
                cases r
                · go_wp2_with fail
                  go_ret
                  exact ⟨false, rfl, by simp, HB.out _⟩
                · by_cases hs1 : size = 1
                  · subst hs1
                    go_wp2_with fail
                    go_ret
                    exact ⟨true, rfl, fun _ => ⟨.inr (.inr (.inr ⟨.inr rfl, rfl⟩)), fun h => by rcases h with h | h <;> simp at h, fun _ => htag.out⟩, HB.out _⟩
                  · have zs : (size == 1) = false := beq_eq_false_iff_ne.2 hs1
                    clear hs1
                    go_wp2_with fail
                    go_ret
                    exact ⟨false, rfl, by simp, HB.out _⟩
              · have z5 : (kd == 5) = false := beq_eq_false_iff_ne.2 hk5
                have HK5 := Lib.hid hk5
                clear hk5
                go_enter Tryd.func13, Tryd.ntmps13
                go_wp2_with fail
                refine (plain_any _ _ HF.out.1.2).mono ?_
                rintro e w1 ⟨r, rfl, rfl⟩
                cases r
                · go_wp2_with fail
                  go_ret
                  exact ⟨false, rfl, by simp, HB.out _⟩
                · go_wp2_with fail
                  go_ret
                  exact ⟨false, rfl, by simp, HB.out _⟩
end Go.Proofs.YtjebadadimejpaaDoor
