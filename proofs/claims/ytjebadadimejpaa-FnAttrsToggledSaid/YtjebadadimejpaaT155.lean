/- The readings of attributes that the law compares: val7, others7same, attrs7. -/
import Derived.Test.YtjebadadimejpaaT154
import Derived.Test.YtjebadadimejpaaT142
import Derived.Test.YtjebadadimejpaaT28
namespace Go.Proofs.Ytjebadadimejpaa
open Go.RowKit
set_option linter.unusedVariables false

def ValPost (l : List At2) (k : ByteArray) (w : World) (e : Ending) (w' : World) : Prop :=
  e = .returned (.tuple #[.string (valA (findA l k)), .bool (findA l k).isSome]) ∧ Below w.heap.size w w'

set_option maxRecDepth 100000 in
set_option maxHeartbeats 1000000 in
theorem val7_any (a : Option Addr) (c : Nat) (l : List At2) (k : ByteArray) (w : World) (hx : ASl w w.heap.size a l) (hl : l.length ≤ 2147483647) :
    Calls Try.prog 8 #[.slice a l.length c, .string k] w (ValPost l k w) := by
  have HX := Lib.hid hx
  clear hx
  have HC := Lib.hid (fun W (hW : Below w.heap.size w W) => attr_any ⟨0, ⟨#[]⟩, ⟨#[]⟩, a, c, l, 0⟩ k W ((HX.out.below hW).more hW.size) hl)
  go_enter Try.func8, Try.ntmps8
  go_wp2_with fail
  refine (HC.out _ (Below.refl _ _)).mono ?_
  rintro e w1 ⟨h1, hb1⟩
  have HB := Lib.hid hb1
  clear hb1
  cases hf : findA l k with
  | none =>
    rw [hf] at h1
    dsimp only at h1
    subst h1
    go_wp2_with fail
    go_ret2
    refine ⟨?_, HB.out⟩
    rw [hf]; rfl
  | some x =>
    rw [hf] at h1
    dsimp only at h1
    subst h1
    go_wp2_with fail
    go_ret2
    refine ⟨?_, HB.out⟩
    rw [hf]; rfl

theorem findA_isSome {l : List At2} {k : ByteArray} {y : At2} (h : findA l k = some y) : (findA l k).isSome = true := by rw [h]; rfl

set_option maxRecDepth 100000 in
set_option maxHeartbeats 2000000 in
/-- Two lists that agree but for one key. -/
theorem others7_any (a b : Option Addr) (ca cb : Nat) (la lb : List At2) (k : ByteArray) (w : World) (ha : ASl w w.heap.size a la) (hb : ASl w w.heap.size b lb) (hal : la.length ≤ 2147483647) (hbl : lb.length ≤ 2147483647)
    (h1 : ∀ x ∈ la, x.key.toList ≠ k.toList → findA lb x.key = some x) (h2 : ∀ x ∈ lb, findA la x.key = some x) :
    Calls Try.prog 15 #[.slice a la.length ca, .slice b lb.length cb, .string k] w fun e w' => e = .returned (.bool true) ∧ Below w.heap.size w w' := by
  have HA := Lib.hid ha
  have HB := Lib.hid hb
  have H1 := Lib.hid h1
  have H2 := Lib.hid h2
  have VA := Lib.hid (fun W k (hW : Below w.heap.size w W) => val7_any a ca la k W ((HA.out.below hW).more hW.size) hal)
  have VB := Lib.hid (fun W k (hW : Below w.heap.size w W) => val7_any b cb lb k W ((HB.out.below hW).more hW.size) hbl)
  clear ha hb h1 h2
  go_enter Try.func15, Try.ntmps15
  go_wp2_with fail
  go_loopw [7] (fun x wr => ∃ i : Nat, i ≤ la.length ∧ x = .int .i64 i ∧ Below w.heap.size w wr) (fun x _ => la.length - (intOf x).toNat)
  case atStart => exact ⟨0, by omega, rfl, Below.refl _ _⟩
  case round =>
    obtain ⟨i, hi, rfl, hbw⟩ := hrel
    have HW := Lib.hid hbw
    by_cases hlt : i < la.length
    · obtain ⟨ba, oa, rfl, hbA, hc⟩ := (HA.out.below hbw).2.2.resolve_left (fun h0 => by rw [h0] at hlt; simp at hlt)
      obtain ⟨g1, g2⟩ := hc i hlt
      rw [List.getD_eq_getElem?_getD, List.getElem?_eq_getElem hlt, Option.getD_some] at g1 g2
      obtain ⟨y, hy⟩ : ∃ y, y = la[i] := ⟨_, rfl⟩
      rw [← hy] at g1 g2
      have HK : Hid (y.key.toList ≠ k.toList → findA lb y.key = some y) := by rw [hy]; exact H1.out _ (List.getElem_mem hlt)
      clear hy hc hbw
      go_wp2_with fail
      refine (VB.out _ _ HW.out).mono ?_
      rintro e w1 ⟨rfl, hb1⟩
      have HW1 := Lib.hid (bnext HW.out hb1)
      have g1' := (hb1.cell (p := ⟨ba, oa + i * 2, none⟩) (Nat.lt_of_lt_of_le hbA HW.out.size)).trans g1
      have g2' := (hb1.cell (p := ⟨ba, oa + i * 2 + 1, none⟩) (Nat.lt_of_lt_of_le hbA HW.out.size)).trans g2
      clear hb1 g1 g2
      cases hq : (y.key.toList == k.toList)
      · have hf := HK.out (by rw [beq_eq_false_iff_ne] at hq; exact hq)
        rw [hf]
        unfold valA
        simp only [Option.isSome_some]
        go_wp2_with fail
        go_roundw
        case rel => exact ⟨i + 1, by omega, by go_num, HW1.out⟩
        case measure => simp [intOf]; omega
      · go_wp2_with fail
        go_roundw
        case rel => exact ⟨i + 1, by omega, by go_num, HW1.out⟩
        case measure => simp [intOf]; omega
    · go_wp2_with fail
      go_loopw [10] (fun x wr => ∃ i : Nat, i ≤ lb.length ∧ x = .int .i64 i ∧ Below w.heap.size w wr) (fun x _ => lb.length - (intOf x).toNat)
      case atStart => exact ⟨0, by omega, rfl, HW.out⟩
      case round =>
        obtain ⟨i, hi, rfl, hbw⟩ := hrel
        have HW := Lib.hid hbw
        by_cases hlt : i < lb.length
        · obtain ⟨ba, oa, rfl, hbA, hc⟩ := (HB.out.below hbw).2.2.resolve_left (fun h0 => by rw [h0] at hlt; simp at hlt)
          obtain ⟨g1, g2⟩ := hc i hlt
          rw [List.getD_eq_getElem?_getD, List.getElem?_eq_getElem hlt, Option.getD_some] at g1 g2
          obtain ⟨y, hy⟩ : ∃ y, y = lb[i] := ⟨_, rfl⟩
          rw [← hy] at g1 g2
          have hf : findA la y.key = some y := by rw [hy]; exact H2.out _ (List.getElem_mem hlt)
          clear hy hc hbw
          go_wp2_with fail
          refine (VA.out _ _ HW.out).mono ?_
          rintro e w1 ⟨rfl, hb1⟩
          have HW1 := Lib.hid (bnext HW.out hb1)
          have g1' := (hb1.cell (p := ⟨ba, oa + i * 2, none⟩) (Nat.lt_of_lt_of_le hbA HW.out.size)).trans g1
          clear hb1 g1 g2
          rw [hf]
          simp only [Option.isSome_some]
          cases hq : (y.key.toList == k.toList)
          all_goals
            go_wp2_with fail
            go_roundw
            case rel => exact ⟨i + 1, by omega, by go_num, HW1.out⟩
            case measure => simp [intOf]; omega
        · go_wp2_with fail
          go_ret
          exact ⟨rfl, HW.out⟩

/-- What attrs7 asks (a part). -/
structure Ats7 (l : List At2) : Prop where
  len : l.length ≤ 12
  once : KeysOnce l
  small : ∀ x ∈ l, x.key.size ≤ 200 ∧ x.val.size ≤ 200

theorem keysOnce_of {l : List At2} (h : ∀ i (hi : i < l.length) j (hj : j < i), (l[j]'(by omega)).key.toList ≠ l[i].key.toList) : KeysOnce l := by
  unfold KeysOnce
  rw [List.Nodup, List.pairwise_iff_getElem]
  intro i j hi hj hij
  rw [List.length_map] at hi hj
  rw [List.getElem_map, List.getElem_map]
  exact h j hj i hij

def At7Post (l : List At2) (w : World) (e : Ending) (w' : World) : Prop := ∃ b, e = .returned (.bool b) ∧ (b = true → Ats7 l) ∧ Below w.heap.size w w'

set_option maxRecDepth 100000 in
set_option maxHeartbeats 2000000 in
theorem attrs7_any (a : Option Addr) (c : Nat) (l : List At2) (w : World) (ha : ASl w w.heap.size a l) (hal : l.length ≤ 2147483647) :
    Calls Try.prog 6 #[.slice a l.length c] w (At7Post l w) := by
  have HA := Lib.hid ha
  clear ha
  go_enter Try.func6, Try.ntmps6
  by_cases h12 : 12 < l.length
  · go_wp2_with fail
    go_ret
    exact ⟨false, rfl, by simp, Below.refl _ _⟩
  go_wp2_with fail
  go_loopw [3, 4] (fun x y wr => ∃ i : Nat, i ≤ l.length ∧ x = .int .i64 i ∧ Hid ((∀ j (hj : j < l.length), j < i → l[j].key.size ≤ 200 ∧ l[j].val.size ≤ 200) ∧ (∀ m j, m < j → j < i → keyAt l m ≠ keyAt l j)) ∧ Below w.heap.size w wr) (fun x _ _ => l.length - (intOf x).toNat)
  case atStart => exact ⟨0, by omega, rfl, ⟨fun j _ hj => by omega, fun _ _ _ h => by omega⟩, Below.refl _ _⟩
  case round =>
    obtain ⟨i, hi, rfl, hno, hbw⟩ := hrel
    have HW := Lib.hid hbw
    by_cases hlt : i < l.length
    · obtain ⟨ba, oa, rfl, hbA, hc⟩ := (HA.out.below hbw).2.2.resolve_left (fun h0 => by rw [h0] at hlt; simp at hlt)
      obtain ⟨g1, g2⟩ := hc i hlt
      rw [List.getD_eq_getElem?_getD, List.getElem?_eq_getElem hlt, Option.getD_some] at g1 g2
      have HC := Lib.hid (HA.out.2.2.resolve_left (fun h0 => by rw [h0] at hlt; simp at hlt))
      obtain ⟨y, hy⟩ : ∃ y, y = l[i] := ⟨_, rfl⟩
      rw [← hy] at g1 g2
      have hys := HA.out.2.1 y (by rw [hy]; exact List.getElem_mem hlt)
      have HY := Lib.hid hy
      clear hy hc hbw
      unfold maxLen at hys
      obtain ⟨hys1, hys2⟩ := hys
      by_cases c1 : 200 < y.key.size
      · go_wp2_with fail
        go_ret
        exact ⟨false, rfl, by simp, HW.out⟩
      by_cases c2 : 200 < y.val.size
      · go_wp2_with fail
        go_ret
        exact ⟨false, rfl, by simp, HW.out⟩
      cases hcl : (y.key.toList == [99, 108, 97, 115, 115])
      · have HW1 := HW
        go_wp2_with fail
        go_loopw [4] (fun y wr => ∃ m : Nat, m ≤ i ∧ y = .int .i64 m ∧ Hid (∀ j, j < m → keyAt l j ≠ keyAt l i) ∧ Below w.heap.size w wr) (fun y _ => i - (intOf y).toNat)
        case atStart => exact ⟨0, by omega, rfl, (fun _ h => by omega), HW1.out⟩
        case round =>
          obtain ⟨m, hm, rfl, hin, hbw2⟩ := hrel
          have HW2 := Lib.hid hbw2
          by_cases hmk : m < i
          · obtain ⟨ba2, oa2, hv, hbA2, hc2⟩ := HC.out
            cases hv
            have p1 := (hc2 m (by omega)).1
            have p2 := (hc2 i hlt).1
            rw [List.getD_eq_getElem?_getD, List.getElem?_eq_getElem (by omega : m < l.length), Option.getD_some] at p1
            rw [List.getD_eq_getElem?_getD, List.getElem?_eq_getElem hlt, Option.getD_some, ← HY.out] at p2
            obtain ⟨z, hz⟩ : ∃ z, z = l[m] := ⟨_, rfl⟩
            rw [← hz] at p1
            have HZ : Hid (keyAt l m = z.key) := by rw [Hid, keyAt, List.getD_eq_getElem?_getD, List.getElem?_eq_getElem (by omega : m < l.length), Option.getD_some, hz]
            have HZi : Hid (keyAt l i = y.key) := by rw [Hid, keyAt, List.getD_eq_getElem?_getD, List.getElem?_eq_getElem hlt, Option.getD_some, HY.out]
            have p1' := (hbw2.cell (p := ⟨ba, oa + m * 2, none⟩) hbA2).trans p1
            have p2' := (hbw2.cell (p := ⟨ba, oa + i * 2, none⟩) hbA2).trans p2
            clear hc2 hz p1 p2 hbw2
            cases hzk : (z.key.toList == y.key.toList)
            · have HNe : Hid (keyAt l m ≠ keyAt l i) := by
                rw [Hid, HZ.out, HZi.out]
                intro e
                rw [e] at hzk
                simp at hzk
              go_wp2_with fail
              go_quiet (fail)
              go_wp2_with fail
              go_roundw
              case rel =>
                refine ⟨m + 1, by omega, by go_num, (fun j hj => ?_), below_drewN HW2.out _⟩
                by_cases e : j = m
                · subst e; exact HNe.out
                · exact hin.out j (by omega)
              case measure => simp [intOf]; omega
            · go_wp2_with fail
              go_quiet (fail)
              go_wp2_with fail
              go_ret
              exact ⟨false, rfl, by simp, below_drewN HW2.out _⟩
          · go_wp2_with fail
            go_roundw
            case rel =>
              refine ⟨i + 1, by omega, by go_num, ⟨fun j hj hji => ?_, fun a b hab hbi => ?_⟩, HW2.out⟩
              · by_cases e : j = i
                · subst e; rw [← HY.out]; exact ⟨by omega, by omega⟩
                · exact hno.out.1 j hj (by omega)
              · by_cases e : b = i
                · subst e; exact hin.out a (by omega)
                · exact hno.out.2 a b hab (by omega)
            case measure => simp [intOf]; omega
      · go_wp2_with fail
        refine (simple_any y.val (by omega) wr).mono ?_
        rintro e w1 ⟨bs, rfl, _, hb1⟩
        have HW1 := Lib.hid (bnext HW.out hb1)
        clear hb1
        cases bs
        · go_wp2_with fail
          go_ret
          exact ⟨false, rfl, by simp, HW1.out⟩
        go_wp2_with fail
        go_loopw [4] (fun y wr => ∃ m : Nat, m ≤ i ∧ y = .int .i64 m ∧ Hid (∀ j, j < m → keyAt l j ≠ keyAt l i) ∧ Below w.heap.size w wr) (fun y _ => i - (intOf y).toNat)
        case atStart => exact ⟨0, by omega, rfl, (fun _ h => by omega), HW1.out⟩
        case round =>
          obtain ⟨m, hm, rfl, hin, hbw2⟩ := hrel
          have HW2 := Lib.hid hbw2
          by_cases hmk : m < i
          · obtain ⟨ba2, oa2, hv, hbA2, hc2⟩ := HC.out
            cases hv
            have p1 := (hc2 m (by omega)).1
            have p2 := (hc2 i hlt).1
            rw [List.getD_eq_getElem?_getD, List.getElem?_eq_getElem (by omega : m < l.length), Option.getD_some] at p1
            rw [List.getD_eq_getElem?_getD, List.getElem?_eq_getElem hlt, Option.getD_some, ← HY.out] at p2
            obtain ⟨z, hz⟩ : ∃ z, z = l[m] := ⟨_, rfl⟩
            rw [← hz] at p1
            have HZ : Hid (keyAt l m = z.key) := by rw [Hid, keyAt, List.getD_eq_getElem?_getD, List.getElem?_eq_getElem (by omega : m < l.length), Option.getD_some, hz]
            have HZi : Hid (keyAt l i = y.key) := by rw [Hid, keyAt, List.getD_eq_getElem?_getD, List.getElem?_eq_getElem hlt, Option.getD_some, HY.out]
            have p1' := (hbw2.cell (p := ⟨ba, oa + m * 2, none⟩) hbA2).trans p1
            have p2' := (hbw2.cell (p := ⟨ba, oa + i * 2, none⟩) hbA2).trans p2
            clear hc2 hz p1 p2 hbw2
            cases hzk : (z.key.toList == y.key.toList)
            · have HNe : Hid (keyAt l m ≠ keyAt l i) := by
                rw [Hid, HZ.out, HZi.out]
                intro e
                rw [e] at hzk
                simp at hzk
              go_wp2_with fail
              go_quiet (fail)
              go_wp2_with fail
              go_roundw
              case rel =>
                refine ⟨m + 1, by omega, by go_num, (fun j hj => ?_), below_drewN HW2.out _⟩
                by_cases e : j = m
                · subst e; exact HNe.out
                · exact hin.out j (by omega)
              case measure => simp [intOf]; omega
            · go_wp2_with fail
              go_quiet (fail)
              go_wp2_with fail
              go_ret
              exact ⟨false, rfl, by simp, below_drewN HW2.out _⟩
          · go_wp2_with fail
            go_roundw
            case rel =>
              refine ⟨i + 1, by omega, by go_num, ⟨fun j hj hji => ?_, fun a b hab hbi => ?_⟩, HW2.out⟩
              · by_cases e : j = i
                · subst e; rw [← HY.out]; exact ⟨by omega, by omega⟩
                · exact hno.out.1 j hj (by omega)
              · by_cases e : b = i
                · subst e; exact hin.out a (by omega)
                · exact hno.out.2 a b hab (by omega)
            case measure => simp [intOf]; omega
    · go_wp2_with fail
      go_ret
      refine ⟨true, rfl, fun _ => ⟨by omega, keysOnce_of (fun j hj m hm => ?_), fun x hx => ?_⟩, HW.out⟩
      · have := hno.out.2 m j hm (by omega)
        unfold keyAt at this
        rw [List.getD_eq_getElem?_getD, List.getD_eq_getElem?_getD, List.getElem?_eq_getElem hj, List.getElem?_eq_getElem (by omega : m < l.length)] at this
        intro e
        refine this ?_
        rw [Option.getD_some, Option.getD_some]
        exact ByteArray.ext (Array.toList_inj.1 (by rw [← ByteArray.toList_eq, ← ByteArray.toList_eq]; exact e))
      · obtain ⟨j, hj, rfl⟩ := List.getElem_of_mem hx
        exact hno.out.1 j hj (by omega)
end Go.Proofs.Ytjebadadimejpaa
