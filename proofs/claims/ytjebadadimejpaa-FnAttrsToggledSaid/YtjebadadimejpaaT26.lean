/- An attribute's value: the reference's reading of it. -/
import Derived.Test.YtjebadadimejpaaP20
namespace Go.Proofs.Ytjebadadimejpaa
open Go.RowKit
set_option linter.unusedVariables false

/-- The first attribute of a name. -/
def findA (l : List At2) (k : ByteArray) : Option At2 := l.find? fun x => x.key.toList == k.toList

theorem findA_some {l : List At2} {k : ByteArray} {i : Nat} (hi : i < l.length) (hb : ∀ j (h : j < l.length), j < i → (l[j].key.toList == k.toList) = false) (he : (l[i].key.toList == k.toList) = true) : findA l k = some l[i] := by
  unfold findA
  rw [List.find?_eq_some_iff_getElem]
  refine ⟨he, i, hi, rfl, fun j hj => ?_⟩
  simpa using hb j (by omega) hj

theorem findA_none {l : List At2} {k : ByteArray} (hb : ∀ j (h : j < l.length), j < l.length → (l[j].key.toList == k.toList) = false) : findA l k = none := by
  unfold findA
  rw [List.find?_eq_none]
  intro x hx
  obtain ⟨j, hj, rfl⟩ := List.getElem_of_mem hx
  simpa using hb j hj hj

def AttrPost (l : List At2) (k : ByteArray) (w : World) (e : Ending) (w' : World) : Prop :=
  (match findA l k with
   | some x => e = .returned (.tuple #[.string x.val, .bool true])
   | none => e = .returned (.tuple #[.string ⟨#[]⟩, .bool false])) ∧ Below w.heap.size w w'

set_option maxRecDepth 100000 in
set_option maxHeartbeats 1000000 in
theorem attr_any (x : Nd) (k : ByteArray) (w : World) (hx : ASl w w.heap.size x.aa x.attrs) (hl : x.attrs.length ≤ 2147483647) :
    Calls Try.prog 19 #[.agg #[.int .i64 x.kind, .string x.tag, .string x.text, .slice x.aa x.attrs.length x.ac, .int .i64 x.size], .string k] w (AttrPost x.attrs k w) := by
  obtain ⟨kd, tag, text, aa, ac, l, size⟩ := x
  dsimp only at hx hl ⊢
  have HX := Lib.hid hx
  clear hx
  go_enter Try.func19, Try.ntmps19
  go_wp2_with fail
  go_loopw [6] (fun x wr => ∃ k1 q : Nat, k1 ≤ l.length ∧ x = .int .i64 k1 ∧ Hid (∀ j (h : j < l.length), j < k1 → (l[j].key.toList == k.toList) = false) ∧ wr = (w.alloc (.cells #[.int .i64 kd, .string tag, .string text, .slice aa l.length ac, .int .i64 size] 40)).drewN q) (fun x _ => l.length - (intOf x).toNat)
  case atStart => exact ⟨0, 0, by omega, rfl, (fun j _ hj => by omega), rfl⟩
  case round =>
    obtain ⟨i, q, hi, rfl, hno, rfl⟩ := hrel
    have hbx : Below w.heap.size w ((w.alloc (.cells #[.int .i64 kd, .string tag, .string text, .slice aa l.length ac, .int .i64 size] 40)).drewN q) := below_drewN ((Below.refl _ _).alloc (Nat.le_refl _) _) _
    have b3 : ((w.alloc (.cells #[.int .i64 kd, .string tag, .string text, .slice aa l.length ac, .int .i64 size] 40)).drewN q).cell? ⟨w.heap.size, 3, none⟩ = some (.slice aa l.length ac) := by
      rw [World.cell?_drewN]
      rw [World.cell?_alloc_mark]; rfl
    obtain ⟨W, hW⟩ : ∃ W, W = ((w.alloc (.cells #[.int .i64 kd, .string tag, .string text, .slice aa l.length ac, .int .i64 size] 40)).drewN q) := ⟨_, rfl⟩
    rw [← hW] at hbx b3 ⊢
    have HW := Lib.hid hW
    have HB := Lib.hid hbx
    have HX2 := HX.out.below hbx
    clear hW hbx
    by_cases hlt : i < l.length
    · obtain ⟨b, o, rfl, hbB, hc⟩ := HX2.2.2.resolve_left (fun h0 => by rw [h0] at hlt; simp at hlt)
      obtain ⟨g1, g2⟩ := hc i hlt
      rw [List.getD_eq_getElem?_getD, List.getElem?_eq_getElem hlt, Option.getD_some] at g1 g2
      clear hc HX2
      obtain ⟨y, hy⟩ : ∃ y, y = l[i] := ⟨_, rfl⟩
      rw [← hy] at g1 g2
      have HY := Lib.hid hy
      clear hy
      have e1 : IntKind.i64.wrap (i : Int) = (i : Int) := IntWalk.i64_in _ ⟨by omega, by omega⟩
      cases he : (y.key.toList == k.toList)
      · have HE := Lib.hid he
        go_wp2_with fail
        go_roundw
        case rel =>
          refine ⟨i + 1, q, by omega, by go_num, (fun j hj hj2 => ?_), HW.out⟩
          by_cases e : j = i
          · subst e; rw [← HY.out]; exact HE.out
          · exact hno.out j hj (by omega)
        case measure => simp [intOf]; omega
      · have HE := Lib.hid he
        have HF : Hid (findA l k = some y) := by
          have e2 := HE.out
          rw [HY.out] at e2
          rw [Hid, HY.out]
          exact findA_some hlt hno.out e2
        go_wp2_with fail
        go_ret2
        refine ⟨?_, HB.out⟩
        rw [HF.out]
        try rfl
    · have HF : Hid (findA l k = none) := findA_none (fun j hj _ => hno.out j hj (by omega))
      clear HX2
      go_wp2_with fail
      go_ret2
      refine ⟨?_, HB.out⟩
      rw [HF.out]
      try rfl
end Go.Proofs.Ytjebadadimejpaa
