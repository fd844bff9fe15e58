/- An attribute's value: the one that the program reads off a node. -/
import Derived.Test.YtjebadadimejpaaT26
namespace Go.Proofs.Ytjebadadimejpaa
open Go.RowKit
set_option linter.unusedVariables false

theorem flatA_at {l : List At2} : ∀ {i : Nat} (hi : i < l.length), (flatA l)[i * 3]? = some (.string ⟨#[]⟩) ∧ (flatA l)[i * 3 + 1]? = some (.string l[i].key) ∧ (flatA l)[i * 3 + 2]? = some (.string l[i].val) := by
  induction l with
  | nil => intro i hi; simp at hi
  | cons x l ih =>
    intro i hi
    have e : flatA (x :: l) = [.string ⟨#[]⟩, .string x.key, .string x.val] ++ flatA l := rfl
    rw [e]
    match i with
    | 0 => exact ⟨rfl, rfl, rfl⟩
    | i + 1 =>
      have := ih (i := i) (by simpa using hi)
      have e3 : (i + 1) * 3 = i * 3 + 3 := by omega
      rw [e3]
      simpa using this

def PtrPost (l : List At2) (k : ByteArray) (w : World) (e : Ending) (w' : World) : Prop :=
  (match findA l k with
   | some x => ∃ b o, e = .returned (.pointer (some ⟨b, o, none⟩)) ∧ w'.cell? ⟨b, o + 2, none⟩ = some (.string x.val)
   | none => e = .returned (.pointer none)) ∧ Below w.heap.size w w'

set_option maxRecDepth 100000 in
set_option maxHeartbeats 1000000 in
theorem attrPtr_any (g B : Nat) (cs : Array Value) (l : List At2) (aa : Option Addr) (ac : Nat) (k : ByteArray) (w : World) (h9 : w.cell? ⟨g, 9, none⟩ = some (.slice aa l.length ac)) (hl : l.length ≤ 2147483647) (hg : g < w.heap.size)
    (hown : w.ownsRow B 56 3 (.slice aa l.length ac) l.length (flatA l)) :
    Calls Try.prog 40 #[.string k, .pointer (some ⟨g, 0, none⟩)] w (PtrPost l k w) := by
  have HO := Lib.hid hown
  clear hown
  go_enter Try.func40, Try.ntmps40
  go_wp2_with fail
  go_loopw [14] (fun x wr => ∃ k1 : Nat, k1 ≤ l.length ∧ x = .int .i64 k1 ∧ Hid (∀ j (h : j < l.length), j < k1 → (l[j].key.toList == k.toList) = false) ∧ Hid (Below w.heap.size w wr)) (fun x _ => l.length - (intOf x).toNat)
  case atStart => exact ⟨0, by omega, rfl, (fun j _ hj => by omega), Below.refl _ _⟩
  case round =>
    obtain ⟨i, hi, rfl, hno, hb⟩ := hrel
    by_cases hlt : i < l.length
    · obtain ⟨ab, rfl⟩ : ∃ ab, aa = some ⟨ab, 0, none⟩ := by
        rcases HO.out.2 with ⟨_, h0⟩ | ⟨q, cap, cur, hv, _⟩
        · omega
        · cases hv; exact ⟨q, rfl⟩
      have hab := (HO.out.lt ab rfl).2
      have hcell : ∀ j v, (flatA l)[j]? = some v → wr.cell? ⟨ab, j, none⟩ = some v := by
        intro j v hj
        have := HO.out.cells (g := ab) rfl j v hj
        rw [Addr.add_lit, Nat.zero_add] at this
        exact (hb.out.cell (p := ⟨ab, j, none⟩) hab).trans this
      obtain ⟨f0, f1, f2⟩ := flatA_at hlt
      have g0 := hcell _ _ f0
      have g1 := hcell _ _ f1
      have g2 := hcell _ _ f2
      have h9r := (hb.out.cell (p := ⟨g, 9, none⟩) hg).trans h9
      clear hcell f0 f1 f2
      obtain ⟨y, hy⟩ : ∃ y, y = l[i] := ⟨_, rfl⟩
      rw [← hy] at g1 g2
      have HY := Lib.hid hy
      clear hy
      have hsz := hb.out.size
      have h9a : (wr.alloc (.cells #[.string ⟨#[]⟩, .string y.key, .string y.val] 56)).cell? ⟨g, 9, none⟩ = some (.slice (some ⟨ab, 0, none⟩) l.length ac) := by
        rw [World.cell?_alloc_lt _ _ _ (by simp; omega)]
        exact h9r
      cases he : (y.key.toList == k.toList)
      · have HE := Lib.hid he
        go_wp2_with fail
        go_roundw
        case rel =>
          refine ⟨i + 1, by omega, by go_num, (fun j hj hj2 => ?_), ?_⟩
          · by_cases e : j = i
            · subst e; rw [← HY.out]; exact HE.out
            · exact hno.out j hj (by omega)
          · exact hb.out.alloc hsz _
        case measure => simp [intOf]; omega
      · have HE := Lib.hid he
        have HF : Hid (findA l k = some y) := by
          have e2 := HE.out
          rw [HY.out] at e2
          rw [Hid, HY.out]
          exact findA_some hlt hno.out e2
        go_wp2_with fail
        go_ret
        refine ⟨?_, hb.out.alloc hsz _⟩
        rw [HF.out]
        refine ⟨ab, i * 3, by first | rfl | simp, ?_⟩
        rw [World.cell?_alloc_lt _ _ _ (by simp; omega)]
        exact g2
    · have HF : Hid (findA l k = none) := findA_none (fun j hj _ => hno.out j hj (by omega))
      go_wp2_with fail
      go_ret
      refine ⟨?_, hb.out⟩
      rw [HF.out]
      try rfl
end Go.Proofs.Ytjebadadimejpaa
