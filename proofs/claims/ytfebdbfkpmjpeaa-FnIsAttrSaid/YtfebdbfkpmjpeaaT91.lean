/- What each way to compare answers: the function values that are handed to matchAttribute. -/
import Derived.Test.YtfebdbfkpmjpeaaT90
import Derived.Test.YtfebdbfkpmjpeaaT77
import Derived.Test.YtfebdbfkpmjpeaaT87
import Derived.Test.YtfebdbfkpmjpeaaShelf
import Derived.Deep.RegionLaw
namespace Go.Proofs.Ytfebdbfkpmjpeaa
open Go.RowKit
set_option linter.unusedVariables false

def REq (f : Bool) (val s : ByteArray) (b : Bool) : Prop := b = eqB f s.data.toList val.data.toList
def RInc (f : Bool) (val s : ByteArray) (b : Bool) : Prop := val.data.toList ≠ [] → b = incB f s.data.toList val.data.toList
def RDash (f : Bool) (val s : ByteArray) (b : Bool) : Prop := b = (lowB f s.data.toList == lowB f val.data.toList || standsB (lowB f s.data.toList) 0 (lowB f val.data.toList ++ [45]))
def RPre (f : Bool) (val s : ByteArray) (b : Bool) : Prop := ¬ Sp s 0 → b = standsB (lowB f s.data.toList) 0 (lowB f val.data.toList)
def RSuf (f : Bool) (val s : ByteArray) (b : Bool) : Prop := ¬ Sp s 0 → b = (decide (val.data.toList.length ≤ s.data.toList.length) && standsB (lowB f s.data.toList) (s.data.toList.length - val.data.toList.length) (lowB f val.data.toList))
def RSub (f : Bool) (val s : ByteArray) (b : Bool) : Prop := ¬ Sp s 0 → b = Lib.contains (lowB f s.data.toList) (lowB f val.data.toList)

set_option maxRecDepth 100000 in
theorem asks_has (w : World) : Asks_has (fun _ b => b = true) w := by
  intro W s hb hs
  go_enter Try.func215, Try.ntmps215
  go_wp2_with fail
  go_ret
  exact ⟨true, rfl, rfl, Below.refl _ _⟩

/-- An attribute selector in a block of its own. -/
def ASel (w : World) (g : Nat) (key val op : ByteArray) (f : Bool) : Prop := w.heap[g]? = some (.cells #[.string key, .string val, .string op, .bool f] 188 (0, 0))
theorem ASel.cells {w : World} {g : Nat} {key val op : ByteArray} {f : Bool} (h : ASel w g key val op f) : w.cell? ⟨g, 0, none⟩ = some (.string key) ∧ w.cell? ⟨g, 1, none⟩ = some (.string val) ∧ w.cell? ⟨g, 2, none⟩ = some (.string op) ∧ w.cell? ⟨g, 3, none⟩ = some (.bool f) :=
  ⟨cell_of_row w g 0 _ _ _ h, cell_of_row w g 1 _ _ _ h, cell_of_row w g 2 _ _ _ h, cell_of_row w g 3 _ _ _ h⟩
theorem ASel.below {w w' : World} {B g : Nat} {key val op : ByteArray} {f : Bool} (h : ASel w g key val op f) (hb : Below B w w') (hg : g < B) : ASel w' g key val op f := (hb.block g hg).trans h

set_option maxRecDepth 100000 in
theorem asks_eq (g : Nat) (key val op : ByteArray) (f : Bool) (hv : val.size ≤ 2147483647) (w : World) (hg : ASel w g key val op f) (hl : g < w.heap.size) : Asks_eq (some ⟨g, 0, none⟩) (REq f val) w := by
  intro W s hb hs
  obtain ⟨_, c1, _, c3⟩ := (hg.below hb hl).cells
  have HI := Lib.hid (insens_any f s val hs hv W)
  clear hb hg
  go_enter Try.func216, Try.ntmps216
  go_wp2_with fail
  refine HI.out.mono ?_
  rintro e w1 ⟨rfl, hb1⟩
  have HB1 := Lib.hid hb1
  clear hb1
  go_wp2_with fail
  go_ret
  exact ⟨_, rfl, rfl, HB1.out⟩

set_option maxRecDepth 100000 in
theorem asks_inc (g : Nat) (key val op : ByteArray) (f : Bool) (hv : val.size ≤ 2147483647) (w : World) (hg : ASel w g key val op f) (hl : g < w.heap.size) : Asks_inc (some ⟨g, 0, none⟩) (RInc f val) w := by
  intro W s hb hs
  obtain ⟨_, c1, _, c3⟩ := (hg.below hb hl).cells
  have HI := Lib.hid (include_any f val s hv hs W)
  clear hb hg
  go_enter Try.func219, Try.ntmps219
  go_wp2_with fail
  refine HI.out.mono ?_
  rintro e w1 ⟨b, rfl, hr, hb1⟩
  have HR := Lib.hid hr
  have HB1 := Lib.hid hb1
  clear hb1 hr
  go_wp2_with fail
  go_ret
  exact ⟨b, rfl, HR.out, HB1.out⟩

theorem dash_short {f : Bool} {s val : ByteArray} (h : s.size ≤ val.size) : standsB (lowB f s.data.toList) 0 (lowB f val.data.toList ++ [45]) = false := by
  have h1 : s.data.toList.length = s.size := rfl
  have h2 : val.data.toList.length = val.size := rfl
  unfold standsB
  rw [decide_eq_false (by rw [List.length_append, lowB_len, lowB_len]; simp; omega), Bool.false_and]
theorem smB_dash (c : UInt8) : (smB c == 45) = (c == 45) := by
  unfold smB
  split
  · rename_i h
    have h1 : 65 ≤ c.toNat := by simpa [UInt8.le_iff_toNat_le] using h.1
    have h2 : c.toNat ≤ 90 := by simpa [UInt8.le_iff_toNat_le] using h.2
    have e3 : (c + 32).toNat = c.toNat + 32 := by rw [UInt8.toNat_add]; show (c.toNat + 32) % 256 = _; omega
    have d : (45 : UInt8).toNat = 45 := rfl
    have q1 : (c + 32 == 45) = false := by rw [beq_eq_false_iff_ne]; intro q; rw [q] at e3; omega
    have q2 : (c == 45) = false := by rw [beq_eq_false_iff_ne]; intro q; rw [q] at h1; omega
    rw [q1, q2]
  · rfl
theorem dash_long {f : Bool} {s val : ByteArray} (h : val.size < s.size) : standsB (lowB f s.data.toList) 0 (lowB f val.data.toList ++ [45]) = (eqB f (s.extract 0 val.size).data.toList val.data.toList && (s[val.size] == 45)) := by
  have h1 : s.data.toList.length = s.size := rfl
  have h2 : val.data.toList.length = val.size := rfl
  have e1 : (s.extract 0 val.size).data.toList = s.data.toList.take val.size := by rw [Lib.extract_data, List.drop_zero, Nat.sub_zero]
  have hlt : val.size < s.data.toList.length := by omega
  unfold standsB
  rw [decide_eq_true (by rw [List.length_append, lowB_len, lowB_len]; simp; omega), Bool.true_and, List.drop_zero, List.length_append, lowB_len, lowB_take]
  show (lowB f (List.take (val.data.toList.length + 1) s.data.toList) == _) = _
  rw [h2, List.take_succ_eq_append_getElem hlt, e1, eqB_low]
  have hs : s.data.toList[val.size] = s[val.size] := rfl
  rw [hs]
  have hlow : ∀ (a b : List UInt8), lowB f (a ++ b) = lowB f a ++ lowB f b := fun a b => by unfold lowB; cases f <;> simp
  have hone : (lowB f [s[val.size]] == [45]) = (s[val.size] == 45) := by
    unfold lowB
    cases f
    · simp
    · simp [smB_dash]
  rw [hlow, ← hone, Bool.eq_iff_iff, Bool.and_eq_true, beq_iff_eq, beq_iff_eq, beq_iff_eq]
  constructor
  · intro e
    have := List.append_inj e (by rw [lowB_len, lowB_len, List.length_take]; omega)
    exact this
  · rintro ⟨q1, q2⟩; rw [q1, q2]
end Go.Proofs.Ytfebdbfkpmjpeaa
