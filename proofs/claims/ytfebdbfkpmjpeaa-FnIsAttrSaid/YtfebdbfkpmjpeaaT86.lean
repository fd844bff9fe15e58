/- One of the words: the program's matchInclude. -/
import Derived.Test.YtfebdbfkpmjpeaaT74
import Derived.Test.YtfebdbfkpmjpeaaT85
namespace Go.Proofs.Ytfebdbfkpmjpeaa
open Go.RowKit
set_option linter.unusedVariables false

theorem bn {a b c : World} (h : Below a.heap.size a b) (k : Below b.heap.size b c) : Below a.heap.size a c := h.trans (k.mono h.size)
def BoolPost (b : Bool) (w : World) (e : Ending) (w' : World) : Prop := e = .returned (.bool b) ∧ Below w.heap.size w w'
theorem toL (s : ByteArray) : s.toList = s.data.toList := ByteArray.toList_eq s
theorem size_low (s : ByteArray) : (lowS s).size = s.size := by
  show (List.map _ _).toArray.size = _
  simp

set_option maxRecDepth 100000 in
set_option maxHeartbeats 1000000 in
theorem fold_any (a b : ByteArray) (ha : a.size ≤ 2147483647) (hb : b.size ≤ 2147483647) (w : World) : Calls Try.prog 241 #[.string a, .string b] w (BoolPost (eqB true a.data.toList b.data.toList) w) := by
  have HE : Hid (eqB true a.data.toList b.data.toList = ((lowS a).toList == (lowS b).toList)) := by
    rw [Hid, toL, toL, lowS_sm, lowS_sm]; rfl
  go_enter Try.func241, Try.ntmps241
  go_wp2_with fail
  refine (zzLow_any a w ha).mono ?_
  rintro e w1 ⟨rfl, hb1⟩
  have HB1 := Lib.hid hb1
  clear hb1
  go_wp2_with fail
  refine (zzLow_any b w1 hb).mono ?_
  rintro e w2 ⟨rfl, hb2⟩
  have HB2 := Lib.hid hb2
  clear hb2
  go_wp2_with fail
  go_ret
  exact ⟨by rw [HE.out]; rfl, bn HB1.out HB2.out⟩

set_option maxRecDepth 100000 in
set_option maxHeartbeats 1000000 in
theorem insens_any (f : Bool) (a b : ByteArray) (ha : a.size ≤ 2147483647) (hb : b.size ≤ 2147483647) (w : World) : Calls Try.prog 217 #[.string a, .string b, .bool f] w (BoolPost (eqB f a.data.toList b.data.toList) w) := by
  cases f
  · have HE : Hid (eqB false a.data.toList b.data.toList = (a.toList == b.toList)) := by
      rw [Hid, toL, toL]; rfl
    go_enter Try.func217, Try.ntmps217
    go_wp2_with fail
    go_ret
    exact ⟨by rw [HE.out]; rfl, Below.refl _ _⟩
  · go_enter Try.func217, Try.ntmps217
    go_wp2_with fail
    refine (fold_any a b ha hb w).mono ?_
    rintro e w1 ⟨rfl, hb1⟩
    have HB1 := Lib.hid hb1
    clear hb1
    go_wp2_with fail
    go_ret
    exact ⟨rfl, HB1.out⟩

def IncPost (f : Bool) (s v : ByteArray) (w : World) (e : Ending) (w' : World) : Prop := ∃ b, e = .returned (.bool b) ∧ (v.data.toList ≠ [] → b = incB f s.data.toList v.data.toList) ∧ Below w.heap.size w w'
def strSz (v : Value) : Nat := match v with | .string s => s.size | _ => 0

theorem noWs_mem {X : ByteArray} {k : Nat} (h : NoWs X k) : ∀ c ∈ X.data.toList.take k, wsB c = false := by
  intro c hc
  obtain ⟨j, hj, rfl⟩ := List.getElem_of_mem hc
  rw [List.length_take] at hj
  have hs : X.data.toList.length = X.size := rfl
  have h2 := h j (by omega) (by omega)
  rw [List.getElem_take]
  exact h2
theorem split_at {X : ByteArray} {i : Nat} (h : i < X.size) : X.data.toList = X.data.toList.take i ++ X[i] :: X.data.toList.drop (i + 1) := by
  have hs : X.data.toList.length = X.size := rfl
  conv => lhs; rw [← List.take_append_drop i X.data.toList]
  rw [List.drop_eq_getElem_cons (by omega)]
  rfl

set_option maxRecDepth 100000 in
set_option maxHeartbeats 2000000 in
theorem include_any (f : Bool) (v s : ByteArray) (hv : v.size ≤ 2147483647) (hs : s.size ≤ 2147483647) (w : World) :
    Calls Try.prog 220 #[.string v, .string s, .bool f] w (IncPost f s v w) := by
  go_enter Try.func220, Try.ntmps220
  go_wp2_with fail
  go_loopw [1] (fun x wr => ∃ X : ByteArray, X.size ≤ s.size ∧ x = .string X ∧ Hid (v.data.toList ≠ [] → incB f s.data.toList v.data.toList = incB f X.data.toList v.data.toList) ∧ Below w.heap.size w wr) (fun x _ => strSz x)
  case atStart => exact ⟨s, Nat.le_refl _, rfl, (fun _ => rfl), Below.refl _ _⟩
  case round =>
    obtain ⟨X, hX, rfl, hinc, hb⟩ := hrel
    have HB := Lib.hid hb
    clear hb
    cases hem : X.toList.isEmpty
    · have HNe : Hid (X.data.toList ≠ []) := by
        rw [toL] at hem
        intro h; rw [h] at hem; cases hem
      have hem2 : X.toList ≠ [] := by rw [toL]; exact HNe.out
      have hem3 : (!X.toList.isEmpty) = true := by rw [hem]; rfl
      have HW := Lib.hid (indexWs_any X wr (by omega))
      have HS : Hid (spaces = ⟨#[32, 9, 13, 10, 12]⟩) := rfl
      rw [HS.out] at HW
      go_wp2_with fail
      refine HW.out.mono ?_
      rintro e w1 ⟨z, rfl, hz, hb1⟩
      have HB1 := Lib.hid (bn HB.out hb1)
      clear hb1 HW HS
      rcases hz with ⟨rfl, hno⟩ | ⟨i, hi, rfl, hws, hno⟩
      · have HF : Hid (v.data.toList ≠ [] → eqB f X.data.toList v.data.toList = incB f s.data.toList v.data.toList) := by
          intro h
          have h1 := noWs_mem hno
          rw [show X.data.toList.take X.size = X.data.toList from List.take_of_length_le (Nat.le_refl _)] at h1
          rw [hinc.out h, incB_end h1 HNe.out]
        have HI := Lib.hid (insens_any f X v (by omega) hv w1)
        clear hno hinc
        go_wp2_with fail
        refine HI.out.mono ?_
        rintro e w2 ⟨rfl, hb2⟩
        have HB2 := Lib.hid (bn HB1.out hb2)
        clear hb2
        go_wp2_with fail
        go_ret
        exact ⟨_, rfl, HF.out, HB2.out⟩
      · have e1 : (X.extract 0 i).data.toList = X.data.toList.take i := by rw [Lib.extract_data, List.drop_zero, Nat.sub_zero]
        have e2 : (X.extract (i + 1) X.size).data.toList = X.data.toList.drop (i + 1) := Lib.extract_to_end X (i + 1)
        have HSt : Hid (v.data.toList ≠ [] → incB f s.data.toList v.data.toList = (eqB f (X.extract 0 i).data.toList v.data.toList || incB f (X.extract (i + 1) X.size).data.toList v.data.toList)) := by
          intro h
          rw [hinc.out h, e1, e2]
          conv => lhs; rw [split_at hi]
          exact incB_step hws (noWs_mem hno) h
        have hsz1 : (X.extract 0 i).size ≤ 2147483647 := by rw [ByteArray.size_extract]; omega
        have hsz2 : (X.extract (i + 1) X.size).size = X.size - (i + 1) := by rw [ByteArray.size_extract]; omega
        have HSz := Lib.hid hsz2
        have HI := Lib.hid (insens_any f (X.extract 0 i) v hsz1 hv w1)
        obtain ⟨b, hbb⟩ : ∃ b, b = eqB f (X.extract 0 i).data.toList v.data.toList := ⟨_, rfl⟩
        rw [← hbb] at HSt HI
        clear hno hws hinc e1 e2 hsz1 hsz2 hbb
        go_wp2_with fail
        refine HI.out.mono ?_
        rintro e w2 ⟨rfl, hb2⟩
        have HB2 := Lib.hid (bn HB1.out hb2)
        clear hb2
        cases b
        · go_wp2_with fail
          go_roundw
          case rel => exact ⟨X.extract (i + 1) X.size, by rw [HSz.out]; omega, rfl, (fun h => by rw [HSt.out h]; simp), HB2.out⟩
          case measure => show (X.extract (i + 1) X.size).size < X.size; rw [HSz.out]; omega
        · go_wp2_with fail
          go_ret
          exact ⟨true, rfl, (fun h => by rw [HSt.out h]; rfl), HB2.out⟩
    · have HF : Hid (v.data.toList ≠ [] → false = incB f s.data.toList v.data.toList) := by
        intro h
        rw [toL] at hem
        rw [hinc.out h, List.isEmpty_iff.1 hem]; rfl
      have hem3 : (!X.toList.isEmpty) = false := by rw [hem]; rfl
      clear hinc
      go_wp2_with fail
      go_ret
      exact ⟨false, rfl, HF.out, HB.out⟩
end Go.Proofs.Ytfebdbfkpmjpeaa
