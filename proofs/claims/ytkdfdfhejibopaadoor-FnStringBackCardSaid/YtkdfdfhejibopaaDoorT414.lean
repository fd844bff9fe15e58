/- FnStringBack: the walk. -/
import Derived.Test.YtkdfdfhejibopaaDoorT413
import Derived.Test.YtkdfdfhejibopaaDoorT407
namespace Go.Proofs.YtkdfdfhejibopaaDoor
open Go.RowKit
set_option linter.unusedVariables false

def CStrP (s : ByteArray) (w : World) (e : Ending) (w' : World) : Prop := e = .returned (.tuple #[.string s, .int .i64 (((encT s s.size).length + 1 : Nat) : Int), .nilIface]) ∧ Below w.heap.size w w'
def IStrP (s : ByteArray) (w : World) (e : Ending) (w' : World) : Prop := e = .returned (.tuple #[.string s, .int .i64 (((encT s s.size).length + 1 : Nat) : Int), .bool true]) ∧ Below w.heap.size w w'

set_option maxRecDepth 100000 in
set_option maxHeartbeats 4000000 in
theorem cReadString_any (s : ByteArray) (w : World) (hs : s.size ≤ 1000) (hz : NoZ s s.size) (X : ByteArray) (hX : X = bOf (strT s)) : Calls Tryd.prog 19 #[.string X] w (CStrP s w) := by
  have HP := Lib.hid (pString_any s w.heap.size _ _ w.heap.size w _ hs hz X hX (PrW.made X w))
  clear hz hX
  go_enter Tryd.func19, Tryd.ntmps19
  go_wp2_with fail
  refine HP.out.mono ?_
  rintro e1 w1 ⟨rfl, hr⟩
  have HR := Lib.hid hr
  have c1 := hr.c1
  obtain ⟨n, hn⟩ : ∃ n, n = (encT s s.size).length + 1 := ⟨_, rfl⟩
  rw [← hn] at c1
  have HN := Lib.hid hn
  clear hr hn
  go_wp2_with fail
  go_quiet (fail)
  go_wp2_with fail
  go_ret3
  exact ⟨by rw [← HN.out]; rfl, below_drewN HR.out.old _⟩

set_option maxRecDepth 100000 in
set_option maxHeartbeats 4000000 in
theorem iReadString_any (s : ByteArray) (w : World) (hs : s.size ≤ 1000) (hz : NoZ s s.size) (X : ByteArray) (hX : X = bOf (strT s)) : Calls Tryd.prog 10 #[.string X] w (IStrP s w) := by
  have HC := Lib.hid (cReadString_any s w hs hz X hX)
  have h4 : 4 ≤ X.size := by have := strT_len (s := s) (k := 0) (by omega); rw [hX, bOf_size]; omega
  have hq : ((X[0]'(by omega)).toNat : Int) = 34 := by have := strT_0 s; rw [← hX, bAt_in (by omega)] at this; omega
  have hne : X.toList = X.toList := rfl
  have hne2 : X.toList.isEmpty = false := by
    rw [ByteArray.toList_eq]
    cases hh : X.data.toList.isEmpty
    · rfl
    · have : X.data.toList.length = 0 := by rw [List.isEmpty_iff] at hh; rw [hh]; rfl
      rw [Array.length_toList] at this
      have e : X.data.size = X.size := rfl
      omega
  have m0 : (((X[0]'(by omega)).toNat : Int) != 34) = false := by simp; omega
  clear hz hX hq hne
  go_enter Tryd.func10, Tryd.ntmps10
  go_wp2_with fail
  refine HC.out.mono ?_
  rintro e1 w1 ⟨rfl, hb⟩
  have HB := Lib.hid hb
  clear hb
  go_wp2_with fail
  go_ret3
  exact ⟨rfl, HB.out⟩

set_option maxRecDepth 100000 in
set_option maxHeartbeats 4000000 in
theorem FnStringBack_walk (s : ByteArray) (w : World) (hsz : s.size ≤ maxLen) :
    Calls Tryd.prog 4 #[.string s] w fun e w' => e = .returned (.bool true) ∧ Below w.heap.size w w' := by
  unfold maxLen at hsz
  by_cases k1 : 2147483647 < s.size
  · go_enter Tryd.func4, Tryd.ntmps4
    go_wp2_with fail
    go_ret
    exact ⟨rfl, Below.refl _ _⟩
  by_cases k2 : 1000 < s.size
  · go_enter Tryd.func4, Tryd.ntmps4
    go_wp2_with fail
    go_ret
    exact ⟨rfl, Below.refl _ _⟩
  have HPl := Lib.hid (plainZ_any s w (by omega))
  go_enter Tryd.func4, Tryd.ntmps4
  go_wp2_with fail
  refine HPl.out.mono ?_
  rintro e1 w1 ⟨b, rfl, hz, rfl⟩
  have HZ := Lib.hid hz
  clear hz HPl
  cases b
  · go_wp2_with fail
    go_ret
    exact ⟨rfl, Below.refl _ _⟩
  have hz := HZ.out rfl
  have HQ := Lib.hid (quoted_any s w (by omega) hz)
  have hT : bOf (encT s s.size ++ [34]) ++ ByteArray.mk #[34, 120] = bOf (strT s) := by
    show bOf (encT s s.size ++ [34]) ++ bOf [34, 120] = _
    rw [bOf_app]; unfold strT; rw [List.append_assoc]; rfl
  obtain ⟨Q, hQ⟩ : ∃ Q, Q = bOf (encT s s.size ++ [34]) := ⟨_, rfl⟩
  have hQs : Q.size = (encT s s.size).length + 1 := by rw [hQ, bOf_size, List.length_append]; rfl
  have hQ5 : Q.size ≤ 5000 := by have := encT_len s s.size (Nat.le_refl _); omega
  rw [← hQ] at HQ hT
  have HI := Lib.hid (fun U => iReadString_any s U (by omega) hz _ hT)
  unfold IStrP at HI
  rw [← hQs] at HI
  clear hz hT hQ hQs HZ
  go_wp2_with fail
  refine HQ.out.mono ?_
  rintro e1 w2 ⟨rfl, rfl⟩
  go_wp2_with fail
  refine (HI.out _).mono ?_
  rintro e1 w3 ⟨rfl, hb⟩
  have HB := Lib.hid hb
  clear hb
  go_wp2_with fail
  go_ret
  exact ⟨ret_b (by simp), HB.out⟩
end Go.Proofs.YtkdfdfhejibopaaDoor
