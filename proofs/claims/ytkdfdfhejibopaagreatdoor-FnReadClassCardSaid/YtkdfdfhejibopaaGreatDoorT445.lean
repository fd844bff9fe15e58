/- FnReadClass: the walk. -/
import Derived.Test.YtkdfdfhejibopaaGreatDoorT444
import Derived.Laws.StructEq
namespace Go.Proofs.YtkdfdfhejibopaaGreatDoor
open Go.RowKit
set_option linter.unusedVariables false

set_option maxRecDepth 100000 in
set_option maxHeartbeats 4000000 in
theorem FnReadClass_walk (s : ByteArray) (w : World) (hsz : s.size ≤ maxLen) :
    Calls Tryz.prog 3 #[.string s] w fun e w' => e = .returned (.bool true) ∧ Below w.heap.size w w' := by
  unfold maxLen at hsz
  by_cases k1 : 2147483647 < s.size
  · go_enter Tryz.func3, Tryz.ntmps3
    go_wp2_with fail
    go_ret
    exact ⟨rfl, Below.refl _ _⟩
  by_cases k2 : 1000 < s.size
  · go_enter Tryz.func3, Tryz.ntmps3
    go_wp2_with fail
    go_ret
    exact ⟨rfl, Below.refl _ _⟩
  have HS := Lib.hid (sReadClass_any s w (by omega))
  have HI := Lib.hid (fun U => iReadClass_any s U (by omega))
  go_enter Tryz.func3, Tryz.ntmps3
  go_wp2_with fail
  refine HS.out.mono ?_
  rintro e1 w1 ⟨x, i, ok, sure, rfl, hb1, hcase⟩
  have HB1 := Lib.hid hb1
  clear hb1
  rcases hcase with ⟨hno, rfl, v, z, rfl⟩ | ⟨hlt, h46, O, j, rfl, rfl, hq⟩
  · have HNo := Lib.hid hno
    clear hno
    unfold selV
    cases sure
    · go_wp2_with fail
      go_ret
      exact ⟨rfl, HB1.out.alloc (by have := HB1.out.size; omega) _⟩
    · go_wp2_with fail
      refine (HI.out _).mono ?_
      rintro e1 w2 (⟨x, k, rfl, hb2, hn⟩ | ⟨O, k, rfl, hb2, hk, hy⟩)
      · have HB2 := Lib.hid (bnext (HB1.out.alloc (by have := HB1.out.size; omega) _) hb2)
        clear hb2 hn
        unfold selV
        go_wp2_with fail
        go_ret
        exact ⟨by trivial, HB2.out.alloc (by have := HB2.out.size; omega) _⟩
      · exact absurd ⟨hy.1, hy.2.1⟩ HNo.out
  · have HQ := Lib.hid hq
    have hj : j ≤ 1000 := by have := hq.1; rw [tl_size hlt] at this; omega
    clear hq
    unfold selV
    cases sure
    · go_wp2_with fail
      go_ret
      exact ⟨rfl, HB1.out.alloc (by have := HB1.out.size; omega) _⟩
    · have HM := Lib.hid (class_match hlt HQ.out)
      have H46 := Lib.hid h46
      clear h46
      go_wp2_with fail
      refine (HI.out _).mono ?_
      rintro e1 w2 (⟨x, k, rfl, hb2, hn⟩ | ⟨O2, k, rfl, hb2, hk, hy⟩)
      · cases ok
        · have HB2 := Lib.hid (bnext (HB1.out.alloc (by have := HB1.out.size; omega) _) hb2)
          clear hb2 hn
          unfold selV
          go_wp2_with fail
          go_ret
          exact ⟨by trivial, HB2.out.alloc (by have := HB2.out.size; omega) _⟩
        · exfalso
          rcases hn with q | ⟨_, _, q⟩
          · exact q ⟨hlt, H46.out⟩
          · exact (HM.out.1 rfl).1 q
      · cases ok
        · exact absurd hy.2.2 (HM.out.2 rfl _ _)
        · obtain ⟨rfl, rfl⟩ := (HM.out.1 rfl).2 _ _ hy.2.2
          have HB2 := Lib.hid (bnext (HB1.out.alloc (by have := HB1.out.size; omega) _) hb2)
          have hst := BlkB.made w1 w1.heap.size (Nat.le_refl _) #[.int .i64 3, .int .i64 0, .string ⟨#[]⟩, .string O2, .int .i64 0, .int .i64 0, .int .i64 0, .int .i64 1] 23
          have hst2 := hst.next hb2
          have HST : Hid (∀ X, BlkB w1.heap.size #[.int .i64 3, .int .i64 0, .string ⟨#[]⟩, .string O2, .int .i64 0, .int .i64 0, .int .i64 0, .int .i64 1] 23 w1.heap.size w1 (w2.alloc X)) := fun X => hst2.next ((Below.refl _ _).alloc (Nat.le_refl _) _)
          have k0 : ∀ X, (w2.alloc X).cell? ⟨w1.heap.size, 0, none⟩ = some (.int .i64 3) := fun X => (HST.out X).cell 0
          have k1 : ∀ X, (w2.alloc X).cell? ⟨w1.heap.size, 1, none⟩ = some (.int .i64 0) := fun X => (HST.out X).cell 1
          have k2 : ∀ X, (w2.alloc X).cell? ⟨w1.heap.size, 2, none⟩ = some (.string ⟨#[]⟩) := fun X => (HST.out X).cell 2
          have k3 : ∀ X, (w2.alloc X).cell? ⟨w1.heap.size, 3, none⟩ = some (.string O2) := fun X => (HST.out X).cell 3
          have k4 : ∀ X, (w2.alloc X).cell? ⟨w1.heap.size, 4, none⟩ = some (.int .i64 0) := fun X => (HST.out X).cell 4
          have k5 : ∀ X, (w2.alloc X).cell? ⟨w1.heap.size, 5, none⟩ = some (.int .i64 0) := fun X => (HST.out X).cell 5
          have k6 : ∀ X, (w2.alloc X).cell? ⟨w1.heap.size, 6, none⟩ = some (.int .i64 0) := fun X => (HST.out X).cell 6
          have k7 : ∀ X, (w2.alloc X).cell? ⟨w1.heap.size, 7, none⟩ = some (.int .i64 1) := fun X => (HST.out X).cell 7
          clear hb2 hst hst2 hy
          unfold selV
          go_wp2_with fail
          go_ret
          exact ⟨by trivial, HB2.out.alloc (by have := HB2.out.size; omega) _⟩
end Go.Proofs.YtkdfdfhejibopaaGreatDoor
