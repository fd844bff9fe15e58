/- The reader's escape. -/
import Derived.Test.YtkdfdfhejibopaaGreatDoorT403
import Derived.Lib.BufferMore
import Derived.Below
namespace Go.Proofs.YtkdfdfhejibopaaGreatDoor
open Go.RowKit
set_option linter.unusedVariables false

/-- The reader in memory, whole; what lies below is as it was. -/
structure RdW (s : ByteArray) (g k : Nat) (u : Bool) (B : Nat) (W w : World) : Prop where
  blk : w.heap[g]? = some (.cells #[.string s, .int .i64 (k : Int), .bool false, .bool u, .bool false] 42 (0, 0))
  old : Below B W w
  base : B ≤ g

theorem RdW.rd {s : ByteArray} {g k : Nat} {u : Bool} {B : Nat} {W w : World} (h : RdW s g k u B W w) : RdAt s g k w :=
  ⟨by rw [cell_of_row w g 0 _ _ _ h.blk]; rfl, by rw [cell_of_row w g 1 _ _ _ h.blk]; rfl⟩
theorem RdW.fz {s : ByteArray} {g k : Nat} {u : Bool} {B : Nat} {W w : World} (h : RdW s g k u B W w) (j : Nat) : w.frozen? ⟨g, j, none⟩ = false := frozen_of_row w g j _ _ h.blk
theorem RdW.set {s : ByteArray} {g k : Nat} {u : Bool} {B : Nat} {W w : World} (h : RdW s g k u B W w) (k' : Nat) : RdW s g k' u B W (w.setCell ⟨g, 1, none⟩ (.int .i64 (k' : Int))) :=
  ⟨Lib.heap_setCell_same (i := 1) h.blk _, h.old.setCell (p := ⟨g, 1, none⟩) h.base _, h.base⟩
theorem RdW.setU {s : ByteArray} {g k : Nat} {u : Bool} {B : Nat} {W w : World} (h : RdW s g k u B W w) : RdW s g k true B W (w.setCell ⟨g, 3, none⟩ (.bool true)) :=
  ⟨Lib.heap_setCell_same (i := 3) h.blk _, h.old.setCell (p := ⟨g, 3, none⟩) h.base _, h.base⟩
theorem RdW.drew {s : ByteArray} {g k : Nat} {u : Bool} {B : Nat} {W w : World} (h : RdW s g k u B W w) (n : Nat) : RdW s g k u B W (w.drewN n) := ⟨h.blk, below_drewN h.old n, h.base⟩

def TkPost (s : ByteArray) (g k : Nat) (u : Bool) (B : Nat) (W : World) (e : Ending) (w' : World) : Prop :=
  e = .returned (.bool (isCrlf s k)) ∧ RdW s g (if isCrlf s k then k + 2 else k) u B W w'

set_option maxRecDepth 100000 in
set_option maxHeartbeats 1000000 in
theorem taken_any (s : ByteArray) (g k : Nat) (u : Bool) (B : Nat) (W w : World) (hs : s.size ≤ 2147483647) (hk : k ≤ s.size) (h : RdW s g k u B W w) :
    Calls Tryz.prog 31 #[.pointer (some ⟨g, 0, none⟩), .string ⟨#[13, 10]⟩] w (TkPost s g k u B W) := by
  have HH := Lib.hid (here_any s ⟨#[13, 10]⟩ rfl g k w hs hk h.rd)
  obtain ⟨c0, c1⟩ := h.rd
  have f1 := h.fz 1
  have HR := Lib.hid h
  unfold TkPost
  clear h
  cases hb : isCrlf s k
  · rw [hb] at HH
    go_enter Tryz.func31, Tryz.ntmps31
    go_wp2_with fail
    refine HH.out.mono ?_
    rintro e w1 ⟨rfl, q, rfl⟩
    have HR1 := Lib.hid (HR.out.drew q)
    go_wp2_with fail
    go_ret
    exact ⟨rfl, HR1.out⟩
  · rw [hb] at HH
    have hk2 : k + 2 ≤ s.size := by unfold isCrlf at hb; have := of_decide_eq_true hb; omega
    have e2 : IntKind.i64.wrap ((k : Int) + 2) = ((k + 2 : Nat) : Int) := by
      have := IntWalk.i64_in ((k : Int) + 2) ⟨by omega, by omega⟩
      rw [this]; rfl
    go_enter Tryz.func31, Tryz.ntmps31
    go_wp2_with fail
    refine HH.out.mono ?_
    rintro e w1 ⟨rfl, q, rfl⟩
    have HS := Lib.hid ((HR.out.drew q).set (k + 2))
    go_wp2_with fail
    go_ret
    exact ⟨rfl, HS.out⟩

def isWs (c : Nat) : Bool := decide (c = 32 ∨ c = 9 ∨ c = 10 ∨ c = 13 ∨ c = 12)

set_option maxRecDepth 100000 in
set_option maxHeartbeats 1000000 in
theorem isSpace_any (c : Nat) (hc : c < 256) (w : World) :
    Calls Tryz.prog 32 #[.int .u8 (c : Int)] w (EscNum (.bool (isWs c)) w) := by
  have key : ∀ (a b : Bool), a = b → Ending.returned (.bool a) = .returned (.bool b) := fun a b h => by rw [h]
  by_cases h1 : c = 32
  · subst h1
    go_enter Tryz.func32, Tryz.ntmps32
    go_wp2_with fail
    go_ret
    exact ⟨key _ _ (by decide), rfl⟩
  by_cases h2 : c = 9
  · subst h2
    go_enter Tryz.func32, Tryz.ntmps32
    go_wp2_with fail
    go_ret
    exact ⟨key _ _ (by decide), rfl⟩
  by_cases h3 : c = 10
  · subst h3
    go_enter Tryz.func32, Tryz.ntmps32
    go_wp2_with fail
    go_ret
    exact ⟨key _ _ (by decide), rfl⟩
  by_cases h4 : c = 13
  · subst h4
    go_enter Tryz.func32, Tryz.ntmps32
    go_wp2_with fail
    go_ret
    exact ⟨key _ _ (by decide), rfl⟩
  by_cases h5 : c = 12
  · subst h5
    go_enter Tryz.func32, Tryz.ntmps32
    go_wp2_with fail
    go_ret
    exact ⟨key _ _ (by decide), rfl⟩
  have d1 : ((c : Int) == 32) = false := beq_eq_false_iff_ne.2 (by omega)
  have d2 : ((c : Int) == 9) = false := beq_eq_false_iff_ne.2 (by omega)
  have d3 : ((c : Int) == 10) = false := beq_eq_false_iff_ne.2 (by omega)
  have d4 : ((c : Int) == 13) = false := beq_eq_false_iff_ne.2 (by omega)
  have d5 : ((c : Int) == 12) = false := beq_eq_false_iff_ne.2 (by omega)
  have HV : Hid (isWs c = false) := decide_eq_false (by omega)
  clear h1 h2 h3 h4 h5
  go_enter Tryz.func32, Tryz.ntmps32
  go_wp2_with fail
  go_ret
  exact ⟨by rw [HV.out]; rfl, rfl⟩

set_option maxRecDepth 100000 in
set_option maxHeartbeats 2000000 in
theorem escF_any (s : ByteArray) (g k : Nat) (w : World) (hs : s.size ≤ 2147483647) (hk : k ≤ s.size) (c0 : w.cell? ⟨g, 0, none⟩ = some (.string s)) :
    Calls Tryz.prog 12 #[.pointer (some ⟨g, 0, none⟩), .int .i64 (k : Int)] w (EscNum (.bool (escAt s k)) w) := by
  by_cases h1 : k + 1 < s.size
  · have hk0 : k < s.size := by omega
    have b0 := bAt_in hk0
    have b1 := bAt_in h1
    have HE : Hid (escAt s k = (decide (s[k].toNat = 92) && !decide (s[k + 1].toNat = 10 ∨ s[k + 1].toNat = 13 ∨ s[k + 1].toNat = 12))) := by
      rw [Hid]; unfold escAt; rw [b0, b1, decide_eq_true h1]; simp
    clear b0 b1
    by_cases d0 : s[k].toNat = 92
    · have e0 : ((s[k].toNat : Int) == 92) = true := beq_iff_eq.2 (by omega)
      by_cases d1 : s[k + 1].toNat = 10
      · have e1 : ((s[k + 1].toNat : Int) != 10) = false := by simp; omega
        have HV : Hid (escAt s k = false) := by rw [Hid, HE.out]; simp [d1]
        clear d0 d1
        go_enter Tryz.func12, Tryz.ntmps12
        go_wp2_with fail
        go_ret
        exact ⟨by rw [HV.out]; rfl, rfl⟩
      · have e1 : ((s[k + 1].toNat : Int) != 10) = true := by simp; omega
        by_cases d2 : s[k + 1].toNat = 13
        · have e2 : ((s[k + 1].toNat : Int) != 13) = false := by simp; omega
          have HV : Hid (escAt s k = false) := by rw [Hid, HE.out]; simp [d2]
          clear d0 d1 d2
          go_enter Tryz.func12, Tryz.ntmps12
          go_wp2_with fail
          go_ret
          exact ⟨by rw [HV.out]; rfl, rfl⟩
        · have e2 : ((s[k + 1].toNat : Int) != 13) = true := by simp; omega
          by_cases d3 : s[k + 1].toNat = 12
          · have e3 : ((s[k + 1].toNat : Int) != 12) = false := by simp; omega
            have HV : Hid (escAt s k = false) := by rw [Hid, HE.out]; simp [d3]
            clear d0 d1 d2 d3
            go_enter Tryz.func12, Tryz.ntmps12
            go_wp2_with fail
            go_ret
            exact ⟨by rw [HV.out]; rfl, rfl⟩
          · have e3 : ((s[k + 1].toNat : Int) != 12) = true := by simp; omega
            have HV : Hid (escAt s k = true) := by rw [Hid, HE.out]; simp [d0, d1, d2, d3]
            clear d0 d1 d2 d3
            go_enter Tryz.func12, Tryz.ntmps12
            go_wp2_with fail
            go_ret
            exact ⟨by rw [HV.out]; rfl, rfl⟩
    · have e0 : ((s[k].toNat : Int) == 92) = false := beq_eq_false_iff_ne.2 (by omega)
      have HV : Hid (escAt s k = false) := by rw [Hid, HE.out]; simp [d0]
      clear d0
      go_enter Tryz.func12, Tryz.ntmps12
      go_wp2_with fail
      go_ret
      exact ⟨by rw [HV.out]; rfl, rfl⟩
  · have HV : Hid (escAt s k = false) := by rw [Hid]; unfold escAt; simp [h1]
    go_enter Tryz.func12, Tryz.ntmps12
    go_wp2_with fail
    go_ret
    exact ⟨by rw [HV.out]; rfl, rfl⟩
end Go.Proofs.YtkdfdfhejibopaaGreatDoor
