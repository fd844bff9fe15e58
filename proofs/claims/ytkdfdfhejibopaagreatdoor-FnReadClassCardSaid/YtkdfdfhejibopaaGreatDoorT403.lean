/- The reader's small methods: what each answers, the reader as it was (or one step on). -/
import Derived.Test.YtkdfdfhejibopaaGreatDoorT402
import Derived.Deep.QuietTactic
import Derived.BigQuiet
import Derived.IntWalk
namespace Go.Proofs.YtkdfdfhejibopaaGreatDoor
open Go.RowKit
set_option linter.unusedVariables false

theorem bAt_out {s : ByteArray} {k : Nat} (h : s.size ≤ k) : bAt s k = 0 := by
  unfold bAt
  have : s.get! k = default := by
    show s.data.toList.toArray.getD k default = default
    simp [Array.getD]
    intro h2
    have : s.data.size = s.size := rfl
    omega
  rw [this]; rfl

theorem ext2 {s : ByteArray} {k : Nat} (h : k + 2 ≤ s.size) (a b : UInt8) : s.extract k (k + 2) = ⟨#[a, b]⟩ ↔ s[k] = a ∧ s[k + 1] = b := by
  have hs : (s.extract k (k + 2)).size = 2 := by rw [ByteArray.size_extract]; omega
  constructor
  · intro e
    have h0 : (s.extract k (k + 2))[0]'(by omega) = s[k] := by rw [ByteArray.getElem_extract]; simp
    have h1 : (s.extract k (k + 2))[1]'(by omega) = s[k + 1] := by rw [ByteArray.getElem_extract]
    constructor
    · rw [← h0]; simp only [e]; rfl
    · rw [← h1]; simp only [e]; rfl
  · rintro ⟨rfl, rfl⟩
    apply ByteArray.ext
    apply Array.ext
    · have : (s.extract k (k + 2)).data.size = 2 := hs
      rw [this]; rfl
    · intro i h1 h2
      have h3 : i < 2 := h2
      have : i = 0 ∨ i = 1 := by omega
      rcases this with rfl | rfl
      · have : (s.extract k (k + 2))[0]'(by omega) = s[k + 0] := ByteArray.getElem_extract ..
        exact this
      · have : (s.extract k (k + 2))[1]'(by omega) = s[k + 1] := ByteArray.getElem_extract ..
        exact this

theorem tl_beq (a b : ByteArray) : (a.toList == b.toList) = decide (a = b) := by
  rw [Bool.eq_iff_iff, decide_eq_true_eq, beq_iff_eq]
  constructor
  · intro h
    rw [ByteArray.toList_eq, ByteArray.toList_eq] at h
    cases a; cases b
    congr 1
    exact Array.toList_inj.1 h
  · rintro rfl; rfl

theorem u8_nat {x : UInt8} {n : Nat} (h : n < 256) : x = UInt8.ofNat n ↔ x.toNat = n := by
  constructor
  · rintro rfl; simp; omega
  · intro e; rw [← e]; simp

def RdN (v : Value) (w : World) (e : Ending) (w' : World) : Prop := e = .returned v ∧ ∃ q, w' = w.drewN q

/-- The reader in memory. -/
structure RdAt (s : ByteArray) (g k : Nat) (w : World) : Prop where
  s_ : w.cell? ⟨g, 0, none⟩ = some (.string s)
  at_ : w.cell? ⟨g, 1, none⟩ = some (.int .i64 (k : Int))

def StB (b : Bool) (w : World) (e : Ending) (w' : World) : Prop := e = .returned (.bool b) ∧ w = w'

set_option maxRecDepth 100000 in
set_option maxHeartbeats 1000000 in
theorem next_any (s : ByteArray) (g k : Nat) (w : World) (hs : s.size ≤ 2147483647) (hk : k ≤ 2147483647) (h : RdAt s g k w) :
    Calls Tryz.prog 18 #[.pointer (some ⟨g, 0, none⟩)] w (RdN (.int .u8 (bAt s k : Int)) w) := by
  obtain ⟨c0, c1⟩ := h
  by_cases hlt : k < s.size
  · have HV := Lib.hid (bAt_in hlt)
    go_enter Tryz.func18, Tryz.ntmps18
    go_wp2_with fail
    go_quiet (fail)
    go_wp2_with fail
    go_quiet (fail)
    go_wp2_with fail
    go_ret
    exact ⟨by rw [HV.out]; rfl, _, by first | rfl | rw [World.drewN_drewN]⟩
  · have HV := Lib.hid (bAt_out (s := s) (k := k) (by omega))
    go_enter Tryz.func18, Tryz.ntmps18
    go_wp2_with fail
    go_quiet (fail)
    go_wp2_with fail
    go_ret
    exact ⟨by rw [HV.out]; rfl, _, by first | rfl | rw [World.drewN_drewN]⟩

def crlf : ByteArray := ⟨#[13, 10]⟩
def isCrlf (s : ByteArray) (k : Nat) : Bool := decide (k + 1 < s.size ∧ bAt s k = 13 ∧ bAt s (k + 1) = 10)

set_option maxRecDepth 100000 in
set_option maxHeartbeats 2000000 in
theorem here_any (s t : ByteArray) (ht : t = ⟨#[13, 10]⟩) (g k : Nat) (w : World) (hs : s.size ≤ 2147483647) (hk : k ≤ s.size) (h : RdAt s g k w) :
    Calls Tryz.prog 42 #[.pointer (some ⟨g, 0, none⟩), .string t] w (RdN (.bool (isCrlf s k)) w) := by
  obtain ⟨c0, c1⟩ := h
  have hts : t.size = 2 := by rw [ht]; rfl
  have HT := Lib.hid ht
  clear ht
  have hw : IntKind.i64.wrap ((k : Int) + 2) = (k : Int) + 2 := IntWalk.i64_in _ ⟨by omega, by omega⟩
  by_cases hlt : k + 2 ≤ s.size
  · have hd : decide ((k : Int) + 2 ≤ (s.size : Int)) = true := decide_eq_true (by omega)
    have HV : Hid (decide (s.extract k (k + 2) = t) = isCrlf s k) := by
      rw [Hid, HT.out]; unfold isCrlf
      refine decide_eq_decide.2 ?_
      rw [ext2 hlt, bAt_in (by omega : k < s.size), bAt_in (by omega : k + 1 < s.size)]
      have e1 := u8_nat (x := s[k]) (n := 13) (by decide)
      have e2 := u8_nat (x := s[k + 1]) (n := 10) (by decide)
      constructor
      · rintro ⟨q1, q2⟩; exact ⟨by omega, e1.1 q1, e2.1 q2⟩
      · rintro ⟨_, q1, q2⟩; exact ⟨e1.2 q1, e2.2 q2⟩
    go_enter Tryz.func42, Tryz.ntmps42
    go_wp2_with fail
    go_quiet (fail)
    go_wp2_with fail
    go_ret
    exact ⟨by rw [← HV.out, ← tl_beq]; rfl, _, by first | rfl | rw [World.drewN_drewN]⟩
  · have hd : decide ((k : Int) + 2 ≤ (s.size : Int)) = false := decide_eq_false (by omega)
    have HV : Hid (isCrlf s k = false) := by
      rw [Hid]; unfold isCrlf
      exact decide_eq_false (fun q => by omega)
    go_enter Tryz.func42, Tryz.ntmps42
    go_wp2_with fail
    go_quiet (fail)
    go_wp2_with fail
    go_ret
    exact ⟨by rw [HV.out]; rfl, _, by first | rfl | rw [World.drewN_drewN]⟩

def hxI (c : Nat) : Int := if isHx c then (hxD c : Int) else -1

set_option maxRecDepth 100000 in
set_option maxHeartbeats 1000000 in
theorem hexadecimal_any (c : Nat) (hc : c < 256) (w : World) :
    Calls Tryz.prog 30 #[.int .u8 (c : Int)] w (EscNum (.int .i64 (hxI c)) w) := by
  by_cases h1 : 48 ≤ c ∧ c ≤ 57
  · obtain ⟨d0, d1⟩ := h1
    have HV : Hid (hxI c = (c : Int) - 48) := by
      rw [Hid]; unfold hxI
      rw [if_pos ((isHx_iff c).2 (.inl ⟨d0, d1⟩))]
      unfold hxD; rw [if_pos d1]; omega
    go_enter Tryz.func30, Tryz.ntmps30
    go_wp2_with fail
    go_ret
    exact ⟨by rw [HV.out]; first | rfl | (congr 2; omega), rfl⟩
  · by_cases h2 : 97 ≤ c ∧ c ≤ 102
    · obtain ⟨d0, d1⟩ := h2
      have HV : Hid (hxI c = (c : Int) - 97 + 10) := by
        rw [Hid]; unfold hxI
        rw [if_pos ((isHx_iff c).2 (.inr (.inl ⟨d0, d1⟩)))]
        unfold hxD; rw [if_neg (by omega), if_pos d0]; omega
      go_enter Tryz.func30, Tryz.ntmps30
      go_wp2_with fail
      go_ret
      exact ⟨by rw [HV.out]; first | rfl | (congr 2; omega), rfl⟩
    · by_cases h3 : 65 ≤ c ∧ c ≤ 70
      · obtain ⟨d0, d1⟩ := h3
        have HV : Hid (hxI c = (c : Int) - 65 + 10) := by
          rw [Hid]; unfold hxI
          rw [if_pos ((isHx_iff c).2 (.inr (.inr ⟨d0, d1⟩)))]
          unfold hxD; rw [if_neg (by omega), if_neg (by omega)]; omega
        go_enter Tryz.func30, Tryz.ntmps30
        go_wp2_with fail
        go_ret
        exact ⟨by rw [HV.out]; first | rfl | (congr 2; omega), rfl⟩
      · have HV : Hid (hxI c = -1) := by
          rw [Hid]; unfold hxI
          rw [if_neg]
          rw [isHx_iff]; omega
        have hcases : c < 48 ∨ (57 < c ∧ c < 65) ∨ (70 < c ∧ c < 97) ∨ 102 < c := by omega
        clear h1 h2 h3
        rcases hcases with h | ⟨h, h'⟩ | ⟨h, h'⟩ | h
        all_goals
          go_enter Tryz.func30, Tryz.ntmps30
          go_wp2_with fail
          go_ret
          exact ⟨by rw [HV.out]; rfl, rfl⟩
end Go.Proofs.YtkdfdfhejibopaaGreatDoor
