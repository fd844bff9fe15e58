/- Point, where there is a white space. -/
import Derived.Test.YtfebdbfkpmjpeaaT60
namespace Go.Proofs.Ytfebdbfkpmjpeaa
open Go.RowKit
set_option linter.unusedVariables false

def PtIs (p : Int) (n : Nat) (w : World) (e : Ending) (w' : World) : Prop := e = .returned (.tuple #[.int .i64 p, .int .i64 n]) ∧ w = w'

set_option maxRecDepth 100000 in
set_option maxHeartbeats 1000000 in
theorem pt_one (s : ByteArray) (k : Nat) (w : World) (hs : s.size ≤ 2147483647) (hk : k < s.size) (h1 : (s[k].toNat : Int) < 128) : Calls Try.prog 206 #[.string s, .int .i64 k] w (PtIs (s[k].toNat : Int) 1 w) := by
  have hw : wrap64 (s[k].toNat : Int) = (s[k].toNat : Int) := wrap_byte _
  go_enter Try.func206, Try.ntmps206
  go_wp2_with fail
  go_ret2
  exact ⟨rfl, rfl⟩

theorem ret_ii {a b c d : Int} (h : a = b) (h2 : c = d) : Ending.returned (.tuple #[.int .i64 a, .int .i64 c]) = .returned (.tuple #[.int .i64 b, .int .i64 d]) := by rw [h, h2]

set_option maxRecDepth 100000 in
set_option maxHeartbeats 1000000 in
theorem pt_two (s : ByteArray) (k : Nat) (w : World) (hs : s.size ≤ 2147483647) (hk : k < s.size) (hk1 : k + 1 < s.size) (h0 : s[k].toNat = 194) (h1 : 128 ≤ s[k + 1].toNat) (h2 : s[k + 1].toNat < 192) : Calls Try.prog 206 #[.string s, .int .i64 k] w (PtIs (s[k + 1].toNat : Int) 2 w) := by
  have hw1 : wrap64 (s[k + 1].toNat : Int) = (s[k + 1].toNat : Int) := wrap_byte _
  go_enter Try.func206, Try.ntmps206
  go_wp2_with fail
  refine wp_loop_rounds 2 ?_
  rw [rounds_succ]
  go_wp2_with fail
  rw [rounds_succ]
  go_wp2_with fail
  go_ret2
  exact ⟨ret_ii (by omega) rfl, rfl⟩

set_option maxRecDepth 100000 in
set_option maxHeartbeats 1000000 in
theorem pt_three (s : ByteArray) (k : Nat) (w : World) (hs : s.size ≤ 2147483647) (hk : k < s.size) (hk1 : k + 1 < s.size) (hk2 : k + 2 < s.size) (h0 : 225 ≤ s[k].toNat) (h01 : s[k].toNat ≤ 227) (h1 : 128 ≤ s[k + 1].toNat) (h2 : s[k + 1].toNat < 192) (h3 : 128 ≤ s[k + 2].toNat) (h4 : s[k + 2].toNat < 192) :
    Calls Try.prog 206 #[.string s, .int .i64 k] w (PtIs (((s[k].toNat - 224) * 4096 + (s[k + 1].toNat - 128) * 64 + (s[k + 2].toNat - 128) : Nat) : Int) 3 w) := by
  have hw0 : wrap64 (s[k].toNat : Int) = (s[k].toNat : Int) := wrap_byte _
  have hw1 : wrap64 (s[k + 1].toNat : Int) = (s[k + 1].toNat : Int) := wrap_byte _
  have hw2 : wrap64 (s[k + 2].toNat : Int) = (s[k + 2].toNat : Int) := wrap_byte _
  go_enter Try.func206, Try.ntmps206
  go_wp2_with fail
  refine wp_loop_rounds 3 ?_
  rw [rounds_succ]
  go_wp2_with fail
  rw [rounds_succ]
  go_wp2_with fail
  rw [rounds_succ]
  go_wp2_with fail
  go_ret2
  exact ⟨ret_ii (by omega) rfl, rfl⟩
end Go.Proofs.Ytfebdbfkpmjpeaa
