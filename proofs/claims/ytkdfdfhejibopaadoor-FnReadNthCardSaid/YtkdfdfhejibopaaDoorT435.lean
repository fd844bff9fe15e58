/- FnReadNth: the walk. -/
import Derived.Test.YtkdfdfhejibopaaDoorT434
namespace Go.Proofs.YtkdfdfhejibopaaDoor
open Go.RowKit
set_option linter.unusedVariables false

def CNth (s : ByteArray) (w : World) (e : Ending) (w' : World) : Prop :=
  ∃ r, PN s 0 r ∧ Below w.heap.size w w' ∧ ((∃ (k : Nat) (v : Value), r = none ∧ ErrV v ∧ e = .returned (.tuple #[.int .i64 0, .int .i64 0, .int .i64 (k : Int), v])) ∨
    (∃ (a b : Int) (k : Nat), r = some (a, b, k) ∧ e = .returned (.tuple #[.int .i64 a, .int .i64 b, .int .i64 (k : Int), .nilIface])))

set_option maxRecDepth 100000 in
set_option maxHeartbeats 4000000 in
theorem cReadNth_any (s : ByteArray) (w : World) (hs : s.size ≤ 1000) (hsm : ¬ isOE (bAt s 0) → ∀ p σ, Sg s p σ → SmD s p) : Calls Tryd.prog 24 #[.string s] w (CNth s w) := by
  have HP := Lib.hid (pNth_any s 0 w.heap.size rfl _ _ w.heap.size w _ hs (Nat.zero_le _) hsm (PrW.made s w))
  clear hsm
  go_enter Tryd.func24, Tryd.ntmps24
  go_wp2_with fail
  refine HP.out.mono ?_
  rintro e1 w1 ⟨r, hr, hh⟩
  have HX := Lib.hid hr
  clear hr
  rcases r with _ | ⟨a, b, k⟩
  · obtain ⟨v, i, ⟨pp, rfl⟩, rfl, hr⟩ := hh
    have HR := Lib.hid hr
    have c1 := hr.c1
    clear hr
    go_wp2_with fail
    go_quiet (fail)
    go_wp2_with fail
    ((try simp only [Exit.inBlock, Exit.then]); refine bodyPost_ret (results_tmp4 rfl _ _ _) rfl ?_)
    exact ⟨none, HX.out, below_drewN HR.out.old _, .inl ⟨i, _, rfl, ⟨pp, rfl⟩, rfl⟩⟩
  · obtain ⟨rfl, hr⟩ := hh
    have HR := Lib.hid hr
    have c1 := hr.c1
    clear hr
    go_wp2_with fail
    go_quiet (fail)
    go_wp2_with fail
    ((try simp only [Exit.inBlock, Exit.then]); refine bodyPost_ret (results_tmp4 rfl _ _ _) rfl ?_)
    exact ⟨some _, HX.out, below_drewN HR.out.old _, .inr ⟨a, b, k, rfl, rfl⟩⟩

def INth (s : ByteArray) (w : World) (e : Ending) (w' : World) : Prop :=
  ∃ r, PN s 0 r ∧ Below w.heap.size w w' ∧ ((r = none ∧ e = .returned (.tuple #[.int .i64 0, .int .i64 0, .int .i64 0, .bool false])) ∨
    (∃ (a b : Int) (k : Nat), r = some (a, b, k) ∧ e = .returned (.tuple #[.int .i64 a, .int .i64 b, .int .i64 (k : Int), .bool true])))

set_option maxRecDepth 100000 in
set_option maxHeartbeats 4000000 in
theorem iReadNth_any (s : ByteArray) (w : World) (hs : s.size ≤ 1000) (hsm : ¬ isOE (bAt s 0) → ∀ p σ, Sg s p σ → SmD s p) : Calls Tryd.prog 12 #[.string s] w (INth s w) := by
  have HC := Lib.hid (cReadNth_any s w hs hsm)
  clear hsm
  go_enter Tryd.func12, Tryd.ntmps12
  go_wp2_with fail
  refine HC.out.mono ?_
  rintro e1 w1 ⟨r, hr, hb, ⟨k, v, hn, ⟨pp, rfl⟩, rfl⟩ | ⟨a, b, k, hn, rfl⟩⟩
  · have HX := Lib.hid hr
    have HB := Lib.hid hb
    have HN := Lib.hid hn
    clear hr hb hn
    go_wp2_with fail
    ((try simp only [Exit.inBlock, Exit.then]); refine bodyPost_ret (results_tmp4 rfl _ _ _) rfl ?_)
    exact ⟨r, HX.out, HB.out, .inl ⟨HN.out, rfl⟩⟩
  · have HX := Lib.hid hr
    have HB := Lib.hid hb
    have HN := Lib.hid hn
    clear hr hb hn
    go_wp2_with fail
    ((try simp only [Exit.inBlock, Exit.then]); refine bodyPost_ret (results_tmp4 rfl _ _ _) rfl ?_)
    exact ⟨r, HX.out, HB.out, .inr ⟨a, b, k, HN.out, rfl⟩⟩

set_option maxRecDepth 100000 in
set_option maxHeartbeats 4000000 in
theorem FnReadNth_walk (s : ByteArray) (w : World) (hsz : s.size ≤ maxLen) :
    Calls Tryd.prog 5 #[.string s] w fun e w' => e = .returned (.bool true) ∧ Below w.heap.size w w' := by
  unfold maxLen at hsz
  by_cases k1 : 2147483647 < s.size
  · go_enter Tryd.func5, Tryd.ntmps5
    go_wp2_with fail
    go_ret
    exact ⟨rfl, Below.refl _ _⟩
  by_cases k2 : 1000 < s.size
  · go_enter Tryd.func5, Tryd.ntmps5
    go_wp2_with fail
    go_ret
    exact ⟨rfl, Below.refl _ _⟩
  have HS := Lib.hid (sReadNth_any s w (by omega))
  have HI := Lib.hid (fun U hsm => iReadNth_any s U (by omega) hsm)
  go_enter Tryd.func5, Tryd.ntmps5
  go_wp2_with fail
  refine HS.out.mono ?_
  rintro e1 w1 ⟨a, b, k, ok, sure, rfl, hb1, hsure⟩
  have HB1 := Lib.hid hb1
  have HSu := Lib.hid hsure
  clear hb1 hsure
  cases sure
  · go_wp2_with fail
    go_ret
    exact ⟨rfl, HB1.out⟩
  have hrn := HSu.out rfl
  have HRn := Lib.hid hrn
  have hsm : ¬ isOE (bAt s 0) → ∀ p σ, Sg s p σ → SmD s p := fun q => by
    obtain ⟨a0, b0, bd, hc, _⟩ := hrn
    exact sm_of hc q
  have HSm := Lib.hid hsm
  clear hrn hsm HSu
  go_wp2_with fail
  refine (HI.out _ HSm.out).mono ?_
  rintro e1 w2 ⟨r, hpn, hb2, hh⟩
  have HB2 := Lib.hid (bnext HB1.out hb2)
  have hm := nth_match HRn.out hpn
  clear hb2 hpn
  cases ok
  · obtain rfl := hm.2 rfl
    rcases hh with ⟨_, rfl⟩ | ⟨_, _, _, q, _⟩
    · clear hm
      go_wp2_with fail
      go_ret
      exact ⟨rfl, HB2.out⟩
    · cases q
  · obtain rfl := hm.1 rfl
    rcases hh with ⟨q, _⟩ | ⟨a', b', k', q, rfl⟩
    · cases q
    · obtain ⟨rfl, rfl, rfl⟩ : a = a' ∧ b = b' ∧ k = k' := by
        have := Option.some.inj q
        exact ⟨(Prod.mk.inj this).1, (Prod.mk.inj (Prod.mk.inj this).2).1, (Prod.mk.inj (Prod.mk.inj this).2).2⟩
      clear hm q
      go_wp2_with fail
      go_ret
      exact ⟨ret_b (by simp), HB2.out⟩
end Go.Proofs.YtkdfdfhejibopaaDoor
