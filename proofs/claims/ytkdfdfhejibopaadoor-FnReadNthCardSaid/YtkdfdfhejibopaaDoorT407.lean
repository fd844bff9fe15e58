/- FnReadEscape: the walk. -/
import Derived.Test.YtkdfdfhejibopaaDoorT406
namespace Go.Proofs.YtkdfdfhejibopaaDoor
open Go.RowKit
set_option linter.unusedVariables false

theorem results_tmp4 {fn : Func} {t u v x : Tmp} (h : fn.results = #[.tmp t, .tmp u, .tmp v, .tmp x]) (tmps : Array Value) (P : Program) (w : World) :
    (results fn tmps).run P w = .ok (.tuple #[tmps.getD t undef, tmps.getD u undef, tmps.getD v undef, tmps.getD x undef]) w := by
  simp [results, h]

/-- What the reference says of an escape. -/
def SEsc (s : ByteArray) (w : World) (e : Ending) (w' : World) : Prop :=
  ∃ (out : ByteArray) (k : Nat) (ok sure : Bool), e = .returned (.tuple #[.string out, .int .i64 (k : Int), .bool ok, .bool sure]) ∧ Below w.heap.size w w' ∧
    (sure = true → ok = escAt s 0 ∧ (ok = true → EscIs s 0 out k false))

/-- A new reader. -/
theorem RdW.made (s : ByteArray) (w : World) : RdW s w.heap.size 0 false w.heap.size w (w.alloc (.cells #[.string s, .int .i64 0, .bool false, .bool false, .bool false] 34)) :=
  ⟨heap_alloc_new w _, (Below.refl _ _).alloc (Nat.le_refl _) _, Nat.le_refl _⟩
theorem PrW.made (s : ByteArray) (w : World) : PrW s w.heap.size 0 (.int .i64 0) (.bool false) w.heap.size w (w.alloc (.cells #[.string s, .int .i64 0, .int .i64 0, .bool false] 52)) :=
  ⟨heap_alloc_new w _, (Below.refl _ _).alloc (Nat.le_refl _) _, Nat.le_refl _⟩

theorem RdW.cu {s : ByteArray} {g k : Nat} {u : Bool} {B : Nat} {W w : World} (h : RdW s g k u B W w) : w.cell? ⟨g, 3, none⟩ = some (.bool u) := by rw [cell_of_row w g 3 _ _ _ h.blk]; rfl

set_option maxRecDepth 100000 in
set_option maxHeartbeats 4000000 in
theorem sReadEscape_any (s : ByteArray) (w : World) (hs : s.size ≤ 2147483647) : Calls Tryd.prog 6 #[.string s] w (SEsc s w) := by
  have HR := Lib.hid (RdW.made s w)
  have HRd := Lib.hid (fun U => readable_any s U hs)
  cases hE : escAt s 0
  · have HF := Lib.hid (escF_any s w.heap.size 0 _ hs (Nat.zero_le _) HR.out.rd.s_)
    rw [hE] at HF
    have HE := Lib.hid hE
    clear hE
    go_enter Tryd.func6, Tryd.ntmps6
    go_wp2_with fail
    refine HF.out.mono ?_
    rintro e1 w1 ⟨rfl, rfl⟩
    go_wp2_with fail
    refine (HRd.out _).mono ?_
    rintro e1 w1 ⟨b, rfl, rfl⟩
    go_wp2_with fail
    ((try simp only [Exit.inBlock, Exit.then]); refine bodyPost_ret (results_tmp4 rfl _ _ _) rfl ?_)
    exact ⟨_, 0, false, b, rfl, HR.out.old, fun _ => ⟨HE.out.symm, fun h => by cases h⟩⟩
  · have HF := Lib.hid (escF_any s w.heap.size 0 _ hs (Nat.zero_le _) HR.out.rd.s_)
    rw [hE] at HF
    have HE := Lib.hid hE
    have hlt : 1 < s.size := ((escAt_iff s 0).1 hE).1
    clear hE
    by_cases hlo : s[1].toNat < 128
    · have hlo2 : (s[1].toNat : Int) < 128 := by omega
      have HEs := Lib.hid (escape_any s w.heap.size 0 w.heap.size w _ hs HE.out (by rw [bAt_in (by omega)]; exact hlo) HR.out)
      clear hlo
      go_enter Tryd.func6, Tryd.ntmps6
      go_wp2_with fail
      refine HF.out.mono ?_
      rintro e1 w1 ⟨rfl, rfl⟩
      go_wp2_with fail
      refine (HRd.out _).mono ?_
      rintro e1 w1 ⟨b, rfl, rfl⟩
      cases b
      · go_wp2_with fail
        ((try simp only [Exit.inBlock, Exit.then]); refine bodyPost_ret (results_tmp4 rfl _ _ _) rfl ?_)
        exact ⟨_, 0, false, false, rfl, HR.out.old, fun h => by cases h⟩
      · go_wp2_with fail
        refine HEs.out.mono ?_
        rintro e1 w1 ⟨out, k, u, rfl, hr, hk, hesc⟩
        have c1 := hr.rd.at_
        have c3 := hr.cu
        have HR1 := Lib.hid hr
        have HX := Lib.hid hesc
        clear hr hesc
        go_wp2_with fail
        go_quiet (fail)
        go_wp2_with fail
        ((try simp only [Exit.inBlock, Exit.then]); refine bodyPost_ret (results_tmp4 rfl _ _ _) rfl ?_)
        exact ⟨out, k, true, !u, rfl, below_drewN HR1.out.old _, fun h => ⟨HE.out.symm, fun _ => by
          have : u = false := by simpa using h
          subst this; exact HX.out⟩⟩
    · have hlo2 : 128 ≤ (s[1].toNat : Int) := by omega
      have hlo3 : decide ((s[1].toNat : Int) < 128) = false := decide_eq_false (by omega)
      clear hlo
      go_enter Tryd.func6, Tryd.ntmps6
      go_wp2_with fail
      refine HF.out.mono ?_
      rintro e1 w1 ⟨rfl, rfl⟩
      go_wp2_with fail
      refine (HRd.out _).mono ?_
      rintro e1 w1 ⟨b, rfl, rfl⟩
      cases b
      all_goals
        go_wp2_with fail
        ((try simp only [Exit.inBlock, Exit.then]); refine bodyPost_ret (results_tmp4 rfl _ _ _) rfl ?_)
        exact ⟨_, 0, false, false, rfl, HR.out.old, fun h => by cases h⟩

/-- What the package says of one. -/
def CEsc (s : ByteArray) (w : World) (e : Ending) (w' : World) : Prop :=
  ∃ (out : ByteArray) (k : Nat), e = .returned (.tuple #[.string out, .int .i64 (k : Int), .bool (escAt s 0)]) ∧ Below w.heap.size w w' ∧ (escAt s 0 = true → PEscIs s 0 out k)

def CEsc1 (s : ByteArray) (w : World) (e : Ending) (w' : World) : Prop :=
  ∃ (out : ByteArray) (k : Nat), e = .returned (.tuple #[.string out, .int .i64 (k : Int), .nilIface]) ∧ Below w.heap.size w w' ∧ PEscIs s 0 out k
def CEsc0 (w : World) (e : Ending) (w' : World) : Prop :=
  ∃ (x v : Value) (k : Nat), ErrV v ∧ e = .returned (.tuple #[x, .int .i64 (k : Int), v]) ∧ Below w.heap.size w w'

set_option maxRecDepth 100000 in
set_option maxHeartbeats 4000000 in
theorem cReadEscape_yes (s : ByteArray) (w : World) (hs : s.size ≤ 2147483647) (hE : escAt s 0 = true) : Calls Tryd.prog 16 #[.string s] w (CEsc1 s w) := by
  have HP := Lib.hid (pEscYes_any s w.heap.size 0 _ _ w.heap.size w _ hs hE (PrW.made s w))
  clear hE
  go_enter Tryd.func16, Tryd.ntmps16
  go_wp2_with fail
  refine HP.out.mono ?_
  rintro e1 w1 ⟨out, k, rfl, hr, hk, hx⟩
  have HR := Lib.hid hr
  have HX := Lib.hid hx
  have c1 := hr.c1
  clear hr hx
  go_wp2_with fail
  go_quiet (fail)
  go_wp2_with fail
  go_ret3
  exact ⟨out, k, rfl, below_drewN HR.out.old _, HX.out⟩

set_option maxRecDepth 100000 in
set_option maxHeartbeats 4000000 in
theorem cReadEscape_no (s : ByteArray) (w : World) (hs : s.size ≤ 2147483647) (hE : escAt s 0 = false) : Calls Tryd.prog 16 #[.string s] w (CEsc0 w) := by
  have HP := Lib.hid (pEscNo_any s w.heap.size 0 _ _ w.heap.size w _ hs (Nat.zero_le _) hE (PrW.made s w))
  clear hE
  go_enter Tryd.func16, Tryd.ntmps16
  go_wp2_with fail
  refine HP.out.mono ?_
  rintro e1 w1 ⟨v, x, k, hv, rfl, hr⟩
  have HR := Lib.hid hr
  have HV := Lib.hid hv
  have c1 := hr.c1
  clear hr hv
  go_wp2_with fail
  go_quiet (fail)
  go_wp2_with fail
  go_ret3
  exact ⟨x, v, k, HV.out, rfl, below_drewN HR.out.old _⟩

set_option maxRecDepth 100000 in
set_option maxHeartbeats 4000000 in
theorem iReadEscape_any (s : ByteArray) (w : World) (hs : s.size ≤ 2147483647) : Calls Tryd.prog 7 #[.string s] w (CEsc s w) := by
  cases hE : escAt s 0
  · have HC := Lib.hid (cReadEscape_no s w hs hE)
    have HE := Lib.hid hE
    clear hE
    go_enter Tryd.func7, Tryd.ntmps7
    go_wp2_with fail
    refine HC.out.mono ?_
    rintro e1 w1 ⟨x, v, k, ⟨p, rfl⟩, rfl, hb⟩
    have HB := Lib.hid hb
    clear hb
    go_wp2_with fail
    go_ret3
    exact ⟨_, 0, by rw [HE.out]; rfl, HB.out, fun h => by rw [HE.out] at h; cases h⟩
  · have HC := Lib.hid (cReadEscape_yes s w hs hE)
    have HE := Lib.hid hE
    clear hE
    go_enter Tryd.func7, Tryd.ntmps7
    go_wp2_with fail
    refine HC.out.mono ?_
    rintro e1 w1 ⟨out, k, rfl, hb, hx⟩
    have HB := Lib.hid hb
    have HX := Lib.hid hx
    clear hb hx
    go_wp2_with fail
    go_ret3
    exact ⟨out, k, by rw [HE.out]; rfl, HB.out, fun _ => HX.out⟩

theorem esc_same {s : ByteArray} {k : Nat} {out out' : ByteArray} {k1 k2 : Nat} (h : EscIs s k out k1 false) (h' : PEscIs s k out' k2) : out' = out ∧ k2 = k1 := by
  obtain ⟨j, x, a, b⟩ := h
  obtain ⟨j', x', a', b'⟩ := h'
  obtain rfl : j = j' := x.uniq x'
  rcases Nat.eq_zero_or_pos j with h0 | h0
  · obtain ⟨e1, e2, _⟩ := a h0
    obtain ⟨e3, e4⟩ := a' h0
    exact ⟨e3.trans e1.symm, e4.trans e2.symm⟩
  · obtain ⟨e1, _, e2⟩ := b h0
    obtain ⟨e3, e4⟩ := b' h0
    exact ⟨e4.trans (e2 rfl).symm, e3.trans e1.symm⟩

set_option maxRecDepth 100000 in
set_option maxHeartbeats 4000000 in
theorem FnReadEscape_walk (s : ByteArray) (w : World) (hsz : s.size ≤ maxLen) :
    Calls Tryd.prog 3 #[.string s] w fun e w' => e = .returned (.bool true) ∧ Below w.heap.size w w' := by
  unfold maxLen at hsz
  by_cases k1 : 2147483647 < s.size
  · go_enter Tryd.func3, Tryd.ntmps3
    go_wp2_with fail
    go_ret
    exact ⟨rfl, Below.refl _ _⟩
  by_cases k2 : 1000 < s.size
  · go_enter Tryd.func3, Tryd.ntmps3
    go_wp2_with fail
    go_ret
    exact ⟨rfl, Below.refl _ _⟩
  have HS := Lib.hid (sReadEscape_any s w (by omega))
  have HI := Lib.hid (fun U => iReadEscape_any s U (by omega))
  go_enter Tryd.func3, Tryd.ntmps3
  go_wp2_with fail
  refine HS.out.mono ?_
  rintro e1 w1 ⟨out, k, ok, sure, rfl, hb1, hsure⟩
  have HB1 := Lib.hid hb1
  have HSu := Lib.hid hsure
  clear hb1 hsure
  cases sure
  · go_wp2_with fail
    go_ret
    exact ⟨rfl, HB1.out⟩
  obtain ⟨hok, hesc⟩ := HSu.out rfl
  have HOk := Lib.hid hok
  have HEsc := Lib.hid hesc
  clear hok hesc HSu
  go_wp2_with fail
  refine (HI.out _).mono ?_
  rintro e1 w2 ⟨out', k', rfl, hb2, hesc'⟩
  have HB2 := Lib.hid (bnext HB1.out hb2)
  rw [← HOk.out] at hesc' ⊢
  cases ok
  · clear hb2 hesc'
    go_wp2_with fail
    go_ret
    exact ⟨rfl, HB2.out⟩
  · obtain ⟨rfl, rfl⟩ := esc_same (HEsc.out rfl) (hesc' rfl)
    clear hb2 hesc' HEsc
    go_wp2_with fail
    go_ret
    exact ⟨ret_b (by simp), HB2.out⟩
end Go.Proofs.YtkdfdfhejibopaaDoor
