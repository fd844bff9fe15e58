/- FnIsTag: both sides, and the law's walk. -/
import Derived.Test.YtfebdbfkpmjpeaaT17
namespace Go.Proofs.Ytfebdbfkpmjpeaa
open Go.RowKit
set_option linter.unusedVariables false

def selTag (k : ByteArray) : Array Value := #[.int .i64 2, .int .i64 0, .string k, .string ⟨#[]⟩, .int .i64 0, .int .i64 0, .int .i64 0, .int .i64 1]

set_option maxRecDepth 100000 in
set_option maxHeartbeats 2000000 in
theorem bare2 (k : ByteArray) (hk : k.size ≤ 2147483647) (w : World) : Calls Try.prog 137 #[.agg #[.int .i64 2, .int .i64 0, .string k, .string ⟨#[]⟩, .int .i64 0, .int .i64 0, .int .i64 0, .int .i64 1]] w (AnyBB w) := by
  go_enter Try.func137, Try.ntmps137
  go_wp2_with fail
  refine (plain_any _ _ (by decide)).mono ?_
  rintro e w1 ⟨r, rfl, rfl⟩
  cases r
  · go_wp2_with fail
    go_ret
    exact ⟨_, rfl, (Below.refl _ _).alloc (Nat.le_refl _) _⟩
  · go_wp2_with fail
    go_quiet (fail)
    go_wp2_with fail
    refine (name_any k _ hk).mono ?_
    rintro e w1 ⟨r, rfl, rfl⟩
    cases r
    all_goals
      go_wp2_with fail
      go_ret
      exact ⟨_, rfl, below_drewN ((Below.refl _ _).alloc (Nat.le_refl _) _) _⟩

set_option maxRecDepth 100000 in
set_option maxHeartbeats 2000000 in
theorem rs2 (k : ByteArray) (hk : k.size ≤ 2147483647) (w : World) : Calls Try.prog 82 #[.agg #[.int .i64 2, .int .i64 0, .string k, .string ⟨#[]⟩, .int .i64 0, .int .i64 0, .int .i64 0, .int .i64 1]] w (AnyBB w) := by
  go_enter Try.func82, Try.ntmps82
  go_wp2_with fail
  refine (bare2 k hk _).mono ?_
  rintro e w1 ⟨r, rfl, hb⟩
  have hc0 : w1.cell? ⟨w.heap.size, 0, none⟩ = some (.int .i64 2) := by
    rw [hb.cell (p := ⟨w.heap.size, 0, none⟩) (by simp), World.cell?_alloc_mark]; rfl
  have HB := Lib.hid (bnext ((Below.refl w.heap.size w).alloc (Nat.le_refl _) _) hb)
  clear hb
  cases r
  · go_wp2_with fail
    go_ret
    exact ⟨_, rfl, HB.out⟩
  · go_wp2_with (first | go_in | fail)
    go_ret
    exact ⟨_, rfl, HB.out⟩

set_option maxRecDepth 100000 in
set_option maxHeartbeats 1000000 in
theorem simple2 (k : ByteArray) (ad : Option Addr) (c : Nat) (t : List Nd) (i : Nat) (hi : i < t.length) (w : World) (h : NSl w w.heap.size ad t) :
    Calls Try.prog 145 #[.slice ad t.length c, .int .i64 i, .agg #[.int .i64 2, .int .i64 0, .string k, .string ⟨#[]⟩, .int .i64 0, .int .i64 0, .int .i64 0, .int .i64 1]] w (MPost (fun m => m = truthI ((t.getD i default).tag.toList == k.toList)) w) := by
  obtain ⟨b, o, rfl, hbB, hc⟩ := h.at_ (by omega)
  obtain ⟨g1, g2, g3, g4, g5, -⟩ := hc i hi
  have hm := h.1
  unfold maxLen at hm
  have e1 : (t.getD i default).tag = t[i].tag := by rw [getD_at hi]
  rw [e1]
  obtain ⟨x, hx⟩ : ∃ x, x = t[i] := ⟨_, rfl⟩
  rw [← hx] at g1 g2 g3 g4 g5 ⊢
  clear hc hx h e1
  go_enter Try.func145, Try.ntmps145
  go_wp2_with fail
  refine (truth_any _ _).mono ?_
  rintro e w1 ⟨rfl, rfl⟩
  go_wp2_with fail
  go_ret
  exact ⟨_, rfl, rfl, ((Below.refl _ _).alloc (Nat.le_refl _) _).alloc (by simp) _⟩

set_option maxRecDepth 100000 in
set_option maxHeartbeats 2000000 in
theorem tagMatch (g : Nat) (d k : ByteArray) (w : World) (h5 : w.cell? ⟨g, 5, none⟩ = some (.int .u32 3)) (h7 : w.cell? ⟨g, 7, none⟩ = some (.string d)) (hg : g < w.heap.size) :
    Calls Try.prog 86 #[.pointer (some ⟨g, 0, none⟩), .string k] w fun e w' => e = .returned (.bool (d.toList == k.toList)) ∧ Below w.heap.size w w' := by
  go_enter Try.func86, Try.ntmps86
  go_wp2_with (first | go_in | fail)
  go_quiet (fail)
  go_wp2_with fail
  go_ret
  exact ⟨rfl, below_drewN ((Below.refl _ _).alloc (Nat.le_refl _) _) _⟩

set_option maxRecDepth 100000 in
set_option maxHeartbeats 2000000 in
theorem iIsTag (k : ByteArray) (ad : Option Addr) (c : Nat) (t : List Nd) (hR : RightP t) (i : Nat) (hi : i < t.length) (hk : t[i].kind = 3) (w : World) (h : NSl w w.heap.size ad t) :
    Calls Try.prog 24 #[.slice ad t.length c, .int .i64 i, .string k] w fun e w' => e = .returned (.tuple #[.bool (t[i].tag.toList == k.toList), .bool true]) ∧ Below w.heap.size w w' := by
  have hle := hR.le
  go_enter Try.func24, Try.ntmps24
  go_wp2_with fail
  refine (grown_any _ c t _ h hR).mono ?_
  rintro e w1 ⟨L, bl, st, rfl, hb1, hL, hT⟩
  have hcell := hT.cell i hi
  obtain ⟨h5, h7, hlt⟩ := hT.elem i hi hk
  have HM := Lib.hid (tagMatch (bl i) t[i].tag k w1 h5 h7 hlt)
  have HB := Lib.hid hb1
  clear h5 h7 hT hb1 h hR hk
  go_wp2_with fail
  refine HM.out.mono ?_
  rintro e w2 ⟨rfl, hb2⟩
  have HB2 := Lib.hid hb2
  clear hb2
  go_wp2_with fail
  go_ret2
  exact ⟨rfl, bnext HB.out HB2.out⟩

set_option maxRecDepth 100000 in
set_option maxHeartbeats 2000000 in
theorem FnIsTag_walk (ad : Option Addr) (len c : Nat) (t : List Nd) (I : Int) (k : ByteArray) (w : World) (h : NSl w w.heap.size ad t ∧ len = t.length) (_hI : (Lit.int .i64 I).wf = true) (hk : k.size ≤ maxLen) :
    Calls Try.prog 4 #[.slice ad len c, .int .i64 I, .string k] w fun e w' => e = .returned (.bool true) ∧ Below w.heap.size w w' := by
  obtain ⟨h, rfl⟩ := h
  have HH := Lib.hid h
  unfold maxLen at hk
  clear h
  go_enter Try.func4, Try.ntmps4
  go_wp2_with fail
  refine (zzFits1_any _ _ t _ HH.out).mono ?_
  rintro e w1 ⟨rfl, hb1⟩
  have HB1 := Lib.hid hb1
  clear hb1
  cases hf : fits1 t
  · go_wp2_with fail
    go_ret
    exact ⟨rfl, HB1.out⟩
  · by_cases hk2 : 2147483647 < k.size
    · go_wp2_with fail
      go_ret
      exact ⟨rfl, HB1.out⟩
    · go_wp2_with fail
      refine (lalone_any (fun i m => m = truthI ((t.getD i default).tag.toList == k.toList)) _ c t hf I ⟨2, 0, k, ⟨#[]⟩, 0, 0, 0, 0⟩ ⟨rfl, rfl, rfl, rfl, rfl, rfl⟩ rfl _ (HH.out.up HB1.out) (fun W => rs2 k (by omega) W) (fun i _ hi _ W hW => simple2 k _ c t i hi W hW)).mono ?_
      rintro e w2 ⟨want, sure, rfl, hb2, hs⟩
      have HB2 := Lib.hid (bnext HB1.out hb2)
      have HS := Lib.hid hs
      clear hb2 hs
      cases sure
      · go_wp2_with fail
        go_ret
        exact ⟨rfl, HB2.out⟩
      · obtain ⟨hR, i, m, rfl, ⟨hi, hk⟩, hm, hm2, hw⟩ := HS.out rfl
        rw [getD_at hi] at hm
        subst hm
        have hw2 : want = (t[i].tag.toList == k.toList) := by rw [hw]; cases (t[i].tag.toList == k.toList) <;> rfl
        have HW := Lib.hid hw2
        clear hw hw2 hm2
        go_wp2_with fail
        refine (iIsTag k _ c t hR i hi hk _ (HH.out.up HB2.out)).mono ?_
        rintro e w3 ⟨rfl, hb3⟩
        have HB3 := Lib.hid (bnext HB2.out hb3)
        clear hb3 hR hk
        rw [← HW.out]
        go_wp2_with fail
        go_ret
        exact ⟨by simp, HB3.out⟩
end Go.Proofs.Ytfebdbfkpmjpeaa
