/- Parts of a selection: Slice, Eq, First, Last. -/
import Derived.Test.YtgilbckfkngaiaaGreatT53
namespace Go.Proofs.YtgilbckfkngaiaaGreat
open Go.RowKit
set_option linter.unusedVariables false

def PartPost (bl : Nat → Nat) (N : List Nat) (w : World) (e : Ending) (w' : World) : Prop :=
  ∃ g2 a5 c5 doc prev, e = .returned (.pointer (some ⟨g2, 0, none⟩)) ∧ SelB w' g2 a5 N.length c5 doc prev ∧ RSl w' w'.heap.size a5 (ptrs bl N) ∧ Below w.heap.size w w'

theorem RSl.sub {w : World} {B : Nat} {b o : Nat} {xs : List Value} (hb : b < B) (hc : ∀ i (h : i < xs.length), w.cell? ⟨b, o + i, none⟩ = some xs[i]) (lo k : Nat) (h : lo + k ≤ xs.length) : RSl w B (some ⟨b, o + lo, none⟩) ((xs.drop lo).take k) := by
  refine .inr ⟨b, o + lo, rfl, hb, fun i hi => ?_⟩
  rw [List.length_take, List.length_drop] at hi
  rw [List.getElem_take, List.getElem_drop, Nat.add_assoc]
  exact hc (lo + i) (by omega)


theorem part_mk {bl : Nat → Nat} {N : List Nat} {w w1 : World} {e : Ending} {g2 n c5 : Nat} {a5 doc prev : Option Addr} (hs : SelB w1 g2 a5 n c5 doc prev) (hn : n = N.length) (hr : RSl w1 w1.heap.size a5 (ptrs bl N)) (hb : Below w.heap.size w w1) (he : e = .returned (.pointer (some ⟨g2, 0, none⟩))) : PartPost bl N w e w1 := by
  subst hn
  exact ⟨g2, a5, c5, doc, prev, he, hs, hr, hb⟩

set_option maxRecDepth 100000 in
theorem selLen_any (g : Nat) (a : Option Addr) (n c : Nat) (doc prev : Option Addr) (w : World) (c0 : w.cell? ⟨g, 0, none⟩ = some (.slice a n c)) : Calls Tryz.prog 101 #[.pointer (some ⟨g, 0, none⟩)] w fun e w' => e = .returned (.int .i64 n) ∧ w = w' := by
  go_enter Tryz.func101, Tryz.ntmps101
  go_wp2_with fail
  go_ret
  exact ⟨rfl, rfl⟩

set_option maxRecDepth 100000 in
set_option maxHeartbeats 2000000 in
theorem slice_ff (bl : Nat → Nat) (ns : List Nat) (hlen : ns.length ≤ 200) (g : Nat) (a : Option Addr) (c : Nat) (doc prev : Option Addr) (w : World) (hs : SelB w g a ns.length c doc prev) (hcap : ns.length ≤ c ∧ c ≤ maxLen) (h : RSl w w.heap.size a (ptrs bl ns)) (lo hi : Nat) (h1 : lo ≤ hi) (h2 : hi ≤ ns.length) :
    Calls Tryz.prog 94 #[.pointer (some ⟨g, 0, none⟩), .int .i64 (lo : Nat), .int .i64 (hi : Nat)] w (PartPost bl ((ns.drop lo).take (hi - lo)) w) := by
  obtain ⟨c0, c1, c2⟩ := hs.cells
  have HS := Lib.hid hs
  have HH := Lib.hid h
  have hc3 := hcap.1
  have hc4 := hcap.2
  unfold maxLen at hc4
  have hb9 : (((hi : Nat) : Int) == 9223372036854775807) = false := beq_eq_false_iff_ne.2 (by omega)
  have hl : ((ns.drop lo).take (hi - lo)).length = hi - lo := by rw [List.length_take, List.length_drop]; omega
  by_cases hz : hi - lo = 0
  · have HN : Hid ((ns.drop lo).take (hi - lo) = []) := by rw [Hid, hz]; rfl
    have HZ := Lib.hid hz
    obtain rfl : hi = lo := by omega
    clear hs h hcap hl hz
    go_enter Tryz.func94, Tryz.ntmps94
    go_wp2_with fail
    all_goals
      refine (push_any g a ns.length c doc prev _ _ _ w HS.out).mono ?_
      rintro e w1 ⟨rfl, hs1, hb1⟩
      have HS1 := Lib.hid hs1
      have HB1 := Lib.hid hb1
      clear hs1 hb1
      go_wp2_with fail
      go_ret
      exact part_mk HS1.out (by rw [HN.out]; simp) (by rw [HN.out]; exact .inl rfl) HB1.out rfl
  · obtain ⟨b, o, rfl, hbB, hc⟩ := h.at_ (by rw [ptrs_length]; omega)
    have HSub : Hid (RSl w w.heap.size (some ⟨b, o + lo, none⟩) (ptrs bl ((ns.drop lo).take (hi - lo)))) := by
      have := RSl.sub hbB hc lo (hi - lo) (by rw [ptrs_length]; omega)
      rw [Hid]
      unfold ptrs at this ⊢
      rw [List.map_take, List.map_drop]
      exact this
    have hne : lo ≠ c := by omega
    have HL := Lib.hid hl
    have hlt : lo < c := by omega
    clear hs h hcap hl hz hc
    go_enter Tryz.func94, Tryz.ntmps94
    go_wp2_with fail
    refine (push_any g _ ns.length c doc prev _ _ _ w HS.out).mono ?_
    rintro e w1 ⟨rfl, hs1, hb1⟩
    have HS1 := Lib.hid hs1
    have HB1 := Lib.hid hb1
    clear hs1 hb1
    go_wp2_with fail
    go_ret
    exact part_mk HS1.out HL.out.symm (HSub.out.up HB1.out) HB1.out rfl

set_option maxRecDepth 100000 in
set_option maxHeartbeats 2000000 in
theorem sliced_ff (bl : Nat → Nat) (ns : List Nat) (hlen : ns.length ≤ 200) (g : Nat) (a : Option Addr) (c : Nat) (doc prev : Option Addr) (w : World) (hs : SelB w g a ns.length c doc prev) (hcap : ns.length ≤ c ∧ c ≤ maxLen) (h : RSl w w.heap.size a (ptrs bl ns)) (lo hi : Nat) (h1 : lo ≤ hi) (h2 : hi ≤ ns.length) :
    Calls Tryz.prog 87 #[.pointer (some ⟨g, 0, none⟩), .int .i64 (lo : Nat), .int .i64 (hi : Nat)] w (PartPost bl ((ns.drop lo).take (hi - lo)) w) := by
  have HSl := Lib.hid (slice_ff bl ns hlen g a c doc prev w hs hcap h lo hi h1 h2)
  obtain ⟨c0, c1, c2⟩ := hs.cells
  have hb9 : (((hi : Nat) : Int) == 9223372036854775807) = false := beq_eq_false_iff_ne.2 (by omega)
  have d1 : decide (lo ≤ hi) = true := decide_eq_true h1
  have d2 : decide (hi ≤ ns.length) = true := decide_eq_true h2
  have n1 : ¬ hi < lo := by omega
  have n2 : ¬ ns.length < hi := by omega
  obtain ⟨N, hN⟩ : ∃ N, N = (ns.drop lo).take (hi - lo) := ⟨_, rfl⟩
  rw [← hN] at HSl ⊢
  clear hs h hcap hN
  go_enter Tryz.func87, Tryz.ntmps87
  go_wp2_with (go_at_call 101; refine (selLen_any g a ns.length c doc prev w c0).mono ?_; rintro e w' ⟨rfl, rfl⟩)
  refine HSl.out.mono ?_
  rintro e w1 ⟨g2, a5, c5, doc2, prev2, rfl, hs2, hr2, hb2⟩
  have HS2 := Lib.hid hs2
  have HR2 := Lib.hid hr2
  have HB2 := Lib.hid hb2
  clear hs2 hr2 hb2
  go_wp2_with fail
  go_ret
  exact part_mk HS2.out rfl HR2.out HB2.out rfl

set_option maxRecDepth 100000 in
set_option maxHeartbeats 2000000 in
theorem slice_fe (bl : Nat → Nat) (ns : List Nat) (hlen : ns.length ≤ 200) (g : Nat) (a : Option Addr) (c : Nat) (doc prev : Option Addr) (w : World) (hs : SelB w g a ns.length c doc prev) (hcap : ns.length ≤ c ∧ c ≤ maxLen) (h : RSl w w.heap.size a (ptrs bl ns)) (lo : Nat) (h1 : lo ≤ ns.length) (h2 : ns.length ≤ ns.length) :
    Calls Tryz.prog 94 #[.pointer (some ⟨g, 0, none⟩), .int .i64 (lo : Nat), .int .i64 9223372036854775807] w (PartPost bl ((ns.drop lo).take (ns.length - lo)) w) := by
  obtain ⟨c0, c1, c2⟩ := hs.cells
  have HS := Lib.hid hs
  have HH := Lib.hid h
  have hc3 := hcap.1
  have hc4 := hcap.2
  unfold maxLen at hc4
  have hl : ((ns.drop lo).take (ns.length - lo)).length = ns.length - lo := by rw [List.length_take, List.length_drop]; omega
  by_cases hz : ns.length - lo = 0
  · have HN : Hid ((ns.drop lo).take (ns.length - lo) = []) := by rw [Hid, hz]; rfl
    have HZ := Lib.hid hz
    obtain rfl : lo = ns.length := by omega
    clear hs h hcap hl hz
    go_enter Tryz.func94, Tryz.ntmps94
    go_wp2_with fail
    all_goals
      refine (push_any g a ns.length c doc prev _ _ _ w HS.out).mono ?_
      rintro e w1 ⟨rfl, hs1, hb1⟩
      have HS1 := Lib.hid hs1
      have HB1 := Lib.hid hb1
      clear hs1 hb1
      go_wp2_with fail
      go_ret
      exact part_mk HS1.out (by rw [HN.out]; simp) (by rw [HN.out]; exact .inl rfl) HB1.out rfl
  · obtain ⟨b, o, rfl, hbB, hc⟩ := h.at_ (by rw [ptrs_length]; omega)
    have HSub : Hid (RSl w w.heap.size (some ⟨b, o + lo, none⟩) (ptrs bl ((ns.drop lo).take (ns.length - lo)))) := by
      have := RSl.sub hbB hc lo (ns.length - lo) (by rw [ptrs_length]; omega)
      rw [Hid]
      unfold ptrs at this ⊢
      rw [List.map_take, List.map_drop]
      exact this
    have hne : lo ≠ c := by omega
    have HL := Lib.hid hl
    have hlt : lo < c := by omega
    clear hs h hcap hl hz hc
    go_enter Tryz.func94, Tryz.ntmps94
    go_wp2_with fail
    refine (push_any g _ ns.length c doc prev _ _ _ w HS.out).mono ?_
    rintro e w1 ⟨rfl, hs1, hb1⟩
    have HS1 := Lib.hid hs1
    have HB1 := Lib.hid hb1
    clear hs1 hb1
    go_wp2_with fail
    go_ret
    exact part_mk HS1.out HL.out.symm (HSub.out.up HB1.out) HB1.out rfl

set_option maxRecDepth 100000 in
set_option maxHeartbeats 2000000 in
theorem sliced_fe (bl : Nat → Nat) (ns : List Nat) (hlen : ns.length ≤ 200) (g : Nat) (a : Option Addr) (c : Nat) (doc prev : Option Addr) (w : World) (hs : SelB w g a ns.length c doc prev) (hcap : ns.length ≤ c ∧ c ≤ maxLen) (h : RSl w w.heap.size a (ptrs bl ns)) (lo : Nat) (h1 : lo ≤ ns.length) (h2 : ns.length ≤ ns.length) :
    Calls Tryz.prog 87 #[.pointer (some ⟨g, 0, none⟩), .int .i64 (lo : Nat), .int .i64 9223372036854775807] w (PartPost bl ((ns.drop lo).take (ns.length - lo)) w) := by
  have HSl := Lib.hid (slice_fe bl ns hlen g a c doc prev w hs hcap h lo h1 h2)
  obtain ⟨c0, c1, c2⟩ := hs.cells
  have d1 : decide (lo ≤ ns.length) = true := decide_eq_true h1
  have d2 : decide (ns.length ≤ ns.length) = true := decide_eq_true h2
  have n1 : ¬ ns.length < lo := by omega
  have n2 : ¬ ns.length < ns.length := by omega
  obtain ⟨N, hN⟩ : ∃ N, N = (ns.drop lo).take (ns.length - lo) := ⟨_, rfl⟩
  rw [← hN] at HSl ⊢
  clear hs h hcap hN
  go_enter Tryz.func87, Tryz.ntmps87
  go_wp2_with (go_at_call 101; refine (selLen_any g a ns.length c doc prev w c0).mono ?_; rintro e w' ⟨rfl, rfl⟩)
  refine HSl.out.mono ?_
  rintro e w1 ⟨g2, a5, c5, doc2, prev2, rfl, hs2, hr2, hb2⟩
  have HS2 := Lib.hid hs2
  have HR2 := Lib.hid hr2
  have HB2 := Lib.hid hb2
  clear hs2 hr2 hb2
  go_wp2_with fail
  go_ret
  exact part_mk HS2.out rfl HR2.out HB2.out rfl

set_option maxRecDepth 100000 in
set_option maxHeartbeats 2000000 in
theorem slice_fb (bl : Nat → Nat) (ns : List Nat) (hlen : ns.length ≤ 200) (g : Nat) (a : Option Addr) (c : Nat) (doc prev : Option Addr) (w : World) (hs : SelB w g a ns.length c doc prev) (hcap : ns.length ≤ c ∧ c ≤ maxLen) (h : RSl w w.heap.size a (ptrs bl ns)) (lo hi : Nat) (B : Int) (hB : B < 0) (hB2 : B + (ns.length : Int) = (hi : Int)) (h1 : lo ≤ hi) (h2 : hi ≤ ns.length) :
    Calls Tryz.prog 94 #[.pointer (some ⟨g, 0, none⟩), .int .i64 (lo : Nat), .int .i64 B] w (PartPost bl ((ns.drop lo).take (hi - lo)) w) := by
  obtain ⟨c0, c1, c2⟩ := hs.cells
  have HS := Lib.hid hs
  have HH := Lib.hid h
  have hc3 := hcap.1
  have hc4 := hcap.2
  unfold maxLen at hc4
  have hB3 : -200 ≤ B := by omega
  have hb9 : (B == 9223372036854775807) = false := beq_eq_false_iff_ne.2 (by omega)
  have hl : ((ns.drop lo).take (hi - lo)).length = hi - lo := by rw [List.length_take, List.length_drop]; omega
  by_cases hz : hi - lo = 0
  · have HN : Hid ((ns.drop lo).take (hi - lo) = []) := by rw [Hid, hz]; rfl
    have HZ := Lib.hid hz
    obtain rfl : hi = lo := by omega
    clear hs h hcap hl hz
    go_enter Tryz.func94, Tryz.ntmps94
    go_wp2_with fail
    all_goals
      refine (push_any g a ns.length c doc prev _ _ _ w HS.out).mono ?_
      rintro e w1 ⟨rfl, hs1, hb1⟩
      have HS1 := Lib.hid hs1
      have HB1 := Lib.hid hb1
      clear hs1 hb1
      go_wp2_with fail
      go_ret
      exact part_mk HS1.out (by rw [HN.out]; simp) (by rw [HN.out]; exact .inl rfl) HB1.out rfl
  · obtain ⟨b, o, rfl, hbB, hc⟩ := h.at_ (by rw [ptrs_length]; omega)
    have HSub : Hid (RSl w w.heap.size (some ⟨b, o + lo, none⟩) (ptrs bl ((ns.drop lo).take (hi - lo)))) := by
      have := RSl.sub hbB hc lo (hi - lo) (by rw [ptrs_length]; omega)
      rw [Hid]
      unfold ptrs at this ⊢
      rw [List.map_take, List.map_drop]
      exact this
    have hne : lo ≠ c := by omega
    have HL := Lib.hid hl
    have hlt : lo < c := by omega
    clear hs h hcap hl hz hc
    go_enter Tryz.func94, Tryz.ntmps94
    go_wp2_with fail
    refine (push_any g _ ns.length c doc prev _ _ _ w HS.out).mono ?_
    rintro e w1 ⟨rfl, hs1, hb1⟩
    have HS1 := Lib.hid hs1
    have HB1 := Lib.hid hb1
    clear hs1 hb1
    go_wp2_with fail
    go_ret
    exact part_mk HS1.out HL.out.symm (HSub.out.up HB1.out) HB1.out rfl

set_option maxRecDepth 100000 in
set_option maxHeartbeats 2000000 in
theorem sliced_fb (bl : Nat → Nat) (ns : List Nat) (hlen : ns.length ≤ 200) (g : Nat) (a : Option Addr) (c : Nat) (doc prev : Option Addr) (w : World) (hs : SelB w g a ns.length c doc prev) (hcap : ns.length ≤ c ∧ c ≤ maxLen) (h : RSl w w.heap.size a (ptrs bl ns)) (lo hi : Nat) (B : Int) (hB : B < 0) (hB2 : B + (ns.length : Int) = (hi : Int)) (h1 : lo ≤ hi) (h2 : hi ≤ ns.length) :
    Calls Tryz.prog 87 #[.pointer (some ⟨g, 0, none⟩), .int .i64 (lo : Nat), .int .i64 B] w (PartPost bl ((ns.drop lo).take (hi - lo)) w) := by
  have HSl := Lib.hid (slice_fb bl ns hlen g a c doc prev w hs hcap h lo hi B hB hB2 h1 h2)
  obtain ⟨c0, c1, c2⟩ := hs.cells
  have hB3 : -200 ≤ B := by omega
  have hb9 : (B == 9223372036854775807) = false := beq_eq_false_iff_ne.2 (by omega)
  have d1 : decide (lo ≤ hi) = true := decide_eq_true h1
  have d2 : decide (hi ≤ ns.length) = true := decide_eq_true h2
  have n1 : ¬ hi < lo := by omega
  have n2 : ¬ ns.length < hi := by omega
  obtain ⟨N, hN⟩ : ∃ N, N = (ns.drop lo).take (hi - lo) := ⟨_, rfl⟩
  rw [← hN] at HSl ⊢
  clear hs h hcap hN
  go_enter Tryz.func87, Tryz.ntmps87
  go_wp2_with (go_at_call 101; refine (selLen_any g a ns.length c doc prev w c0).mono ?_; rintro e w' ⟨rfl, rfl⟩)
  refine HSl.out.mono ?_
  rintro e w1 ⟨g2, a5, c5, doc2, prev2, rfl, hs2, hr2, hb2⟩
  have HS2 := Lib.hid hs2
  have HR2 := Lib.hid hr2
  have HB2 := Lib.hid hb2
  clear hs2 hr2 hb2
  go_wp2_with fail
  go_ret
  exact part_mk HS2.out rfl HR2.out HB2.out rfl

set_option maxRecDepth 100000 in
set_option maxHeartbeats 2000000 in
theorem slice_bf (bl : Nat → Nat) (ns : List Nat) (hlen : ns.length ≤ 200) (g : Nat) (a : Option Addr) (c : Nat) (doc prev : Option Addr) (w : World) (hs : SelB w g a ns.length c doc prev) (hcap : ns.length ≤ c ∧ c ≤ maxLen) (h : RSl w w.heap.size a (ptrs bl ns)) (lo hi : Nat) (A : Int) (hA : A < 0) (hA2 : A + (ns.length : Int) = (lo : Int)) (h1 : lo ≤ hi) (h2 : hi ≤ ns.length) :
    Calls Tryz.prog 94 #[.pointer (some ⟨g, 0, none⟩), .int .i64 A, .int .i64 (hi : Nat)] w (PartPost bl ((ns.drop lo).take (hi - lo)) w) := by
  obtain ⟨c0, c1, c2⟩ := hs.cells
  have HS := Lib.hid hs
  have HH := Lib.hid h
  have hc3 := hcap.1
  have hc4 := hcap.2
  unfold maxLen at hc4
  have hA3 : -200 ≤ A := by omega
  have hb9 : (((hi : Nat) : Int) == 9223372036854775807) = false := beq_eq_false_iff_ne.2 (by omega)
  have hl : ((ns.drop lo).take (hi - lo)).length = hi - lo := by rw [List.length_take, List.length_drop]; omega
  by_cases hz : hi - lo = 0
  · have HN : Hid ((ns.drop lo).take (hi - lo) = []) := by rw [Hid, hz]; rfl
    have HZ := Lib.hid hz
    obtain rfl : hi = lo := by omega
    clear hs h hcap hl hz
    go_enter Tryz.func94, Tryz.ntmps94
    go_wp2_with fail
    all_goals
      refine (push_any g a ns.length c doc prev _ _ _ w HS.out).mono ?_
      rintro e w1 ⟨rfl, hs1, hb1⟩
      have HS1 := Lib.hid hs1
      have HB1 := Lib.hid hb1
      clear hs1 hb1
      go_wp2_with fail
      go_ret
      exact part_mk HS1.out (by rw [HN.out]; simp) (by rw [HN.out]; exact .inl rfl) HB1.out rfl
  · obtain ⟨b, o, rfl, hbB, hc⟩ := h.at_ (by rw [ptrs_length]; omega)
    have HSub : Hid (RSl w w.heap.size (some ⟨b, o + lo, none⟩) (ptrs bl ((ns.drop lo).take (hi - lo)))) := by
      have := RSl.sub hbB hc lo (hi - lo) (by rw [ptrs_length]; omega)
      rw [Hid]
      unfold ptrs at this ⊢
      rw [List.map_take, List.map_drop]
      exact this
    have hne : lo ≠ c := by omega
    have HL := Lib.hid hl
    have hlt : lo < c := by omega
    clear hs h hcap hl hz hc
    go_enter Tryz.func94, Tryz.ntmps94
    go_wp2_with fail
    refine (push_any g _ ns.length c doc prev _ _ _ w HS.out).mono ?_
    rintro e w1 ⟨rfl, hs1, hb1⟩
    have HS1 := Lib.hid hs1
    have HB1 := Lib.hid hb1
    clear hs1 hb1
    go_wp2_with fail
    go_ret
    exact part_mk HS1.out HL.out.symm (HSub.out.up HB1.out) HB1.out rfl

set_option maxRecDepth 100000 in
set_option maxHeartbeats 2000000 in
theorem sliced_bf (bl : Nat → Nat) (ns : List Nat) (hlen : ns.length ≤ 200) (g : Nat) (a : Option Addr) (c : Nat) (doc prev : Option Addr) (w : World) (hs : SelB w g a ns.length c doc prev) (hcap : ns.length ≤ c ∧ c ≤ maxLen) (h : RSl w w.heap.size a (ptrs bl ns)) (lo hi : Nat) (A : Int) (hA : A < 0) (hA2 : A + (ns.length : Int) = (lo : Int)) (h1 : lo ≤ hi) (h2 : hi ≤ ns.length) :
    Calls Tryz.prog 87 #[.pointer (some ⟨g, 0, none⟩), .int .i64 A, .int .i64 (hi : Nat)] w (PartPost bl ((ns.drop lo).take (hi - lo)) w) := by
  have HSl := Lib.hid (slice_bf bl ns hlen g a c doc prev w hs hcap h lo hi A hA hA2 h1 h2)
  obtain ⟨c0, c1, c2⟩ := hs.cells
  have hA3 : -200 ≤ A := by omega
  have hb9 : (((hi : Nat) : Int) == 9223372036854775807) = false := beq_eq_false_iff_ne.2 (by omega)
  have d1 : decide (lo ≤ hi) = true := decide_eq_true h1
  have d2 : decide (hi ≤ ns.length) = true := decide_eq_true h2
  have n1 : ¬ hi < lo := by omega
  have n2 : ¬ ns.length < hi := by omega
  obtain ⟨N, hN⟩ : ∃ N, N = (ns.drop lo).take (hi - lo) := ⟨_, rfl⟩
  rw [← hN] at HSl ⊢
  clear hs h hcap hN
  go_enter Tryz.func87, Tryz.ntmps87
  go_wp2_with (go_at_call 101; refine (selLen_any g a ns.length c doc prev w c0).mono ?_; rintro e w' ⟨rfl, rfl⟩)
  refine HSl.out.mono ?_
  rintro e w1 ⟨g2, a5, c5, doc2, prev2, rfl, hs2, hr2, hb2⟩
  have HS2 := Lib.hid hs2
  have HR2 := Lib.hid hr2
  have HB2 := Lib.hid hb2
  clear hs2 hr2 hb2
  go_wp2_with fail
  go_ret
  exact part_mk HS2.out rfl HR2.out HB2.out rfl

set_option maxRecDepth 100000 in
set_option maxHeartbeats 2000000 in
theorem slice_be (bl : Nat → Nat) (ns : List Nat) (hlen : ns.length ≤ 200) (g : Nat) (a : Option Addr) (c : Nat) (doc prev : Option Addr) (w : World) (hs : SelB w g a ns.length c doc prev) (hcap : ns.length ≤ c ∧ c ≤ maxLen) (h : RSl w w.heap.size a (ptrs bl ns)) (lo : Nat) (A : Int) (hA : A < 0) (hA2 : A + (ns.length : Int) = (lo : Int)) (h1 : lo ≤ ns.length) (h2 : ns.length ≤ ns.length) :
    Calls Tryz.prog 94 #[.pointer (some ⟨g, 0, none⟩), .int .i64 A, .int .i64 9223372036854775807] w (PartPost bl ((ns.drop lo).take (ns.length - lo)) w) := by
  obtain ⟨c0, c1, c2⟩ := hs.cells
  have HS := Lib.hid hs
  have HH := Lib.hid h
  have hc3 := hcap.1
  have hc4 := hcap.2
  unfold maxLen at hc4
  have hA3 : -200 ≤ A := by omega
  have hl : ((ns.drop lo).take (ns.length - lo)).length = ns.length - lo := by rw [List.length_take, List.length_drop]; omega
  by_cases hz : ns.length - lo = 0
  · exfalso; omega
  · obtain ⟨b, o, rfl, hbB, hc⟩ := h.at_ (by rw [ptrs_length]; omega)
    have HSub : Hid (RSl w w.heap.size (some ⟨b, o + lo, none⟩) (ptrs bl ((ns.drop lo).take (ns.length - lo)))) := by
      have := RSl.sub hbB hc lo (ns.length - lo) (by rw [ptrs_length]; omega)
      rw [Hid]
      unfold ptrs at this ⊢
      rw [List.map_take, List.map_drop]
      exact this
    have hne : lo ≠ c := by omega
    have HL := Lib.hid hl
    have hlt : lo < c := by omega
    clear hs h hcap hl hz hc
    go_enter Tryz.func94, Tryz.ntmps94
    go_wp2_with fail
    refine (push_any g _ ns.length c doc prev _ _ _ w HS.out).mono ?_
    rintro e w1 ⟨rfl, hs1, hb1⟩
    have HS1 := Lib.hid hs1
    have HB1 := Lib.hid hb1
    clear hs1 hb1
    go_wp2_with fail
    go_ret
    exact part_mk HS1.out HL.out.symm (HSub.out.up HB1.out) HB1.out rfl

set_option maxRecDepth 100000 in
set_option maxHeartbeats 2000000 in
theorem sliced_be (bl : Nat → Nat) (ns : List Nat) (hlen : ns.length ≤ 200) (g : Nat) (a : Option Addr) (c : Nat) (doc prev : Option Addr) (w : World) (hs : SelB w g a ns.length c doc prev) (hcap : ns.length ≤ c ∧ c ≤ maxLen) (h : RSl w w.heap.size a (ptrs bl ns)) (lo : Nat) (A : Int) (hA : A < 0) (hA2 : A + (ns.length : Int) = (lo : Int)) (h1 : lo ≤ ns.length) (h2 : ns.length ≤ ns.length) :
    Calls Tryz.prog 87 #[.pointer (some ⟨g, 0, none⟩), .int .i64 A, .int .i64 9223372036854775807] w (PartPost bl ((ns.drop lo).take (ns.length - lo)) w) := by
  have HSl := Lib.hid (slice_be bl ns hlen g a c doc prev w hs hcap h lo A hA hA2 h1 h2)
  obtain ⟨c0, c1, c2⟩ := hs.cells
  have hA3 : -200 ≤ A := by omega
  have d1 : decide (lo ≤ ns.length) = true := decide_eq_true h1
  have d2 : decide (ns.length ≤ ns.length) = true := decide_eq_true h2
  have n1 : ¬ ns.length < lo := by omega
  have n2 : ¬ ns.length < ns.length := by omega
  obtain ⟨N, hN⟩ : ∃ N, N = (ns.drop lo).take (ns.length - lo) := ⟨_, rfl⟩
  rw [← hN] at HSl ⊢
  clear hs h hcap hN
  go_enter Tryz.func87, Tryz.ntmps87
  go_wp2_with (go_at_call 101; refine (selLen_any g a ns.length c doc prev w c0).mono ?_; rintro e w' ⟨rfl, rfl⟩)
  refine HSl.out.mono ?_
  rintro e w1 ⟨g2, a5, c5, doc2, prev2, rfl, hs2, hr2, hb2⟩
  have HS2 := Lib.hid hs2
  have HR2 := Lib.hid hr2
  have HB2 := Lib.hid hb2
  clear hs2 hr2 hb2
  go_wp2_with fail
  go_ret
  exact part_mk HS2.out rfl HR2.out HB2.out rfl

set_option maxRecDepth 100000 in
set_option maxHeartbeats 2000000 in
theorem slice_bb (bl : Nat → Nat) (ns : List Nat) (hlen : ns.length ≤ 200) (g : Nat) (a : Option Addr) (c : Nat) (doc prev : Option Addr) (w : World) (hs : SelB w g a ns.length c doc prev) (hcap : ns.length ≤ c ∧ c ≤ maxLen) (h : RSl w w.heap.size a (ptrs bl ns)) (lo hi : Nat) (A : Int) (hA : A < 0) (hA2 : A + (ns.length : Int) = (lo : Int)) (B : Int) (hB : B < 0) (hB2 : B + (ns.length : Int) = (hi : Int)) (h1 : lo ≤ hi) (h2 : hi ≤ ns.length) :
    Calls Tryz.prog 94 #[.pointer (some ⟨g, 0, none⟩), .int .i64 A, .int .i64 B] w (PartPost bl ((ns.drop lo).take (hi - lo)) w) := by
  obtain ⟨c0, c1, c2⟩ := hs.cells
  have HS := Lib.hid hs
  have HH := Lib.hid h
  have hc3 := hcap.1
  have hc4 := hcap.2
  unfold maxLen at hc4
  have hA3 : -200 ≤ A := by omega
  have hB3 : -200 ≤ B := by omega
  have hb9 : (B == 9223372036854775807) = false := beq_eq_false_iff_ne.2 (by omega)
  have hl : ((ns.drop lo).take (hi - lo)).length = hi - lo := by rw [List.length_take, List.length_drop]; omega
  by_cases hz : hi - lo = 0
  · have HN : Hid ((ns.drop lo).take (hi - lo) = []) := by rw [Hid, hz]; rfl
    have HZ := Lib.hid hz
    obtain rfl : hi = lo := by omega
    clear hs h hcap hl hz
    go_enter Tryz.func94, Tryz.ntmps94
    go_wp2_with fail
    all_goals
      refine (push_any g a ns.length c doc prev _ _ _ w HS.out).mono ?_
      rintro e w1 ⟨rfl, hs1, hb1⟩
      have HS1 := Lib.hid hs1
      have HB1 := Lib.hid hb1
      clear hs1 hb1
      go_wp2_with fail
      go_ret
      exact part_mk HS1.out (by rw [HN.out]; simp) (by rw [HN.out]; exact .inl rfl) HB1.out rfl
  · obtain ⟨b, o, rfl, hbB, hc⟩ := h.at_ (by rw [ptrs_length]; omega)
    have HSub : Hid (RSl w w.heap.size (some ⟨b, o + lo, none⟩) (ptrs bl ((ns.drop lo).take (hi - lo)))) := by
      have := RSl.sub hbB hc lo (hi - lo) (by rw [ptrs_length]; omega)
      rw [Hid]
      unfold ptrs at this ⊢
      rw [List.map_take, List.map_drop]
      exact this
    have hne : lo ≠ c := by omega
    have HL := Lib.hid hl
    have hlt : lo < c := by omega
    clear hs h hcap hl hz hc
    go_enter Tryz.func94, Tryz.ntmps94
    go_wp2_with fail
    refine (push_any g _ ns.length c doc prev _ _ _ w HS.out).mono ?_
    rintro e w1 ⟨rfl, hs1, hb1⟩
    have HS1 := Lib.hid hs1
    have HB1 := Lib.hid hb1
    clear hs1 hb1
    go_wp2_with fail
    go_ret
    exact part_mk HS1.out HL.out.symm (HSub.out.up HB1.out) HB1.out rfl

set_option maxRecDepth 100000 in
set_option maxHeartbeats 2000000 in
theorem sliced_bb (bl : Nat → Nat) (ns : List Nat) (hlen : ns.length ≤ 200) (g : Nat) (a : Option Addr) (c : Nat) (doc prev : Option Addr) (w : World) (hs : SelB w g a ns.length c doc prev) (hcap : ns.length ≤ c ∧ c ≤ maxLen) (h : RSl w w.heap.size a (ptrs bl ns)) (lo hi : Nat) (A : Int) (hA : A < 0) (hA2 : A + (ns.length : Int) = (lo : Int)) (B : Int) (hB : B < 0) (hB2 : B + (ns.length : Int) = (hi : Int)) (h1 : lo ≤ hi) (h2 : hi ≤ ns.length) :
    Calls Tryz.prog 87 #[.pointer (some ⟨g, 0, none⟩), .int .i64 A, .int .i64 B] w (PartPost bl ((ns.drop lo).take (hi - lo)) w) := by
  have HSl := Lib.hid (slice_bb bl ns hlen g a c doc prev w hs hcap h lo hi A hA hA2 B hB hB2 h1 h2)
  obtain ⟨c0, c1, c2⟩ := hs.cells
  have hA3 : -200 ≤ A := by omega
  have hB3 : -200 ≤ B := by omega
  have hb9 : (B == 9223372036854775807) = false := beq_eq_false_iff_ne.2 (by omega)
  have d1 : decide (lo ≤ hi) = true := decide_eq_true h1
  have d2 : decide (hi ≤ ns.length) = true := decide_eq_true h2
  have n1 : ¬ hi < lo := by omega
  have n2 : ¬ ns.length < hi := by omega
  obtain ⟨N, hN⟩ : ∃ N, N = (ns.drop lo).take (hi - lo) := ⟨_, rfl⟩
  rw [← hN] at HSl ⊢
  clear hs h hcap hN
  go_enter Tryz.func87, Tryz.ntmps87
  go_wp2_with (go_at_call 101; refine (selLen_any g a ns.length c doc prev w c0).mono ?_; rintro e w' ⟨rfl, rfl⟩)
  refine HSl.out.mono ?_
  rintro e w1 ⟨g2, a5, c5, doc2, prev2, rfl, hs2, hr2, hb2⟩
  have HS2 := Lib.hid hs2
  have HR2 := Lib.hid hr2
  have HB2 := Lib.hid hb2
  clear hs2 hr2 hb2
  go_wp2_with fail
  go_ret
  exact part_mk HS2.out rfl HR2.out HB2.out rfl
end Go.Proofs.YtgilbckfkngaiaaGreat
