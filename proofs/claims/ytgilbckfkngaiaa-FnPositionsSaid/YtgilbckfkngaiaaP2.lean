/- FnPositions: the parts of a selection; the walk (several texts in one). -/
import Derived.Test.YtgilbckfkngaiaaT53
namespace Go.Proofs.Ytgilbckfkngaiaa
open Go.RowKit
set_option linter.unusedVariables false

/-- A list of one number, that has just been laid. -/
theorem isl_one (w : World) (x : Int) (hx : -9223372036854775808 ≤ x ∧ x ≤ 9223372036854775807) (t : TypeId) : ISl (w.alloc (.cells #[.int .i64 x] t)) (w.alloc (.cells #[.int .i64 x] t)).heap.size (some ⟨w.heap.size, 0, none⟩) [x] := by
  refine ⟨.inr ⟨w.heap.size, 0, rfl, by simp, fun i hi => ?_⟩, by simp [maxLen], ?_⟩
  · have : i = 0 := by simp [ivs] at hi; omega
    subst this
    rw [World.cell?_alloc_at _ _ _ _ (by simp)]; rfl
  · intro y hy
    simp at hy
    subst hy; exact hx
theorem isl_one' (w : World) (n : Nat) (hn : n = w.heap.size) (x : Int) (hx : -9223372036854775808 ≤ x ∧ x ≤ 9223372036854775807) (t : TypeId) : ISl (w.alloc (.cells #[.int .i64 x] t)) (w.alloc (.cells #[.int .i64 x] t)).heap.size (some ⟨n, 0, none⟩) [x] := by
  subst hn; exact isl_one w x hx t
theorem one_sel {t : List Nd} {x : Int} {ns : List Nat} (h : SelP t [x] ns) : ∃ i : Nat, ns = [i] ∧ x = i ∧ i < t.length ∧ isEl t i = true := by
  have e := h.ord.eq
  match ns, e with
  | [i], e =>
    simp at e
    refine ⟨i, rfl, e, h.ord.lt i (by simp), ?_⟩
    unfold isEl
    rw [decide_eq_true_eq]; exact h.kind i (by simp)
theorem ord_one {t : List Nd} {i : Nat} (hi : i < t.length) : OrdP t.length [(i : Int)] [i] := ⟨rfl, by simpa using hi, by simp⟩
theorem mapN_one (i : Nat) (fs : Nat → List Nat) : mapN [i] fs = fs i := by
  show addN [] (fs i) = _
  simp [addN]

section
variable (w : World)
/-- An append, behind a guard that says yes or behind none; the list that it makes has a name of its own. -/
theorem wpList_append_ints_z {ops : Array Oper} {rest : List Oper} {o : Oper} {a : Act} {Q : Exit → Act → World → Prop} (hgd : Region.wanted o (yielded ops a.tmps) = true) (s x : Operand)
    (ho : o.op = .call { callee := .builtin .append, args := #[s, x], argTypes := #[37, 37] })
    (base : Nat) (v : Value) (xs : List Int) (hs : a.eval s = v) (hown : w.ownsRow base 3 1 v xs.length (ivs xs))
    (A : Option Addr) (c : Nat) (ys : List Int) (hx : a.eval x = .slice A ys.length c) (hr : RSl w w.heap.size A (ivs ys)) (hlen : xs.length + ys.length ≤ 1000000) (hbase : base ≤ w.heap.size) (zs : List Int) (hz : zs = xs ++ ys)
    (h : ∀ a' c' w', w'.ownsRow base 3 1 (.slice a' zs.length c') zs.length (ivs zs) → w.grownBy w' v.ownBlock → wpList Try.prog ops Q rest (a.put o.dst (.slice a' zs.length c')) w') :
    wpList Try.prog ops Q (o :: rest) a w := by
  subst hz
  exact BigFrame.wpList_want hgd fun _ hK => wp_append_ints w s x ho base v xs hs hown A c ys hx hr hlen hbase fun a' c' w' h2 h3 h4 => hK _ _ (h a' c' w' h2 h3)
end
theorem own_empty0 (w : World) (t : TypeId) : (w.alloc (.cells #[] t)).ownsRow w.heap.size t 1 (.slice (some ⟨w.heap.size, 0, none⟩) 0 0) 0 [] := by
  refine ⟨by simp, .inr ⟨w.heap.size, 0, #[], rfl, Nat.le_refl _, ?_, by omega, by simp [maxLen], rfl, rfl⟩⟩
  exact heap_alloc_new w _

end Go.Proofs.Ytgilbckfkngaiaa

namespace Go.Proofs.Ytgilbckfkngaiaa
open Go.RowKit
set_option linter.unusedVariables false

def PartPost (bl : Nat → Nat) (N : List Nat) (w : World) (e : Ending) (w' : World) : Prop :=
  ∃ g2 a5 c5 doc prev, e = .returned (.pointer (some ⟨g2, 0, none⟩)) ∧ SelB w' g2 a5 N.length c5 doc prev ∧ RSl w' w'.heap.size a5 (ptrs bl N) ∧ Below w.heap.size w w'

theorem RSl.sub {w : World} {B : Nat} {b o : Nat} {xs : List Value} (hb : b < B) (hc : ∀ i (h : i < xs.length), w.cell? ⟨b, o + i, none⟩ = some xs[i]) (lo k : Nat) (h : lo + k ≤ xs.length) : RSl w B (some ⟨b, o + lo, none⟩) ((xs.drop lo).take k) := by
  refine .inr ⟨b, o + lo, rfl, hb, fun i hi => ?_⟩
  rw [List.length_take, List.length_drop] at hi
  rw [List.getElem_take, List.getElem_drop, Nat.add_assoc]
  exact hc (lo + i) (by omega)


theorem part_mk {bl : Nat → Nat} {N : List Nat} {w w1 : World} {e : Ending} {g2 n c5 : Nat} {a5 doc prev : Option Addr} (hs : SelB w1 g2 a5 n c5 doc prev) (hn : n = N.length) (hr : RSl w1 w1.heap.size a5 (ptrs bl N)) (hb : Below w.heap.size w w1) (he : e = .returned (.pointer (some ⟨g2, 0, none⟩))) : PartPost bl N w e w1 := by
  subst hn
  exact ⟨g2, a5, c5, doc, prev, he, hs, hr, hb⟩

set_option maxRecDepth 100000 in
theorem selLen_any (g : Nat) (a : Option Addr) (n c : Nat) (doc prev : Option Addr) (w : World) (c0 : w.cell? ⟨g, 0, none⟩ = some (.slice a n c)) : Calls Try.prog 197 #[.pointer (some ⟨g, 0, none⟩)] w fun e w' => e = .returned (.int .i64 n) ∧ w = w' := by
  go_enter Try.func197, Try.ntmps197
  go_wp2_with fail
  go_ret
  exact ⟨rfl, rfl⟩

set_option maxRecDepth 100000 in
set_option maxHeartbeats 2000000 in
theorem slice_ff (bl : Nat → Nat) (ns : List Nat) (hlen : ns.length ≤ 200) (g : Nat) (a : Option Addr) (c : Nat) (doc prev : Option Addr) (w : World) (hs : SelB w g a ns.length c doc prev) (hcap : ns.length ≤ c ∧ c ≤ maxLen) (h : RSl w w.heap.size a (ptrs bl ns)) (lo hi : Nat) (h1 : lo ≤ hi) (h2 : hi ≤ ns.length) :
    Calls Try.prog 179 #[.pointer (some ⟨g, 0, none⟩), .int .i64 (lo : Nat), .int .i64 (hi : Nat)] w (PartPost bl ((ns.drop lo).take (hi - lo)) w) := by
  obtain ⟨c0, c1, c2⟩ := hs.cells
  have HS := Lib.hid hs
  have HH := Lib.hid h
  have hc3 := hcap.1
  have hc4 := hcap.2
  unfold maxLen at hc4
  have hb9 : (((hi : Nat) : Int) == 9223372036854775807) = false := beq_eq_false_iff_ne.2 (by omega)
  have hl : ((ns.drop lo).take (hi - lo)).length = hi - lo := by rw [List.length_take, List.length_drop]; omega
  by_cases hz : hi - lo = 0
  · have HN : Hid ((ns.drop lo).take (hi - lo) = []) := by rw [Hid, hz]; rfl
    have HZ := Lib.hid hz
    obtain rfl : hi = lo := by omega
    clear hs h hcap hl hz
    go_enter Try.func179, Try.ntmps179
    go_wp2_with fail
    all_goals
      refine (push_any g a ns.length c doc prev _ _ _ w HS.out).mono ?_
      rintro e w1 ⟨rfl, hs1, hb1⟩
      have HS1 := Lib.hid hs1
      have HB1 := Lib.hid hb1
      clear hs1 hb1
      go_wp2_with fail
      go_ret
      exact part_mk HS1.out (by rw [HN.out]; simp) (by rw [HN.out]; exact .inl rfl) HB1.out rfl
  · obtain ⟨b, o, rfl, hbB, hc⟩ := h.at_ (by rw [ptrs_length]; omega)
    have HSub : Hid (RSl w w.heap.size (some ⟨b, o + lo, none⟩) (ptrs bl ((ns.drop lo).take (hi - lo)))) := by
      have := RSl.sub hbB hc lo (hi - lo) (by rw [ptrs_length]; omega)
      rw [Hid]
      unfold ptrs at this ⊢
      rw [List.map_take, List.map_drop]
      exact this
    have hne : lo ≠ c := by omega
    have HL := Lib.hid hl
    have hlt : lo < c := by omega
    clear hs h hcap hl hz hc
    go_enter Try.func179, Try.ntmps179
    go_wp2_with fail
    refine (push_any g _ ns.length c doc prev _ _ _ w HS.out).mono ?_
    rintro e w1 ⟨rfl, hs1, hb1⟩
    have HS1 := Lib.hid hs1
    have HB1 := Lib.hid hb1
    clear hs1 hb1
    go_wp2_with fail
    go_ret
    exact part_mk HS1.out HL.out.symm (HSub.out.up HB1.out) HB1.out rfl

set_option maxRecDepth 100000 in
set_option maxHeartbeats 2000000 in
theorem sliced_ff (bl : Nat → Nat) (ns : List Nat) (hlen : ns.length ≤ 200) (g : Nat) (a : Option Addr) (c : Nat) (doc prev : Option Addr) (w : World) (hs : SelB w g a ns.length c doc prev) (hcap : ns.length ≤ c ∧ c ≤ maxLen) (h : RSl w w.heap.size a (ptrs bl ns)) (lo hi : Nat) (h1 : lo ≤ hi) (h2 : hi ≤ ns.length) :
    Calls Try.prog 192 #[.pointer (some ⟨g, 0, none⟩), .int .i64 (lo : Nat), .int .i64 (hi : Nat)] w (PartPost bl ((ns.drop lo).take (hi - lo)) w) := by
  have HSl := Lib.hid (slice_ff bl ns hlen g a c doc prev w hs hcap h lo hi h1 h2)
  obtain ⟨c0, c1, c2⟩ := hs.cells
  have hb9 : (((hi : Nat) : Int) == 9223372036854775807) = false := beq_eq_false_iff_ne.2 (by omega)
  have d1 : decide (lo ≤ hi) = true := decide_eq_true h1
  have d2 : decide (hi ≤ ns.length) = true := decide_eq_true h2
  have n1 : ¬ hi < lo := by omega
  have n2 : ¬ ns.length < hi := by omega
  obtain ⟨N, hN⟩ : ∃ N, N = (ns.drop lo).take (hi - lo) := ⟨_, rfl⟩
  rw [← hN] at HSl ⊢
  clear hs h hcap hN
  go_enter Try.func192, Try.ntmps192
  go_wp2_with (go_at_call 197; refine (selLen_any g a ns.length c doc prev w c0).mono ?_; rintro e w' ⟨rfl, rfl⟩)
  refine HSl.out.mono ?_
  rintro e w1 ⟨g2, a5, c5, doc2, prev2, rfl, hs2, hr2, hb2⟩
  have HS2 := Lib.hid hs2
  have HR2 := Lib.hid hr2
  have HB2 := Lib.hid hb2
  clear hs2 hr2 hb2
  go_wp2_with fail
  go_ret
  exact part_mk HS2.out rfl HR2.out HB2.out rfl

set_option maxRecDepth 100000 in
set_option maxHeartbeats 2000000 in
theorem slice_fe (bl : Nat → Nat) (ns : List Nat) (hlen : ns.length ≤ 200) (g : Nat) (a : Option Addr) (c : Nat) (doc prev : Option Addr) (w : World) (hs : SelB w g a ns.length c doc prev) (hcap : ns.length ≤ c ∧ c ≤ maxLen) (h : RSl w w.heap.size a (ptrs bl ns)) (lo : Nat) (h1 : lo ≤ ns.length) (h2 : ns.length ≤ ns.length) :
    Calls Try.prog 179 #[.pointer (some ⟨g, 0, none⟩), .int .i64 (lo : Nat), .int .i64 9223372036854775807] w (PartPost bl ((ns.drop lo).take (ns.length - lo)) w) := by
  obtain ⟨c0, c1, c2⟩ := hs.cells
  have HS := Lib.hid hs
  have HH := Lib.hid h
  have hc3 := hcap.1
  have hc4 := hcap.2
  unfold maxLen at hc4
  have hl : ((ns.drop lo).take (ns.length - lo)).length = ns.length - lo := by rw [List.length_take, List.length_drop]; omega
  by_cases hz : ns.length - lo = 0
  · have HN : Hid ((ns.drop lo).take (ns.length - lo) = []) := by rw [Hid, hz]; rfl
    have HZ := Lib.hid hz
    obtain rfl : lo = ns.length := by omega
    clear hs h hcap hl hz
    go_enter Try.func179, Try.ntmps179
    go_wp2_with fail
    all_goals
      refine (push_any g a ns.length c doc prev _ _ _ w HS.out).mono ?_
      rintro e w1 ⟨rfl, hs1, hb1⟩
      have HS1 := Lib.hid hs1
      have HB1 := Lib.hid hb1
      clear hs1 hb1
      go_wp2_with fail
      go_ret
      exact part_mk HS1.out (by rw [HN.out]; simp) (by rw [HN.out]; exact .inl rfl) HB1.out rfl
  · obtain ⟨b, o, rfl, hbB, hc⟩ := h.at_ (by rw [ptrs_length]; omega)
    have HSub : Hid (RSl w w.heap.size (some ⟨b, o + lo, none⟩) (ptrs bl ((ns.drop lo).take (ns.length - lo)))) := by
      have := RSl.sub hbB hc lo (ns.length - lo) (by rw [ptrs_length]; omega)
      rw [Hid]
      unfold ptrs at this ⊢
      rw [List.map_take, List.map_drop]
      exact this
    have hne : lo ≠ c := by omega
    have HL := Lib.hid hl
    have hlt : lo < c := by omega
    clear hs h hcap hl hz hc
    go_enter Try.func179, Try.ntmps179
    go_wp2_with fail
    refine (push_any g _ ns.length c doc prev _ _ _ w HS.out).mono ?_
    rintro e w1 ⟨rfl, hs1, hb1⟩
    have HS1 := Lib.hid hs1
    have HB1 := Lib.hid hb1
    clear hs1 hb1
    go_wp2_with fail
    go_ret
    exact part_mk HS1.out HL.out.symm (HSub.out.up HB1.out) HB1.out rfl

set_option maxRecDepth 100000 in
set_option maxHeartbeats 2000000 in
theorem sliced_fe (bl : Nat → Nat) (ns : List Nat) (hlen : ns.length ≤ 200) (g : Nat) (a : Option Addr) (c : Nat) (doc prev : Option Addr) (w : World) (hs : SelB w g a ns.length c doc prev) (hcap : ns.length ≤ c ∧ c ≤ maxLen) (h : RSl w w.heap.size a (ptrs bl ns)) (lo : Nat) (h1 : lo ≤ ns.length) (h2 : ns.length ≤ ns.length) :
    Calls Try.prog 192 #[.pointer (some ⟨g, 0, none⟩), .int .i64 (lo : Nat), .int .i64 9223372036854775807] w (PartPost bl ((ns.drop lo).take (ns.length - lo)) w) := by
  have HSl := Lib.hid (slice_fe bl ns hlen g a c doc prev w hs hcap h lo h1 h2)
  obtain ⟨c0, c1, c2⟩ := hs.cells
  have d1 : decide (lo ≤ ns.length) = true := decide_eq_true h1
  have d2 : decide (ns.length ≤ ns.length) = true := decide_eq_true h2
  have n1 : ¬ ns.length < lo := by omega
  have n2 : ¬ ns.length < ns.length := by omega
  obtain ⟨N, hN⟩ : ∃ N, N = (ns.drop lo).take (ns.length - lo) := ⟨_, rfl⟩
  rw [← hN] at HSl ⊢
  clear hs h hcap hN
  go_enter Try.func192, Try.ntmps192
  go_wp2_with (go_at_call 197; refine (selLen_any g a ns.length c doc prev w c0).mono ?_; rintro e w' ⟨rfl, rfl⟩)
  refine HSl.out.mono ?_
  rintro e w1 ⟨g2, a5, c5, doc2, prev2, rfl, hs2, hr2, hb2⟩
  have HS2 := Lib.hid hs2
  have HR2 := Lib.hid hr2
  have HB2 := Lib.hid hb2
  clear hs2 hr2 hb2
  go_wp2_with fail
  go_ret
  exact part_mk HS2.out rfl HR2.out HB2.out rfl

set_option maxRecDepth 100000 in
set_option maxHeartbeats 2000000 in
theorem slice_fb (bl : Nat → Nat) (ns : List Nat) (hlen : ns.length ≤ 200) (g : Nat) (a : Option Addr) (c : Nat) (doc prev : Option Addr) (w : World) (hs : SelB w g a ns.length c doc prev) (hcap : ns.length ≤ c ∧ c ≤ maxLen) (h : RSl w w.heap.size a (ptrs bl ns)) (lo hi : Nat) (B : Int) (hB : B < 0) (hB2 : B + (ns.length : Int) = (hi : Int)) (h1 : lo ≤ hi) (h2 : hi ≤ ns.length) :
    Calls Try.prog 179 #[.pointer (some ⟨g, 0, none⟩), .int .i64 (lo : Nat), .int .i64 B] w (PartPost bl ((ns.drop lo).take (hi - lo)) w) := by
  obtain ⟨c0, c1, c2⟩ := hs.cells
  have HS := Lib.hid hs
  have HH := Lib.hid h
  have hc3 := hcap.1
  have hc4 := hcap.2
  unfold maxLen at hc4
  have hB3 : -200 ≤ B := by omega
  have hb9 : (B == 9223372036854775807) = false := beq_eq_false_iff_ne.2 (by omega)
  have hl : ((ns.drop lo).take (hi - lo)).length = hi - lo := by rw [List.length_take, List.length_drop]; omega
  by_cases hz : hi - lo = 0
  · have HN : Hid ((ns.drop lo).take (hi - lo) = []) := by rw [Hid, hz]; rfl
    have HZ := Lib.hid hz
    obtain rfl : hi = lo := by omega
    clear hs h hcap hl hz
    go_enter Try.func179, Try.ntmps179
    go_wp2_with fail
    all_goals
      refine (push_any g a ns.length c doc prev _ _ _ w HS.out).mono ?_
      rintro e w1 ⟨rfl, hs1, hb1⟩
      have HS1 := Lib.hid hs1
      have HB1 := Lib.hid hb1
      clear hs1 hb1
      go_wp2_with fail
      go_ret
      exact part_mk HS1.out (by rw [HN.out]; simp) (by rw [HN.out]; exact .inl rfl) HB1.out rfl
  · obtain ⟨b, o, rfl, hbB, hc⟩ := h.at_ (by rw [ptrs_length]; omega)
    have HSub : Hid (RSl w w.heap.size (some ⟨b, o + lo, none⟩) (ptrs bl ((ns.drop lo).take (hi - lo)))) := by
      have := RSl.sub hbB hc lo (hi - lo) (by rw [ptrs_length]; omega)
      rw [Hid]
      unfold ptrs at this ⊢
      rw [List.map_take, List.map_drop]
      exact this
    have hne : lo ≠ c := by omega
    have HL := Lib.hid hl
    have hlt : lo < c := by omega
    clear hs h hcap hl hz hc
    go_enter Try.func179, Try.ntmps179
    go_wp2_with fail
    refine (push_any g _ ns.length c doc prev _ _ _ w HS.out).mono ?_
    rintro e w1 ⟨rfl, hs1, hb1⟩
    have HS1 := Lib.hid hs1
    have HB1 := Lib.hid hb1
    clear hs1 hb1
    go_wp2_with fail
    go_ret
    exact part_mk HS1.out HL.out.symm (HSub.out.up HB1.out) HB1.out rfl

set_option maxRecDepth 100000 in
set_option maxHeartbeats 2000000 in
theorem sliced_fb (bl : Nat → Nat) (ns : List Nat) (hlen : ns.length ≤ 200) (g : Nat) (a : Option Addr) (c : Nat) (doc prev : Option Addr) (w : World) (hs : SelB w g a ns.length c doc prev) (hcap : ns.length ≤ c ∧ c ≤ maxLen) (h : RSl w w.heap.size a (ptrs bl ns)) (lo hi : Nat) (B : Int) (hB : B < 0) (hB2 : B + (ns.length : Int) = (hi : Int)) (h1 : lo ≤ hi) (h2 : hi ≤ ns.length) :
    Calls Try.prog 192 #[.pointer (some ⟨g, 0, none⟩), .int .i64 (lo : Nat), .int .i64 B] w (PartPost bl ((ns.drop lo).take (hi - lo)) w) := by
  have HSl := Lib.hid (slice_fb bl ns hlen g a c doc prev w hs hcap h lo hi B hB hB2 h1 h2)
  obtain ⟨c0, c1, c2⟩ := hs.cells
  have hB3 : -200 ≤ B := by omega
  have hb9 : (B == 9223372036854775807) = false := beq_eq_false_iff_ne.2 (by omega)
  have d1 : decide (lo ≤ hi) = true := decide_eq_true h1
  have d2 : decide (hi ≤ ns.length) = true := decide_eq_true h2
  have n1 : ¬ hi < lo := by omega
  have n2 : ¬ ns.length < hi := by omega
  obtain ⟨N, hN⟩ : ∃ N, N = (ns.drop lo).take (hi - lo) := ⟨_, rfl⟩
  rw [← hN] at HSl ⊢
  clear hs h hcap hN
  go_enter Try.func192, Try.ntmps192
  go_wp2_with (go_at_call 197; refine (selLen_any g a ns.length c doc prev w c0).mono ?_; rintro e w' ⟨rfl, rfl⟩)
  refine HSl.out.mono ?_
  rintro e w1 ⟨g2, a5, c5, doc2, prev2, rfl, hs2, hr2, hb2⟩
  have HS2 := Lib.hid hs2
  have HR2 := Lib.hid hr2
  have HB2 := Lib.hid hb2
  clear hs2 hr2 hb2
  go_wp2_with fail
  go_ret
  exact part_mk HS2.out rfl HR2.out HB2.out rfl

set_option maxRecDepth 100000 in
set_option maxHeartbeats 2000000 in
theorem slice_bf (bl : Nat → Nat) (ns : List Nat) (hlen : ns.length ≤ 200) (g : Nat) (a : Option Addr) (c : Nat) (doc prev : Option Addr) (w : World) (hs : SelB w g a ns.length c doc prev) (hcap : ns.length ≤ c ∧ c ≤ maxLen) (h : RSl w w.heap.size a (ptrs bl ns)) (lo hi : Nat) (A : Int) (hA : A < 0) (hA2 : A + (ns.length : Int) = (lo : Int)) (h1 : lo ≤ hi) (h2 : hi ≤ ns.length) :
    Calls Try.prog 179 #[.pointer (some ⟨g, 0, none⟩), .int .i64 A, .int .i64 (hi : Nat)] w (PartPost bl ((ns.drop lo).take (hi - lo)) w) := by
  obtain ⟨c0, c1, c2⟩ := hs.cells
  have HS := Lib.hid hs
  have HH := Lib.hid h
  have hc3 := hcap.1
  have hc4 := hcap.2
  unfold maxLen at hc4
  have hA3 : -200 ≤ A := by omega
  have hb9 : (((hi : Nat) : Int) == 9223372036854775807) = false := beq_eq_false_iff_ne.2 (by omega)
  have hl : ((ns.drop lo).take (hi - lo)).length = hi - lo := by rw [List.length_take, List.length_drop]; omega
  by_cases hz : hi - lo = 0
  · have HN : Hid ((ns.drop lo).take (hi - lo) = []) := by rw [Hid, hz]; rfl
    have HZ := Lib.hid hz
    obtain rfl : hi = lo := by omega
    clear hs h hcap hl hz
    go_enter Try.func179, Try.ntmps179
    go_wp2_with fail
    all_goals
      refine (push_any g a ns.length c doc prev _ _ _ w HS.out).mono ?_
      rintro e w1 ⟨rfl, hs1, hb1⟩
      have HS1 := Lib.hid hs1
      have HB1 := Lib.hid hb1
      clear hs1 hb1
      go_wp2_with fail
      go_ret
      exact part_mk HS1.out (by rw [HN.out]; simp) (by rw [HN.out]; exact .inl rfl) HB1.out rfl
  · obtain ⟨b, o, rfl, hbB, hc⟩ := h.at_ (by rw [ptrs_length]; omega)
    have HSub : Hid (RSl w w.heap.size (some ⟨b, o + lo, none⟩) (ptrs bl ((ns.drop lo).take (hi - lo)))) := by
      have := RSl.sub hbB hc lo (hi - lo) (by rw [ptrs_length]; omega)
      rw [Hid]
      unfold ptrs at this ⊢
      rw [List.map_take, List.map_drop]
      exact this
    have hne : lo ≠ c := by omega
    have HL := Lib.hid hl
    have hlt : lo < c := by omega
    clear hs h hcap hl hz hc
    go_enter Try.func179, Try.ntmps179
    go_wp2_with fail
    refine (push_any g _ ns.length c doc prev _ _ _ w HS.out).mono ?_
    rintro e w1 ⟨rfl, hs1, hb1⟩
    have HS1 := Lib.hid hs1
    have HB1 := Lib.hid hb1
    clear hs1 hb1
    go_wp2_with fail
    go_ret
    exact part_mk HS1.out HL.out.symm (HSub.out.up HB1.out) HB1.out rfl

set_option maxRecDepth 100000 in
set_option maxHeartbeats 2000000 in
theorem sliced_bf (bl : Nat → Nat) (ns : List Nat) (hlen : ns.length ≤ 200) (g : Nat) (a : Option Addr) (c : Nat) (doc prev : Option Addr) (w : World) (hs : SelB w g a ns.length c doc prev) (hcap : ns.length ≤ c ∧ c ≤ maxLen) (h : RSl w w.heap.size a (ptrs bl ns)) (lo hi : Nat) (A : Int) (hA : A < 0) (hA2 : A + (ns.length : Int) = (lo : Int)) (h1 : lo ≤ hi) (h2 : hi ≤ ns.length) :
    Calls Try.prog 192 #[.pointer (some ⟨g, 0, none⟩), .int .i64 A, .int .i64 (hi : Nat)] w (PartPost bl ((ns.drop lo).take (hi - lo)) w) := by
  have HSl := Lib.hid (slice_bf bl ns hlen g a c doc prev w hs hcap h lo hi A hA hA2 h1 h2)
  obtain ⟨c0, c1, c2⟩ := hs.cells
  have hA3 : -200 ≤ A := by omega
  have hb9 : (((hi : Nat) : Int) == 9223372036854775807) = false := beq_eq_false_iff_ne.2 (by omega)
  have d1 : decide (lo ≤ hi) = true := decide_eq_true h1
  have d2 : decide (hi ≤ ns.length) = true := decide_eq_true h2
  have n1 : ¬ hi < lo := by omega
  have n2 : ¬ ns.length < hi := by omega
  obtain ⟨N, hN⟩ : ∃ N, N = (ns.drop lo).take (hi - lo) := ⟨_, rfl⟩
  rw [← hN] at HSl ⊢
  clear hs h hcap hN
  go_enter Try.func192, Try.ntmps192
  go_wp2_with (go_at_call 197; refine (selLen_any g a ns.length c doc prev w c0).mono ?_; rintro e w' ⟨rfl, rfl⟩)
  refine HSl.out.mono ?_
  rintro e w1 ⟨g2, a5, c5, doc2, prev2, rfl, hs2, hr2, hb2⟩
  have HS2 := Lib.hid hs2
  have HR2 := Lib.hid hr2
  have HB2 := Lib.hid hb2
  clear hs2 hr2 hb2
  go_wp2_with fail
  go_ret
  exact part_mk HS2.out rfl HR2.out HB2.out rfl

set_option maxRecDepth 100000 in
set_option maxHeartbeats 2000000 in
theorem slice_be (bl : Nat → Nat) (ns : List Nat) (hlen : ns.length ≤ 200) (g : Nat) (a : Option Addr) (c : Nat) (doc prev : Option Addr) (w : World) (hs : SelB w g a ns.length c doc prev) (hcap : ns.length ≤ c ∧ c ≤ maxLen) (h : RSl w w.heap.size a (ptrs bl ns)) (lo : Nat) (A : Int) (hA : A < 0) (hA2 : A + (ns.length : Int) = (lo : Int)) (h1 : lo ≤ ns.length) (h2 : ns.length ≤ ns.length) :
    Calls Try.prog 179 #[.pointer (some ⟨g, 0, none⟩), .int .i64 A, .int .i64 9223372036854775807] w (PartPost bl ((ns.drop lo).take (ns.length - lo)) w) := by
  obtain ⟨c0, c1, c2⟩ := hs.cells
  have HS := Lib.hid hs
  have HH := Lib.hid h
  have hc3 := hcap.1
  have hc4 := hcap.2
  unfold maxLen at hc4
  have hA3 : -200 ≤ A := by omega
  have hl : ((ns.drop lo).take (ns.length - lo)).length = ns.length - lo := by rw [List.length_take, List.length_drop]; omega
  by_cases hz : ns.length - lo = 0
  · exfalso; omega
  · obtain ⟨b, o, rfl, hbB, hc⟩ := h.at_ (by rw [ptrs_length]; omega)
    have HSub : Hid (RSl w w.heap.size (some ⟨b, o + lo, none⟩) (ptrs bl ((ns.drop lo).take (ns.length - lo)))) := by
      have := RSl.sub hbB hc lo (ns.length - lo) (by rw [ptrs_length]; omega)
      rw [Hid]
      unfold ptrs at this ⊢
      rw [List.map_take, List.map_drop]
      exact this
    have hne : lo ≠ c := by omega
    have HL := Lib.hid hl
    have hlt : lo < c := by omega
    clear hs h hcap hl hz hc
    go_enter Try.func179, Try.ntmps179
    go_wp2_with fail
    refine (push_any g _ ns.length c doc prev _ _ _ w HS.out).mono ?_
    rintro e w1 ⟨rfl, hs1, hb1⟩
    have HS1 := Lib.hid hs1
    have HB1 := Lib.hid hb1
    clear hs1 hb1
    go_wp2_with fail
    go_ret
    exact part_mk HS1.out HL.out.symm (HSub.out.up HB1.out) HB1.out rfl

set_option maxRecDepth 100000 in
set_option maxHeartbeats 2000000 in
theorem sliced_be (bl : Nat → Nat) (ns : List Nat) (hlen : ns.length ≤ 200) (g : Nat) (a : Option Addr) (c : Nat) (doc prev : Option Addr) (w : World) (hs : SelB w g a ns.length c doc prev) (hcap : ns.length ≤ c ∧ c ≤ maxLen) (h : RSl w w.heap.size a (ptrs bl ns)) (lo : Nat) (A : Int) (hA : A < 0) (hA2 : A + (ns.length : Int) = (lo : Int)) (h1 : lo ≤ ns.length) (h2 : ns.length ≤ ns.length) :
    Calls Try.prog 192 #[.pointer (some ⟨g, 0, none⟩), .int .i64 A, .int .i64 9223372036854775807] w (PartPost bl ((ns.drop lo).take (ns.length - lo)) w) := by
  have HSl := Lib.hid (slice_be bl ns hlen g a c doc prev w hs hcap h lo A hA hA2 h1 h2)
  obtain ⟨c0, c1, c2⟩ := hs.cells
  have hA3 : -200 ≤ A := by omega
  have d1 : decide (lo ≤ ns.length) = true := decide_eq_true h1
  have d2 : decide (ns.length ≤ ns.length) = true := decide_eq_true h2
  have n1 : ¬ ns.length < lo := by omega
  have n2 : ¬ ns.length < ns.length := by omega
  obtain ⟨N, hN⟩ : ∃ N, N = (ns.drop lo).take (ns.length - lo) := ⟨_, rfl⟩
  rw [← hN] at HSl ⊢
  clear hs h hcap hN
  go_enter Try.func192, Try.ntmps192
  go_wp2_with (go_at_call 197; refine (selLen_any g a ns.length c doc prev w c0).mono ?_; rintro e w' ⟨rfl, rfl⟩)
  refine HSl.out.mono ?_
  rintro e w1 ⟨g2, a5, c5, doc2, prev2, rfl, hs2, hr2, hb2⟩
  have HS2 := Lib.hid hs2
  have HR2 := Lib.hid hr2
  have HB2 := Lib.hid hb2
  clear hs2 hr2 hb2
  go_wp2_with fail
  go_ret
  exact part_mk HS2.out rfl HR2.out HB2.out rfl

set_option maxRecDepth 100000 in
set_option maxHeartbeats 2000000 in
theorem slice_bb (bl : Nat → Nat) (ns : List Nat) (hlen : ns.length ≤ 200) (g : Nat) (a : Option Addr) (c : Nat) (doc prev : Option Addr) (w : World) (hs : SelB w g a ns.length c doc prev) (hcap : ns.length ≤ c ∧ c ≤ maxLen) (h : RSl w w.heap.size a (ptrs bl ns)) (lo hi : Nat) (A : Int) (hA : A < 0) (hA2 : A + (ns.length : Int) = (lo : Int)) (B : Int) (hB : B < 0) (hB2 : B + (ns.length : Int) = (hi : Int)) (h1 : lo ≤ hi) (h2 : hi ≤ ns.length) :
    Calls Try.prog 179 #[.pointer (some ⟨g, 0, none⟩), .int .i64 A, .int .i64 B] w (PartPost bl ((ns.drop lo).take (hi - lo)) w) := by
  obtain ⟨c0, c1, c2⟩ := hs.cells
  have HS := Lib.hid hs
  have HH := Lib.hid h
  have hc3 := hcap.1
  have hc4 := hcap.2
  unfold maxLen at hc4
  have hA3 : -200 ≤ A := by omega
  have hB3 : -200 ≤ B := by omega
  have hb9 : (B == 9223372036854775807) = false := beq_eq_false_iff_ne.2 (by omega)
  have hl : ((ns.drop lo).take (hi - lo)).length = hi - lo := by rw [List.length_take, List.length_drop]; omega
  by_cases hz : hi - lo = 0
  · have HN : Hid ((ns.drop lo).take (hi - lo) = []) := by rw [Hid, hz]; rfl
    have HZ := Lib.hid hz
    obtain rfl : hi = lo := by omega
    clear hs h hcap hl hz
    go_enter Try.func179, Try.ntmps179
    go_wp2_with fail
    all_goals
      refine (push_any g a ns.length c doc prev _ _ _ w HS.out).mono ?_
      rintro e w1 ⟨rfl, hs1, hb1⟩
      have HS1 := Lib.hid hs1
      have HB1 := Lib.hid hb1
      clear hs1 hb1
      go_wp2_with fail
      go_ret
      exact part_mk HS1.out (by rw [HN.out]; simp) (by rw [HN.out]; exact .inl rfl) HB1.out rfl
  · obtain ⟨b, o, rfl, hbB, hc⟩ := h.at_ (by rw [ptrs_length]; omega)
    have HSub : Hid (RSl w w.heap.size (some ⟨b, o + lo, none⟩) (ptrs bl ((ns.drop lo).take (hi - lo)))) := by
      have := RSl.sub hbB hc lo (hi - lo) (by rw [ptrs_length]; omega)
      rw [Hid]
      unfold ptrs at this ⊢
      rw [List.map_take, List.map_drop]
      exact this
    have hne : lo ≠ c := by omega
    have HL := Lib.hid hl
    have hlt : lo < c := by omega
    clear hs h hcap hl hz hc
    go_enter Try.func179, Try.ntmps179
    go_wp2_with fail
    refine (push_any g _ ns.length c doc prev _ _ _ w HS.out).mono ?_
    rintro e w1 ⟨rfl, hs1, hb1⟩
    have HS1 := Lib.hid hs1
    have HB1 := Lib.hid hb1
    clear hs1 hb1
    go_wp2_with fail
    go_ret
    exact part_mk HS1.out HL.out.symm (HSub.out.up HB1.out) HB1.out rfl

set_option maxRecDepth 100000 in
set_option maxHeartbeats 2000000 in
theorem sliced_bb (bl : Nat → Nat) (ns : List Nat) (hlen : ns.length ≤ 200) (g : Nat) (a : Option Addr) (c : Nat) (doc prev : Option Addr) (w : World) (hs : SelB w g a ns.length c doc prev) (hcap : ns.length ≤ c ∧ c ≤ maxLen) (h : RSl w w.heap.size a (ptrs bl ns)) (lo hi : Nat) (A : Int) (hA : A < 0) (hA2 : A + (ns.length : Int) = (lo : Int)) (B : Int) (hB : B < 0) (hB2 : B + (ns.length : Int) = (hi : Int)) (h1 : lo ≤ hi) (h2 : hi ≤ ns.length) :
    Calls Try.prog 192 #[.pointer (some ⟨g, 0, none⟩), .int .i64 A, .int .i64 B] w (PartPost bl ((ns.drop lo).take (hi - lo)) w) := by
  have HSl := Lib.hid (slice_bb bl ns hlen g a c doc prev w hs hcap h lo hi A hA hA2 B hB hB2 h1 h2)
  obtain ⟨c0, c1, c2⟩ := hs.cells
  have hA3 : -200 ≤ A := by omega
  have hB3 : -200 ≤ B := by omega
  have hb9 : (B == 9223372036854775807) = false := beq_eq_false_iff_ne.2 (by omega)
  have d1 : decide (lo ≤ hi) = true := decide_eq_true h1
  have d2 : decide (hi ≤ ns.length) = true := decide_eq_true h2
  have n1 : ¬ hi < lo := by omega
  have n2 : ¬ ns.length < hi := by omega
  obtain ⟨N, hN⟩ : ∃ N, N = (ns.drop lo).take (hi - lo) := ⟨_, rfl⟩
  rw [← hN] at HSl ⊢
  clear hs h hcap hN
  go_enter Try.func192, Try.ntmps192
  go_wp2_with (go_at_call 197; refine (selLen_any g a ns.length c doc prev w c0).mono ?_; rintro e w' ⟨rfl, rfl⟩)
  refine HSl.out.mono ?_
  rintro e w1 ⟨g2, a5, c5, doc2, prev2, rfl, hs2, hr2, hb2⟩
  have HS2 := Lib.hid hs2
  have HR2 := Lib.hid hr2
  have HB2 := Lib.hid hb2
  clear hs2 hr2 hb2
  go_wp2_with fail
  go_ret
  exact part_mk HS2.out rfl HR2.out HB2.out rfl
end Go.Proofs.Ytgilbckfkngaiaa

namespace Go.Proofs.Ytgilbckfkngaiaa
open Go.RowKit
set_option linter.unusedVariables false

/-- A selection in memory, as far as its parts ask. -/
structure SelR (bl : Nat → Nat) (ns : List Nat) (g : Nat) (w : World) : Prop where
  ex : ∃ a c doc prev, SelB w g a ns.length c doc prev ∧ ns.length ≤ c ∧ c ≤ maxLen ∧ RSl w w.heap.size a (ptrs bl ns)

theorem SelR.up {bl : Nat → Nat} {ns : List Nat} {g : Nat} {w w' : World} (h : SelR bl ns g w) (hb : Below w.heap.size w w') : SelR bl ns g w' := by
  obtain ⟨a, c, doc, prev, h1, h2, h3, h4⟩ := h.ex
  exact ⟨a, c, doc, prev, h1.below hb h1.lt, h2, h3, h4.up hb⟩
theorem SelOf.selR {bl : Nat → Nat} {ns : List Nat} {B g : Nat} {doc : Option Addr} {w : World} (h : SelOf bl ns B g doc w) : SelR bl ns g w := by
  obtain ⟨a, c, prev, hs, _, hown, _⟩ := h
  obtain ⟨a1, c1, hv, _, hrs⟩ := RSl.own hown
  cases hv
  refine ⟨a, c, doc, prev, hs, ?_, ?_, hrs⟩
  · rcases hown.2 with ⟨hv, hn⟩ | ⟨g, cap, cur, hv, _, _, hc, _⟩
    · omega
    · simp only [Value.slice.injEq] at hv; omega
  · rcases hown.2 with ⟨hv, hn⟩ | ⟨g, cap, cur, hv, _, _, _, hm, _⟩
    · simp only [Value.slice.injEq] at hv; unfold maxLen; omega
    · simp only [Value.slice.injEq] at hv; omega

theorem one_at {ns : List Nat} {k : Nat} (h : k < ns.length) : (ns.drop k).take (k + 1 - k) = [ns[k]] := by
  rw [show k + 1 - k = 1 by omega, List.drop_eq_getElem_cons h]; rfl

set_option maxRecDepth 100000 in
set_option maxHeartbeats 2000000 in
theorem eq_in (bl : Nat → Nat) (ns : List Nat) (hlen : ns.length ≤ 200) (g : Nat) (w : World) (hs : SelR bl ns g w) (k : Nat) (hk : k < ns.length) (A : Int) (hA : A = k ∨ (A < 0 ∧ A + (ns.length : Int) = k)) :
    Calls Try.prog 145 #[.pointer (some ⟨g, 0, none⟩), .int .i64 A] w (PartPost bl [ns[k]] w) := by
  obtain ⟨a, c, doc, prev, h1, h2, h3, h4⟩ := hs.ex
  have hsl := slice_ff bl ns hlen g a c doc prev w h1 ⟨h2, h3⟩ h4 k (k + 1) (by omega) (by omega)
  rw [one_at hk] at hsl
  have e1 : ((k + 1 : Nat) : Int) = (k : Int) + 1 := by omega
  rw [e1] at hsl
  have HSl := Lib.hid hsl
  obtain ⟨c0, c1, c2⟩ := h1.cells
  obtain ⟨x, hx⟩ : ∃ x, x = ns[k] := ⟨_, rfl⟩
  rw [← hx] at HSl ⊢
  have n1 : decide (k < ns.length) = true := decide_eq_true hk
  have n2 : ¬ ns.length ≤ k := by omega
  have n3 : decide (ns.length ≤ k) = false := decide_eq_false n2
  clear hs h1 h2 h3 h4 hsl hx e1
  rcases hA with rfl | ⟨hA, hA2⟩
  · go_enter Try.func145, Try.ntmps145
    go_wp2_with fail
    refine HSl.out.mono ?_
    rintro e w1 ⟨g2, a5, c5, doc2, prev2, rfl, hs2, hr2, hb2⟩
    have HS2 := Lib.hid hs2
    have HR2 := Lib.hid hr2
    have HB2 := Lib.hid hb2
    clear hs2 hr2 hb2
    go_wp2_with fail
    go_ret
    exact part_mk HS2.out rfl HR2.out HB2.out rfl
  · have hA3 : -200 ≤ A := by omega
    go_enter Try.func145, Try.ntmps145
    go_wp2_with fail
    refine HSl.out.mono ?_
    rintro e w1 ⟨g2, a5, c5, doc2, prev2, rfl, hs2, hr2, hb2⟩
    have HS2 := Lib.hid hs2
    have HR2 := Lib.hid hr2
    have HB2 := Lib.hid hb2
    clear hs2 hr2 hb2
    go_wp2_with fail
    go_ret
    exact part_mk HS2.out rfl HR2.out HB2.out rfl

set_option maxRecDepth 100000 in
theorem newEmpty_any (doc : Option Addr) (w : World) : Calls Try.prog 178 #[.pointer doc] w fun e w' => e = .returned (.pointer (some ⟨w.heap.size, 0, none⟩)) ∧ SelB w' w.heap.size none 0 0 doc none ∧ Below w.heap.size w w' := by
  go_enter Try.func178, Try.ntmps178
  go_wp2_with fail
  go_ret
  exact ⟨rfl, heap_alloc_new w _, (Below.refl _ _).alloc (Nat.le_refl _) _⟩

set_option maxRecDepth 100000 in
set_option maxHeartbeats 2000000 in
theorem eq_out (bl : Nat → Nat) (ns : List Nat) (hlen : ns.length ≤ 200) (g : Nat) (w : World) (hs : SelR bl ns g w) (A : Int) (hA : (ns.length : Int) ≤ A ∨ (A < 0 ∧ -9223372036854775808 ≤ A ∧ A + (ns.length : Int) < 0)) :
    Calls Try.prog 145 #[.pointer (some ⟨g, 0, none⟩), .int .i64 A] w (PartPost bl [] w) := by
  obtain ⟨a, c, doc, prev, h1, h2, h3, h4⟩ := hs.ex
  obtain ⟨c0, c1, c2⟩ := h1.cells
  have HE := Lib.hid (newEmpty_any doc w)
  clear hs h1 h2 h3 h4
  rcases hA with hA | ⟨hA, hA3, hA2⟩
  · have h0 : 0 ≤ A := by omega
    go_enter Try.func145, Try.ntmps145
    go_wp2_with fail
    refine HE.out.mono ?_
    rintro e w1 ⟨rfl, hs2, hb2⟩
    have HS2 := Lib.hid hs2
    have HB2 := Lib.hid hb2
    clear hs2 hb2
    go_wp2_with fail
    go_ret
    exact part_mk HS2.out rfl (.inl rfl) HB2.out rfl
  · have hn : ¬ (ns.length : Int) ≤ A + (ns.length : Int) := by omega
    go_enter Try.func145, Try.ntmps145
    go_wp2_with fail
    refine HE.out.mono ?_
    rintro e w1 ⟨rfl, hs2, hb2⟩
    have HS2 := Lib.hid hs2
    have HB2 := Lib.hid hb2
    clear hs2 hb2
    go_wp2_with fail
    go_ret
    exact part_mk HS2.out rfl (.inl rfl) HB2.out rfl

/-- First, and Last: by Eq. -/
def lastI (ns : List Nat) : List Nat := ns.drop (ns.length - 1)
set_option maxRecDepth 100000 in
theorem first_any (bl : Nat → Nat) (ns : List Nat) (hlen : ns.length ≤ 200) (g : Nat) (w : World) (hs : SelR bl ns g w) :
    Calls Try.prog 193 #[.pointer (some ⟨g, 0, none⟩)] w (PartPost bl (ns.take 1) w) := by
  have HE : Hid (Calls Try.prog 145 #[.pointer (some ⟨g, 0, none⟩), .int .i64 0] w (PartPost bl (ns.take 1) w)) := by
    by_cases h : 0 < ns.length
    · have := eq_in bl ns hlen g w hs 0 h 0 (.inl rfl)
      rw [show [ns[0]] = ns.take 1 from by cases ns with | nil => simp at h | cons x l => rfl] at this
      exact this
    · have := eq_out bl ns hlen g w hs 0 (.inl (by omega))
      rw [show ns.take 1 = [] from by cases ns with | nil => rfl | cons x l => simp at h]
      exact this
  clear hs
  go_enter Try.func193, Try.ntmps193
  go_wp2_with fail
  refine HE.out.mono ?_
  rintro e w1 ⟨g2, a5, c5, doc2, prev2, rfl, hs2, hr2, hb2⟩
  have HS2 := Lib.hid hs2
  have HR2 := Lib.hid hr2
  have HB2 := Lib.hid hb2
  clear hs2 hr2 hb2
  go_wp2_with fail
  go_ret
  exact part_mk HS2.out rfl HR2.out HB2.out rfl
set_option maxRecDepth 100000 in
theorem last_any (bl : Nat → Nat) (ns : List Nat) (hlen : ns.length ≤ 200) (g : Nat) (w : World) (hs : SelR bl ns g w) :
    Calls Try.prog 194 #[.pointer (some ⟨g, 0, none⟩)] w (PartPost bl (lastI ns) w) := by
  have HE : Hid (Calls Try.prog 145 #[.pointer (some ⟨g, 0, none⟩), .int .i64 (-1)] w (PartPost bl (lastI ns) w)) := by
    unfold lastI
    by_cases h : 0 < ns.length
    · have := eq_in bl ns hlen g w hs (ns.length - 1) (by omega) (-1) (.inr ⟨by omega, by omega⟩)
      rw [show [ns[ns.length - 1]] = ns.drop (ns.length - 1) from by rw [List.drop_eq_getElem_cons (by omega), List.drop_eq_nil_of_le (by omega)]] at this
      exact this
    · have := eq_out bl ns hlen g w hs (-1) (.inr ⟨by omega, by omega, by omega⟩)
      rw [show ns.drop (ns.length - 1) = [] from by cases ns with | nil => rfl | cons x l => simp at h]
      exact this
  clear hs
  go_enter Try.func194, Try.ntmps194
  go_wp2_with fail
  refine HE.out.mono ?_
  rintro e w1 ⟨g2, a5, c5, doc2, prev2, rfl, hs2, hr2, hb2⟩
  have HS2 := Lib.hid hs2
  have HR2 := Lib.hid hr2
  have HB2 := Lib.hid hb2
  clear hs2 hr2 hb2
  go_wp2_with fail
  go_ret
  exact part_mk HS2.out rfl HR2.out HB2.out rfl

/-- What part does with a selection, in whatever later world. -/
def Parts (bl : Nat → Nat) (N : List Nat) (g : Nat) (op A B : Int) (w : World) : Prop := ∀ W, Below w.heap.size w W → Calls Try.prog 174 #[.pointer (some ⟨g, 0, none⟩), .agg #[.int .i64 op, .string ⟨#[]⟩, .slice none 0 0, .int .i64 A, .int .i64 B]] W (PartPost bl N W)

set_option maxRecDepth 100000 in
set_option maxHeartbeats 2000000 in
theorem part_32 (bl : Nat → Nat) (N : List Nat) (g : Nat) (A B : Int) (w : World) (h : ∀ W, Below w.heap.size w W → Calls Try.prog 192 #[.pointer (some ⟨g, 0, none⟩), .int .i64 A, .int .i64 B] W (PartPost bl N W)) : Parts bl N g 32 A B w := by
  intro W hW
  have hb0 : Below W.heap.size W (W.alloc (.cells #[.int .i64 32, .string ⟨#[]⟩, .slice none 0 0, .int .i64 A, .int .i64 B] 62)) := (Below.refl _ _).alloc (Nat.le_refl _) _
  have HB0 := Lib.hid hb0
  have HC := Lib.hid (h _ (bnext hW hb0))
  clear h hW hb0
  go_enter Try.func174, Try.ntmps174
  go_wp2_with fail
  refine HC.out.mono ?_
  rintro e w1 ⟨g2, a5, c5, doc2, prev2, rfl, hs2, hr2, hb2⟩
  have HS2 := Lib.hid hs2
  have HR2 := Lib.hid hr2
  have HB2 := Lib.hid (bnext HB0.out hb2)
  clear hs2 hr2 hb2
  go_wp2_with fail
  go_ret
  exact part_mk HS2.out rfl HR2.out HB2.out rfl

set_option maxRecDepth 100000 in
set_option maxHeartbeats 2000000 in
theorem part_33 (bl : Nat → Nat) (N : List Nat) (g : Nat) (A B : Int) (w : World) (h : ∀ W, Below w.heap.size w W → Calls Try.prog 192 #[.pointer (some ⟨g, 0, none⟩), .int .i64 A, .int .i64 9223372036854775807] W (PartPost bl N W)) : Parts bl N g 33 A B w := by
  intro W hW
  have hb0 : Below W.heap.size W (W.alloc (.cells #[.int .i64 33, .string ⟨#[]⟩, .slice none 0 0, .int .i64 A, .int .i64 B] 62)) := (Below.refl _ _).alloc (Nat.le_refl _) _
  have HB0 := Lib.hid hb0
  have HC := Lib.hid (h _ (bnext hW hb0))
  clear h hW hb0
  go_enter Try.func174, Try.ntmps174
  go_wp2_with fail
  refine HC.out.mono ?_
  rintro e w1 ⟨g2, a5, c5, doc2, prev2, rfl, hs2, hr2, hb2⟩
  have HS2 := Lib.hid hs2
  have HR2 := Lib.hid hr2
  have HB2 := Lib.hid (bnext HB0.out hb2)
  clear hs2 hr2 hb2
  go_wp2_with fail
  go_ret
  exact part_mk HS2.out rfl HR2.out HB2.out rfl

set_option maxRecDepth 100000 in
set_option maxHeartbeats 2000000 in
theorem part_34 (bl : Nat → Nat) (N : List Nat) (g : Nat) (A B : Int) (w : World) (h : ∀ W, Below w.heap.size w W → Calls Try.prog 193 #[.pointer (some ⟨g, 0, none⟩)] W (PartPost bl N W)) : Parts bl N g 34 A B w := by
  intro W hW
  have hb0 : Below W.heap.size W (W.alloc (.cells #[.int .i64 34, .string ⟨#[]⟩, .slice none 0 0, .int .i64 A, .int .i64 B] 62)) := (Below.refl _ _).alloc (Nat.le_refl _) _
  have HB0 := Lib.hid hb0
  have HC := Lib.hid (h _ (bnext hW hb0))
  clear h hW hb0
  go_enter Try.func174, Try.ntmps174
  go_wp2_with fail
  refine HC.out.mono ?_
  rintro e w1 ⟨g2, a5, c5, doc2, prev2, rfl, hs2, hr2, hb2⟩
  have HS2 := Lib.hid hs2
  have HR2 := Lib.hid hr2
  have HB2 := Lib.hid (bnext HB0.out hb2)
  clear hs2 hr2 hb2
  go_wp2_with fail
  go_ret
  exact part_mk HS2.out rfl HR2.out HB2.out rfl

set_option maxRecDepth 100000 in
set_option maxHeartbeats 2000000 in
theorem part_35 (bl : Nat → Nat) (N : List Nat) (g : Nat) (A B : Int) (w : World) (h : ∀ W, Below w.heap.size w W → Calls Try.prog 194 #[.pointer (some ⟨g, 0, none⟩)] W (PartPost bl N W)) : Parts bl N g 35 A B w := by
  intro W hW
  have hb0 : Below W.heap.size W (W.alloc (.cells #[.int .i64 35, .string ⟨#[]⟩, .slice none 0 0, .int .i64 A, .int .i64 B] 62)) := (Below.refl _ _).alloc (Nat.le_refl _) _
  have HB0 := Lib.hid hb0
  have HC := Lib.hid (h _ (bnext hW hb0))
  clear h hW hb0
  go_enter Try.func174, Try.ntmps174
  go_wp2_with fail
  refine HC.out.mono ?_
  rintro e w1 ⟨g2, a5, c5, doc2, prev2, rfl, hs2, hr2, hb2⟩
  have HS2 := Lib.hid hs2
  have HR2 := Lib.hid hr2
  have HB2 := Lib.hid (bnext HB0.out hb2)
  clear hs2 hr2 hb2
  go_wp2_with fail
  go_ret
  exact part_mk HS2.out rfl HR2.out HB2.out rfl

set_option maxRecDepth 100000 in
set_option maxHeartbeats 2000000 in
theorem part_36 (bl : Nat → Nat) (N : List Nat) (g : Nat) (A B : Int) (w : World) (h : ∀ W, Below w.heap.size w W → Calls Try.prog 145 #[.pointer (some ⟨g, 0, none⟩), .int .i64 A] W (PartPost bl N W)) : Parts bl N g 36 A B w := by
  intro W hW
  have hb0 : Below W.heap.size W (W.alloc (.cells #[.int .i64 36, .string ⟨#[]⟩, .slice none 0 0, .int .i64 A, .int .i64 B] 62)) := (Below.refl _ _).alloc (Nat.le_refl _) _
  have HB0 := Lib.hid hb0
  have HC := Lib.hid (h _ (bnext hW hb0))
  clear h hW hb0
  go_enter Try.func174, Try.ntmps174
  go_wp2_with fail
  refine HC.out.mono ?_
  rintro e w1 ⟨g2, a5, c5, doc2, prev2, rfl, hs2, hr2, hb2⟩
  have HS2 := Lib.hid hs2
  have HR2 := Lib.hid hr2
  have HB2 := Lib.hid (bnext HB0.out hb2)
  clear hs2 hr2 hb2
  go_wp2_with fail
  go_ret
  exact part_mk HS2.out rfl HR2.out HB2.out rfl

/-- A step that is none of those of bySet and kin. -/
structure PartOp (op : Int) : Prop where
  z2 : (op == 2) = false
  z4 : (op == 4) = false
  z6 : (op == 6) = false
  z8 : (op == 8) = false
  z10 : (op == 10) = false
  z11 : (op == 11) = false
  z24 : (op == 24) = false
  z27 : (op == 27) = false
  z30 : (op == 30) = false
  z37 : (op == 37) = false
  z38 : (op == 38) = false
  z39 : (op == 39) = false
  z40 : (op == 40) = false
  z20 : (op == 20) = false
  z21 : (op == 21) = false
  z22 : (op == 22) = false
  z23 : (op == 23) = false
  z25 : (op == 25) = false
  z26 : (op == 26) = false
  z28 : (op == 28) = false
  z29 : (op == 29) = false
  z31 : (op == 31) = false

set_option maxRecDepth 100000 in
set_option maxHeartbeats 4000000 in
theorem bySet_nil (g : Nat) (op A B : Int) (hop : PartOp op) (a : Option Addr) (n c : Nat) (w : World) :
    Calls Try.prog 135 #[.pointer (some ⟨g, 0, none⟩), .agg #[.int .i64 op, .string ⟨#[]⟩, .slice none 0 0, .int .i64 A, .int .i64 B], .slice a n c] w fun e w' => e = .returned (.pointer none) ∧ Below w.heap.size w w' := by
  obtain ⟨p2, p4, p6, p8, p10, p11, p24, p27, p30, p37, p38, p39, p40, p20, p21, p22, p23, p25, p26, p28, p29, p31⟩ := hop
  go_enter Try.func135, Try.ntmps135
  go_wp2_with fail
  go_ret
  exact ⟨rfl, (Below.refl _ _).alloc (Nat.le_refl _) _⟩

set_option maxRecDepth 100000 in
set_option maxHeartbeats 4000000 in
theorem kin_part (bl : Nat → Nat) (N : List Nat) (g : Nat) (op A B : Int) (hop : PartOp op) (w : World) (h : Parts bl N g op A B w) (W : World) (hW : Below w.heap.size w W) :
    Calls Try.prog 136 #[.pointer (some ⟨g, 0, none⟩), .agg #[.int .i64 op, .string ⟨#[]⟩, .slice none 0 0, .int .i64 A, .int .i64 B]] W (PartPost bl N W) := by
  obtain ⟨p2, p4, p6, p8, p10, p11, p24, p27, p30, p37, p38, p39, p40, p20, p21, p22, p23, p25, p26, p28, p29, p31⟩ := hop
  have hb0 : Below W.heap.size W (W.alloc (.cells #[.int .i64 op, .string ⟨#[]⟩, .slice none 0 0, .int .i64 A, .int .i64 B] 62)) := (Below.refl _ _).alloc (Nat.le_refl _) _
  have HB0 := Lib.hid hb0
  have HC := Lib.hid (h _ (bnext hW hb0))
  clear h hW hb0
  go_enter Try.func136, Try.ntmps136
  go_wp2_with fail
  refine HC.out.mono ?_
  rintro e w1 ⟨g2, a5, c5, doc2, prev2, rfl, hs2, hr2, hb2⟩
  have HS2 := Lib.hid hs2
  have HR2 := Lib.hid hr2
  have HB2 := Lib.hid (bnext HB0.out hb2)
  clear hs2 hr2 hb2
  go_wp2_with fail
  go_ret
  exact part_mk HS2.out rfl HR2.out HB2.out rfl
end Go.Proofs.Ytgilbckfkngaiaa

namespace Go.Proofs.Ytgilbckfkngaiaa
open Go.RowKit
set_option linter.unusedVariables false

theorem Try.infoII : (Try.prog.info? 37).map (fun i => (i.zero, i.size, i.bytes)) = some (some (.slice none 0 0), 1, 24) := by kernel_rfl

/-- A step lies in memory. -/
structure PickAt (op A B : Int) (bp : Nat) (w : World) : Prop where
  c0 : w.cell? ⟨bp, 0, none⟩ = some (.int .i64 op)
  c1 : w.cell? ⟨bp, 1, none⟩ = some (.string ⟨#[]⟩)
  c2 : w.cell? ⟨bp, 2, none⟩ = some (.slice none 0 0)
  c3 : w.cell? ⟨bp, 3, none⟩ = some (.int .i64 A)
  c4 : w.cell? ⟨bp, 4, none⟩ = some (.int .i64 B)
theorem PickAt.below {op A B : Int} {bp : Nat} {w w' : World} (h : PickAt op A B bp w) (hb : Below w.heap.size w w') (hl : bp < w.heap.size) : PickAt op A B bp w' :=
  ⟨(hb.cell (p := ⟨bp, 0, none⟩) hl).trans h.c0, (hb.cell (p := ⟨bp, 1, none⟩) hl).trans h.c1, (hb.cell (p := ⟨bp, 2, none⟩) hl).trans h.c2, (hb.cell (p := ⟨bp, 3, none⟩) hl).trans h.c3, (hb.cell (p := ⟨bp, 4, none⟩) hl).trans h.c4⟩

def SetsPost (B : Nat) (N : List Nat) (v6 : Value) (w : World) : Prop := ∃ bs cs v, v6 = .slice (some ⟨bs, 0, none⟩) 1 cs ∧ bs < w.heap.size ∧ w.cell? ⟨bs, 0, none⟩ = some v ∧ OwnI B (toI N) v w

def WkRel (B g : Nat) (N : List Nat) (w w1 : World) (v6 v8 x : Value) (wr : World) : Prop :=
  (x = .int .i64 0 ∧ v6 = .slice none 0 0 ∧ v8 = .pointer (some ⟨g, 0, none⟩) ∧ w1 = wr) ∨ (x = .int .i64 1 ∧ SetsPost B N v6 wr ∧ Below w.heap.size w wr)

def WkPost (N : List Nat) (w : World) (e : Ending) (w' : World) : Prop := ∃ v6, e = .returned (.tuple #[v6, .bool true]) ∧ SetsPost w.heap.size N v6 w' ∧ Below w.heap.size w w'

set_option maxRecDepth 100000 in
set_option maxHeartbeats 4000000 in
theorem walked1_any (a : Option Addr) (c : Nat) (t : List Nd) (hR : RightP t) (ad : Option Addr) (c2 : Nat) (l : List Int) (ns : List Nat) (ho : OrdP t.length l ns) (hl : l.length ≤ 2147483647) (op A B : Int) (hop : PartOp op) (bp : Nat) (N : List Nat) (hN : ∀ m ∈ N, m < t.length) (hNl : N.length ≤ 200) (w : World) (h : NSl w w.heap.size a t) (hi : ISl w w.heap.size ad l) (hp : PickAt op A B bp w) (hpl : bp < w.heap.size)
    (hpart : ∀ bl g W, SelR bl ns g W → Parts bl N g op A B W) :
    Calls Try.prog 100 #[.slice a t.length c, .slice ad l.length c2, .slice (some ⟨bp, 0, none⟩) 1 1] w (WkPost N w) := by
  obtain ⟨i0, hinf, hz0, hz1, hz2⟩ := info_parts Try.infoII
  have HC := Lib.hid (chosen_any a c t hR ad c2 l ns ho hl w h hi)
  have hle := hR.le
  have HP := Lib.hid hp
  have HN := Lib.hid hN
  have HOp := Lib.hid hop
  have HPart := Lib.hid hpart
  clear hR ho h hi hp hN hop hpart
  go_enter Try.func100, Try.ntmps100
  go_wp2_with fail
  refine HC.out.mono ?_
  rintro e w1 ⟨L, bl, st, g, doc, rfl, hL, hT, hsel, hb1⟩
  have HT := Lib.hid hT
  have HSel := Lib.hid hsel.selR
  have HB1 := Lib.hid hb1
  have hP1 := HP.out.below hb1 hpl
  have hpl1 : bp < w1.heap.size := Nat.lt_of_lt_of_le hpl hb1.size
  have HP1 := Lib.hid hP1
  clear hT hsel hb1 hP1
  go_wp2_with fail
  go_loopw [6, 8, 27] (fun v6 v8 x wr => WkRel w.heap.size g N w w1 v6 v8 x wr) (fun _ _ x _ => 1 - (intOf x).toNat)
  case atStart => exact .inl ⟨rfl, rfl, rfl, rfl⟩
  case round =>
    rcases hrel with ⟨rfl, rfl, rfl, rfl⟩ | ⟨rfl, hsp, hb⟩
    · obtain ⟨p0, p1, p2, p3, p4⟩ := HP1.out
      have hba : Below w1.heap.size w1 (w1.alloc (.cells #[.int .i64 op, .string ⟨#[]⟩, .slice none 0 0, .int .i64 A, .int .i64 B] 62)) := (Below.refl _ _).alloc (Nat.le_refl _) _
      have HBa := Lib.hid hba
      have HT2 := Lib.hid (HT.out.kept hba)
      have hL2 : L < (w1.alloc (.cells #[.int .i64 op, .string ⟨#[]⟩, .slice none 0 0, .int .i64 A, .int .i64 B] 62)).heap.size := Nat.lt_of_lt_of_le hL hba.size
      have HTh := Lib.hid (these_any t hle _ L bl st none 0 [] [] ⟨rfl, by simp, by simp⟩ (by simp) _ hL2 HT2.out ⟨.inl rfl, by simp [maxLen], by simp⟩)
      have hbx : w1.heap.size < (w1.alloc (.cells #[.int .i64 op, .string ⟨#[]⟩, .slice none 0 0, .int .i64 A, .int .i64 B] 62)).heap.size := by simp
      have hcx : ∀ j v, #[Value.int .i64 op, .string ⟨#[]⟩, .slice none 0 0, .int .i64 A, .int .i64 B][j]? = some v → (w1.alloc (.cells #[.int .i64 op, .string ⟨#[]⟩, .slice none 0 0, .int .i64 A, .int .i64 B] 62)).cell? ⟨w1.heap.size, j, none⟩ = some v := by
        intro j v hj
        rw [World.cell?_alloc_mark]; exact hj
      have HCx := Lib.hid hcx
      have HPk := Lib.hid (HPart.out bl g w1 HSel.out)
      have HNd := Lib.hid HT.out.nodes
      clear hba hcx
      go_wp2_with fail
      refine HTh.out.mono ?_
      rintro e w2 ⟨a2, cc2, rfl, _, hb2⟩
      have q0 := (hb2.cell (p := ⟨w1.heap.size, 0, none⟩) hbx).trans (HCx.out 0 _ rfl)
      have q1 := (hb2.cell (p := ⟨w1.heap.size, 1, none⟩) hbx).trans (HCx.out 1 _ rfl)
      have q2 := (hb2.cell (p := ⟨w1.heap.size, 2, none⟩) hbx).trans (HCx.out 2 _ rfl)
      have q3 := (hb2.cell (p := ⟨w1.heap.size, 3, none⟩) hbx).trans (HCx.out 3 _ rfl)
      have q4 := (hb2.cell (p := ⟨w1.heap.size, 4, none⟩) hbx).trans (HCx.out 4 _ rfl)
      have HB2 := Lib.hid (bnext HBa.out hb2)
      have hbx2 := Nat.lt_of_lt_of_le hbx hb2.size
      clear hb2 p0 p1 p2 p3 p4
      go_wp2_with fail
      refine (bySet_nil g op A B HOp.out _ _ _ w2).mono ?_
      rintro e w3 ⟨rfl, hb3⟩
      replace q0 := (hb3.cell (p := ⟨w1.heap.size, 0, none⟩) hbx2).trans q0
      replace q1 := (hb3.cell (p := ⟨w1.heap.size, 1, none⟩) hbx2).trans q1
      replace q2 := (hb3.cell (p := ⟨w1.heap.size, 2, none⟩) hbx2).trans q2
      replace q3 := (hb3.cell (p := ⟨w1.heap.size, 3, none⟩) hbx2).trans q3
      replace q4 := (hb3.cell (p := ⟨w1.heap.size, 4, none⟩) hbx2).trans q4
      have HB3 := Lib.hid (bnext HB2.out hb3)
      clear hb3
      have HK := Lib.hid (kin_part bl N g op A B HOp.out w1 HPk.out w3 HB3.out)
      go_wp2_with fail
      refine HK.out.mono ?_
      rintro e w4 ⟨g2, a5, c5, doc2, prev2, rfl, hs2, hr2, hb4⟩
      obtain ⟨s0, _, _⟩ := hs2.cells
      have HR2 := Lib.hid hr2
      have hB4 := bnext HB3.out hb4
      have HB4 := Lib.hid (bnext HB1.out hB4)
      have HT4 := Lib.hid (HT.out.kept hB4)
      have hL4 := Nat.lt_of_lt_of_le hL hB4.size
      clear hs2 hr2 hb4 hB4 q0 q1 q2 q3 q4
      have HPl := Lib.hid (placesOf_any bl t.length L hle N HN.out (by omega) a5 c5 w4 hL4 HT4.out.nodes (fun j hj => HT4.out.cell j hj) HR2.out)
      go_wp2_with fail
      refine HPl.out.mono ?_
      rintro e w5 ⟨v, rfl, ⟨av, cv, rfl, hown5⟩, hb5⟩
      have HO5 := Lib.hid hown5
      have HB5 := Lib.hid (bnext HB4.out hb5)
      have HBq := Lib.hid hb5
      have hsz5 := HB5.out.size
      clear hown5 hb5
      go_wp2_with (at_builtin; refine wpList_append_own _ rfl _ _ 113 rfl w5.heap.size 37 i0 (.slice none 0 0) 1 24 Try.underlying113 hinf hz0 hz1 hz2 rfl (by decide) (.slice none 0 0) 0 [] rfl (World.ownsRow_nil _ _ _ _) ⟨w5.heap.size, 0, none⟩ 1 1 [.slice av (toI N).length cv] rfl rfl (cell_one_new _ _ _) (by intro u hu; simp at hu; subst hu; rfl) (by unfold maxLen; omega) (by omega) (by simp) ?_)
      intro v' w6 hown' hgrow _
      obtain ⟨a3, c3, hv2⟩ := own_slice hown'
      rw [hv2] at hown' ⊢
      have hb6 : Below w5.heap.size w5 w6 := ((Below.refl _ _).alloc (Nat.le_refl _) _).grown hgrow (by simp) (fun q hq => by simp [Value.ownBlock] at hq)
      have hsp : SetsPost w.heap.size N (.slice a3 (0 + 1) c3) w6 := by
        obtain ⟨ax, cx, hv, _, hrs⟩ := RSl.own hown'
        cases hv
        rcases hown'.2 with ⟨hv, hn⟩ | ⟨gg, cap, cur, hv, _, hg, _⟩
        · omega
        · cases hv
          refine ⟨gg, c3, .slice av (toI N).length cv, rfl, (Array.getElem?_eq_some_iff.1 hg).1, ?_, av, cv, rfl, own_kept (own_base HO5.out (by have := HB4.out.size; omega)) (fun b _ hb => hb6.block b hb)⟩
          obtain ⟨bb, oo, he, _, hcc⟩ := hrs.at_ (by simp)
          cases he
          have := hcc 0 (by simp)
          simpa using this
      have HSp := Lib.hid hsp
      have HB6 := Lib.hid (HB5.out.trans (hb6.mono hsz5))
      clear hown' hgrow hv2 hb6 hsp s0
      go_wp2_with fail
      go_roundw
      case rel => exact .inr ⟨by go_num, HSp.out, HB6.out⟩
      case measure => simp [intOf]
    · have HSp := Lib.hid hsp
      have HB := Lib.hid hb
      clear hsp hb
      go_wp2_with fail
      go_ret2
      exact ⟨_, rfl, HSp.out, HB.out⟩

set_option maxRecDepth 100000 in
set_option maxHeartbeats 2000000 in
theorem goes7_any (a : Option Addr) (c : Nat) (t : List Nd) (hR : RightP t) (ad : Option Addr) (c2 : Nat) (l : List Int) (ns : List Nat) (ho : OrdP t.length l ns) (hl : l.length ≤ 2147483647) (op A B : Int) (hop : PartOp op) (bp : Nat) (N : List Nat) (hN : ∀ m ∈ N, m < t.length) (hNl : N.length ≤ 200) (w : World) (h : NSl w w.heap.size a t) (hi : ISl w w.heap.size ad l) (hp : PickAt op A B bp w) (hpl : bp < w.heap.size)
    (hpart : ∀ bl g W, SelR bl ns g W → Parts bl N g op A B W) :
    Calls Try.prog 59 #[.slice a t.length c, .slice ad l.length c2, .slice (some ⟨bp, 0, none⟩) 1 1] w (ListPost (toI N) w) := by
  have HW := Lib.hid (walked1_any a c t hR ad c2 l ns ho hl op A B hop bp N hN hNl w h hi hp hpl hpart)
  clear hR ho h hi hp hN hop hpart
  go_enter Try.func59, Try.ntmps59
  go_wp2_with fail
  refine HW.out.mono ?_
  rintro e w1 ⟨v6, rfl, ⟨bs, cs, v, rfl, hbs, hcell, hown⟩, hb1⟩
  have HO := Lib.hid hown
  have HB1 := Lib.hid hb1
  obtain ⟨av, cv, rfl, _⟩ := hown.row
  clear hown hb1
  go_wp2_with fail
  go_ret2
  exact ⟨_, rfl, HO.out, HB1.out⟩

/-- What the parts of a selection are. -/
theorem parts_first {bl : Nat → Nat} {ns : List Nat} (hlen : ns.length ≤ 200) (A B : Int) : ∀ g W, SelR bl ns g W → Parts bl (ns.take 1) g 34 A B W :=
  fun g W hs => part_34 bl _ g A B W (fun W' hW' => first_any bl ns hlen g W' (hs.up hW'))
theorem parts_last {bl : Nat → Nat} {ns : List Nat} (hlen : ns.length ≤ 200) (A B : Int) : ∀ g W, SelR bl ns g W → Parts bl (lastI ns) g 35 A B W :=
  fun g W hs => part_35 bl _ g A B W (fun W' hW' => last_any bl ns hlen g W' (hs.up hW'))
theorem parts_eq {bl : Nat → Nat} {ns : List Nat} (hlen : ns.length ≤ 200) (A B : Int) (k : Nat) (hk : k < ns.length) (hA : A = k ∨ (A < 0 ∧ A + (ns.length : Int) = k)) : ∀ g W, SelR bl ns g W → Parts bl [ns[k]] g 36 A B W :=
  fun g W hs => part_36 bl _ g A B W (fun W' hW' => eq_in bl ns hlen g W' (hs.up hW') k hk A hA)
theorem parts_eqo {bl : Nat → Nat} {ns : List Nat} (hlen : ns.length ≤ 200) (A B : Int) (hA : (ns.length : Int) ≤ A ∨ (A < 0 ∧ -9223372036854775808 ≤ A ∧ A + (ns.length : Int) < 0)) : ∀ g W, SelR bl ns g W → Parts bl [] g 36 A B W :=
  fun g W hs => part_36 bl _ g A B W (fun W' hW' => eq_out bl ns hlen g W' (hs.up hW') A hA)
theorem parts_slice {bl : Nat → Nat} {ns : List Nat} (hlen : ns.length ≤ 200) (A B : Int) (lo hi : Nat) (hA : A = lo ∨ (A < 0 ∧ A + (ns.length : Int) = lo)) (hB : B = hi ∨ (B < 0 ∧ B + (ns.length : Int) = hi)) (h1 : lo ≤ hi) (h2 : hi ≤ ns.length) : ∀ g W, SelR bl ns g W → Parts bl ((ns.drop lo).take (hi - lo)) g 32 A B W := by
  intro g W hs
  refine part_32 bl _ g A B W (fun W' hW' => ?_)
  obtain ⟨a, c, doc, prev, q1, q2, q3, q4⟩ := (hs.up hW').ex
  rcases hA with rfl | ⟨hA, hA2⟩
  · rcases hB with rfl | ⟨hB, hB2⟩
    · exact sliced_ff bl ns hlen g a c doc prev W' q1 ⟨q2, q3⟩ q4 lo hi h1 h2
    · exact sliced_fb bl ns hlen g a c doc prev W' q1 ⟨q2, q3⟩ q4 lo hi B hB hB2 h1 h2
  · rcases hB with rfl | ⟨hB, hB2⟩
    · exact sliced_bf bl ns hlen g a c doc prev W' q1 ⟨q2, q3⟩ q4 lo hi A hA hA2 h1 h2
    · exact sliced_bb bl ns hlen g a c doc prev W' q1 ⟨q2, q3⟩ q4 lo hi A hA hA2 B hB hB2 h1 h2
theorem parts_toend {bl : Nat → Nat} {ns : List Nat} (hlen : ns.length ≤ 200) (A B : Int) (lo : Nat) (hA : A = lo ∨ (A < 0 ∧ A + (ns.length : Int) = lo)) (h1 : lo ≤ ns.length) : ∀ g W, SelR bl ns g W → Parts bl ((ns.drop lo).take (ns.length - lo)) g 33 A B W := by
  intro g W hs
  refine part_33 bl _ g A B W (fun W' hW' => ?_)
  obtain ⟨a, c, doc, prev, q1, q2, q3, q4⟩ := (hs.up hW').ex
  rcases hA with rfl | ⟨hA, hA2⟩
  · exact sliced_fe bl ns hlen g a c doc prev W' q1 ⟨q2, q3⟩ q4 lo h1 (Nat.le_refl _)
  · exact sliced_be bl ns hlen g a c doc prev W' q1 ⟨q2, q3⟩ q4 lo A hA hA2 h1 (Nat.le_refl _)
end Go.Proofs.Ytgilbckfkngaiaa

namespace Go.Proofs.Ytgilbckfkngaiaa
open Go.RowKit
set_option linter.unusedVariables false

theorem pick_new (w : World) (op A B : Int) : PickAt op A B w.heap.size (w.alloc (.cells #[.int .i64 op, .string ⟨#[]⟩, .slice none 0 0, .int .i64 A, .int .i64 B] 62)) := by
  refine ⟨?_, ?_, ?_, ?_, ?_⟩
  all_goals (rw [World.cell?_alloc_mark]; rfl)

theorem partOps : PartOp 32 ∧ PartOp 33 ∧ PartOp 34 ∧ PartOp 35 ∧ PartOp 36 := by
  refine ⟨?_, ?_, ?_, ?_, ?_⟩ <;> constructor <;> rfl

theorem sub_lt {ns : List Nat} {n : Nat} (h : ∀ m ∈ ns, m < n) (lo k : Nat) : ∀ m ∈ (ns.drop lo).take k, m < n := fun m hm => h m (List.mem_of_mem_drop (List.mem_of_mem_take hm))

set_option maxRecDepth 100000 in
set_option maxHeartbeats 8000000 in
theorem FnPositions_walk (ad : Option Addr) (len c : Nat) (t : List Nd) (a2 : Option Addr) (len2 c2 : Nat) (l : List Int) (x : Int) (w : World) (h : NSl w w.heap.size ad t ∧ len = t.length) (hi : ISl w w.heap.size a2 l ∧ len2 = l.length ∧ len2 ≤ c2) (hx : (Lit.int .i64 x).wf = true) :
    Calls Try.prog 14 #[.slice ad len c, .slice a2 len2 c2, .int .i64 x] w fun e w' => e = .returned (.bool true) ∧ Below w.heap.size w w' := by
  obtain ⟨h, rfl⟩ := h
  obtain ⟨hi, rfl, hc2⟩ := hi
  have HH := Lib.hid h
  have hll := hi.len
  have HI := Lib.hid hi
  have HX := Lib.hid (wf_bounds hx)
  unfold maxLen at hll
  clear h hi hx
  go_enter Try.func14, Try.ntmps14
  go_wp2_with fail
  refine (zzFits1_any _ _ t _ HH.out).mono ?_
  rintro e w1 ⟨rfl, hb1⟩
  have HB1 := Lib.hid hb1
  clear hb1
  cases hf : fits1 t
  · go_wp2_with fail
    go_ret
    exact ⟨rfl, HB1.out⟩
  · by_cases k1 : 2147483647 < l.length
    · go_wp2_with fail
      go_ret
      exact ⟨rfl, HB1.out⟩
    go_wp2_with fail
    refine (rising_any _ _ t hf _ _ l (by omega) hc2 _ (HH.out.up HB1.out) (HI.out.up HB1.out)).mono ?_
    rintro e w2 ⟨b, rfl, hS, hb2⟩
    have HB2 := Lib.hid (bnext HB1.out hb2)
    have HS0 := Lib.hid hS
    clear hb2 hS
    cases b
    · go_wp2_with fail
      go_ret
      exact ⟨rfl, HB2.out⟩
    by_cases x0 : x < 0
    · have d0 : decide (x < 0) = true := decide_eq_true x0
      go_wp2_with fail
      go_ret
      exact ⟨rfl, HB2.out⟩
    have d0 : decide (x < 0) = false := decide_eq_false x0
    by_cases x1 : (l.length : Int) ≤ x
    · have d1 : decide ((l.length : Int) ≤ x) = true := decide_eq_true x1
      clear x0
      go_wp2_with fail
      go_ret
      exact ⟨rfl, HB2.out⟩
    obtain ⟨k, rfl⟩ : ∃ k : Nat, x = (k : Int) := ⟨x.toNat, by omega⟩
    have hkl : k < l.length := by omega
    have d1 : decide (l.length ≤ k) = false := decide_eq_false (by omega)
    obtain ⟨ns, hS1⟩ := HS0.out (by trivial)
    have HR := Lib.hid hS1.right
    have HO := Lib.hid hS1.ord
    have hle := hS1.right.le
    have hln := hS1.ord.length
    have hln2 := hS1.ord.len
    have hns200 : ns.length ≤ 200 := by omega
    have hl200 : l.length ≤ 200 := by omega
    have hkn : k < ns.length := by omega
    have h0n : 0 < ns.length := by omega
    have hidx : ns.length - 1 < ns.length := by omega
    have hlt := hS1.ord.lt
    obtain ⟨ops32, ops33, ops34, ops35, ops36⟩ := partOps
    have HLE : Hid (l = toI ns) := hS1.ord.toI
    have HGF : Hid (∀ W bp, Below w.heap.size w W → PickAt 34 0 0 bp W → bp < W.heap.size → Calls Try.prog 59 #[.slice ad t.length c, .slice a2 l.length c2, .slice (some ⟨bp, 0, none⟩) 1 1] W (ListPost (toI (ns.take 1)) W)) :=
      fun W bp hW hp hl => goes7_any ad c t HR.out a2 c2 l ns HO.out (by omega) 34 0 0 ops34 bp (ns.take 1) (fun m hm => hlt m (List.mem_of_mem_take hm)) (by simp; omega) W (HH.out.up hW) (HI.out.up hW) hp hl (fun bl => parts_first hns200 _ _)
    have HGZ : Hid (∀ W bp, Below w.heap.size w W → PickAt 36 0 0 bp W → bp < W.heap.size → Calls Try.prog 59 #[.slice ad t.length c, .slice a2 l.length c2, .slice (some ⟨bp, 0, none⟩) 1 1] W (ListPost (toI ([ns[0]])) W)) :=
      fun W bp hW hp hl => goes7_any ad c t HR.out a2 c2 l ns HO.out (by omega) 36 0 0 ops36 bp ([ns[0]]) (by simpa using hlt _ (List.getElem_mem _)) (by simp) W (HH.out.up hW) (HI.out.up hW) hp hl (fun bl => parts_eq hns200 _ _ 0 h0n (.inl rfl))
    have HGL : Hid (∀ W bp, Below w.heap.size w W → PickAt 35 0 0 bp W → bp < W.heap.size → Calls Try.prog 59 #[.slice ad t.length c, .slice a2 l.length c2, .slice (some ⟨bp, 0, none⟩) 1 1] W (ListPost (toI (lastI ns)) W)) :=
      fun W bp hW hp hl => goes7_any ad c t HR.out a2 c2 l ns HO.out (by omega) 35 0 0 ops35 bp (lastI ns) (fun m hm => hlt m (List.mem_of_mem_drop hm)) (by simp [lastI]; omega) W (HH.out.up hW) (HI.out.up hW) hp hl (fun bl => parts_last hns200 _ _)
    have HGE : Hid (∀ W bp, Below w.heap.size w W → PickAt 36 (-1) 0 bp W → bp < W.heap.size → Calls Try.prog 59 #[.slice ad t.length c, .slice a2 l.length c2, .slice (some ⟨bp, 0, none⟩) 1 1] W (ListPost (toI ([ns[ns.length - 1]])) W)) :=
      fun W bp hW hp hl => goes7_any ad c t HR.out a2 c2 l ns HO.out (by omega) 36 (-1) 0 ops36 bp ([ns[ns.length - 1]]) (by simpa using hlt _ (List.getElem_mem _)) (by simp) W (HH.out.up hW) (HI.out.up hW) hp hl (fun bl => parts_eq hns200 _ _ (ns.length - 1) (by omega) (.inr ⟨by omega, by omega⟩))
    have HGQ : Hid (∀ W bp, Below w.heap.size w W → PickAt 36 (k : Int) 0 bp W → bp < W.heap.size → Calls Try.prog 59 #[.slice ad t.length c, .slice a2 l.length c2, .slice (some ⟨bp, 0, none⟩) 1 1] W (ListPost (toI ([ns[k]])) W)) :=
      fun W bp hW hp hl => goes7_any ad c t HR.out a2 c2 l ns HO.out (by omega) 36 (k : Int) 0 ops36 bp ([ns[k]]) (by simpa using hlt _ (List.getElem_mem _)) (by simp) W (HH.out.up hW) (HI.out.up hW) hp hl (fun bl => parts_eq hns200 _ _ k hkn (.inl rfl))
    have HGP : Hid (∀ W bp, Below w.heap.size w W → PickAt 32 (k : Int) ((k : Int) + 1) bp W → bp < W.heap.size → Calls Try.prog 59 #[.slice ad t.length c, .slice a2 l.length c2, .slice (some ⟨bp, 0, none⟩) 1 1] W (ListPost (toI ((ns.drop k).take (k + 1 - k))) W)) :=
      fun W bp hW hp hl => goes7_any ad c t HR.out a2 c2 l ns HO.out (by omega) 32 (k : Int) ((k : Int) + 1) ops32 bp ((ns.drop k).take (k + 1 - k)) (sub_lt hlt _ _) (by simp; omega) W (HH.out.up hW) (HI.out.up hW) hp hl (fun bl => parts_slice hns200 _ _ k (k + 1) (.inl rfl) (.inl (by omega)) (by omega) (by omega))
    have HGH : Hid (∀ W bp, Below w.heap.size w W → PickAt 32 0 (k : Int) bp W → bp < W.heap.size → Calls Try.prog 59 #[.slice ad t.length c, .slice a2 l.length c2, .slice (some ⟨bp, 0, none⟩) 1 1] W (ListPost (toI ((ns.drop 0).take (k - 0))) W)) :=
      fun W bp hW hp hl => goes7_any ad c t HR.out a2 c2 l ns HO.out (by omega) 32 0 (k : Int) ops32 bp ((ns.drop 0).take (k - 0)) (sub_lt hlt _ _) (by simp; omega) W (HH.out.up hW) (HI.out.up hW) hp hl (fun bl => parts_slice hns200 _ _ 0 k (.inl rfl) (.inl rfl) (by omega) (by omega))
    have HGT : Hid (∀ W bp, Below w.heap.size w W → PickAt 33 (k : Int) 0 bp W → bp < W.heap.size → Calls Try.prog 59 #[.slice ad t.length c, .slice a2 l.length c2, .slice (some ⟨bp, 0, none⟩) 1 1] W (ListPost (toI ((ns.drop k).take (ns.length - k))) W)) :=
      fun W bp hW hp hl => goes7_any ad c t HR.out a2 c2 l ns HO.out (by omega) 33 (k : Int) 0 ops33 bp ((ns.drop k).take (ns.length - k)) (sub_lt hlt _ _) (by simp; omega) W (HH.out.up hW) (HI.out.up hW) hp hl (fun bl => parts_toend hns200 _ _ k (.inl rfl) (by omega))
    have HFZ : Hid (ns.take 1 = [ns[0]]) := by rw [Hid]; cases ns with | nil => simp at h0n | cons x l => rfl
    have HLast : Hid (lastI ns = [ns[ns.length - 1]]) := by unfold lastI Hid; rw [List.drop_eq_getElem_cons (by omega), List.drop_eq_nil_of_le (by omega)]
    have HQP : Hid ((ns.drop k).take (k + 1 - k) = [ns[k]]) := one_at hkn
    have HHT : Hid (toI ((ns.drop 0).take (k - 0)) ++ toI ((ns.drop k).take (ns.length - k)) = toI ns) := by
      unfold toI Hid
      rw [← List.map_append]
      congr 1
      rw [List.drop_zero, Nat.sub_zero, show ns.length - k = (ns.drop k).length by rw [List.length_drop], List.take_length, List.take_append_drop]
    have HKl : Hid (toI [ns[k]] = [l[k]]) := by rw [Hid]; have := HLE.out; subst this; simp [toI]
    obtain ⟨NF, hNF⟩ : ∃ N, N = ns.take 1 := ⟨_, rfl⟩
    have HNF := Lib.hid hNF
    have hlF : NF.length ≤ 200 := by rw [hNF]; simp; omega
    rw [← hNF] at HGF
    obtain ⟨NZ, hNZ⟩ : ∃ N, N = [ns[0]] := ⟨_, rfl⟩
    have HNZ := Lib.hid hNZ
    have hlZ : NZ.length ≤ 200 := by rw [hNZ]; simp
    rw [← hNZ] at HGZ
    obtain ⟨NL, hNL⟩ : ∃ N, N = lastI ns := ⟨_, rfl⟩
    have HNL := Lib.hid hNL
    have hlL : NL.length ≤ 200 := by rw [hNL]; simp [lastI]; omega
    rw [← hNL] at HGL
    obtain ⟨NE, hNE⟩ : ∃ N, N = [ns[ns.length - 1]] := ⟨_, rfl⟩
    have HNE := Lib.hid hNE
    have hlE : NE.length ≤ 200 := by rw [hNE]; simp
    rw [← hNE] at HGE
    obtain ⟨NQ, hNQ⟩ : ∃ N, N = [ns[k]] := ⟨_, rfl⟩
    have HNQ := Lib.hid hNQ
    have hlQ : NQ.length ≤ 200 := by rw [hNQ]; simp
    rw [← hNQ] at HGQ
    obtain ⟨NP, hNP⟩ : ∃ N, N = (ns.drop k).take (k + 1 - k) := ⟨_, rfl⟩
    have HNP := Lib.hid hNP
    have hlP : NP.length ≤ 200 := by rw [hNP]; simp; omega
    rw [← hNP] at HGP
    obtain ⟨NH, hNH⟩ : ∃ N, N = (ns.drop 0).take (k - 0) := ⟨_, rfl⟩
    have HNH := Lib.hid hNH
    have hlH : NH.length ≤ 200 := by rw [hNH]; simp; omega
    rw [← hNH] at HGH
    obtain ⟨NT, hNT⟩ : ∃ N, N = (ns.drop k).take (ns.length - k) := ⟨_, rfl⟩
    have HNT := Lib.hid hNT
    have hlT : NT.length ≤ 200 := by rw [hNT]; simp; omega
    rw [← hNT] at HGT
    clear hS1 hln hln2 HS0 x0 x1 hlt hNF hNZ hNL hNE hNQ hNP hNH hNT
    obtain ⟨b, o, rfl, hbA, hcA⟩ := HI.out.at_ (by omega)
    go_wp2_with fail
    refine (by7_any 34 _).mono ?_
    rintro e yF ⟨rfl, hb⟩
    have HByF := Lib.hid (bnext HB2.out hb)
    clear hb
    go_wp2_with fail
    have hb : Below yF.heap.size yF (yF.alloc (.cells #[.int .i64 34, .string ⟨#[]⟩, .slice none 0 0, .int .i64 0, .int .i64 0] 62)) := (Below.refl _ _).alloc (Nat.le_refl _) _
    have HBaF := Lib.hid (bnext HByF.out hb)
    have HCF := Lib.hid (HGF.out _ yF.heap.size HBaF.out (pick_new yF 34 0 0) (by simp))
    clear hb
    refine HCF.out.mono ?_
    rintro e wF ⟨v, rfl, hown, hb⟩
    obtain ⟨avF, cvF, rfl, hr⟩ := hown.row
    rw [toI_length]
    have RF := Lib.hid hr
    have HBF := Lib.hid (bnext HBaF.out hb)
    clear hown hr hb
    go_wp2_with fail
    have hb : Below wF.heap.size wF (wF.alloc (.cells #[.int .i64 36, .string ⟨#[]⟩, .slice none 0 0, .int .i64 0, .int .i64 0] 62)) := (Below.refl _ _).alloc (Nat.le_refl _) _
    have HBaZ := Lib.hid (bnext HBF.out hb)
    have HCZ := Lib.hid (HGZ.out _ wF.heap.size HBaZ.out (pick_new wF 36 0 0) (by simp))
    have RF := Lib.hid (RF.out.up hb)
    clear hb
    refine HCZ.out.mono ?_
    rintro e wZ ⟨v, rfl, hown, hb⟩
    obtain ⟨avZ, cvZ, rfl, hr⟩ := hown.row
    rw [toI_length]
    have RZ := Lib.hid hr
    have HBZ := Lib.hid (bnext HBaZ.out hb)
    have RF := Lib.hid (RF.out.up hb)
    clear hown hr hb
    go_wp2_with fail
    refine (by7_any 35 _).mono ?_
    rintro e yL ⟨rfl, hb⟩
    have HByL := Lib.hid (bnext HBZ.out hb)
    have RF := Lib.hid (RF.out.up hb)
    have RZ := Lib.hid (RZ.out.up hb)
    clear hb
    go_wp2_with fail
    have hb : Below yL.heap.size yL (yL.alloc (.cells #[.int .i64 35, .string ⟨#[]⟩, .slice none 0 0, .int .i64 0, .int .i64 0] 62)) := (Below.refl _ _).alloc (Nat.le_refl _) _
    have HBaL := Lib.hid (bnext HByL.out hb)
    have HCL := Lib.hid (HGL.out _ yL.heap.size HBaL.out (pick_new yL 35 0 0) (by simp))
    have RF := Lib.hid (RF.out.up hb)
    have RZ := Lib.hid (RZ.out.up hb)
    clear hb
    refine HCL.out.mono ?_
    rintro e wL ⟨v, rfl, hown, hb⟩
    obtain ⟨avL, cvL, rfl, hr⟩ := hown.row
    rw [toI_length]
    have RL := Lib.hid hr
    have HBL := Lib.hid (bnext HBaL.out hb)
    have RF := Lib.hid (RF.out.up hb)
    have RZ := Lib.hid (RZ.out.up hb)
    clear hown hr hb
    go_wp2_with fail
    have hb : Below wL.heap.size wL (wL.alloc (.cells #[.int .i64 36, .string ⟨#[]⟩, .slice none 0 0, .int .i64 (-1), .int .i64 0] 62)) := (Below.refl _ _).alloc (Nat.le_refl _) _
    have HBaE := Lib.hid (bnext HBL.out hb)
    have HCE := Lib.hid (HGE.out _ wL.heap.size HBaE.out (pick_new wL 36 (-1) 0) (by simp))
    have RF := Lib.hid (RF.out.up hb)
    have RZ := Lib.hid (RZ.out.up hb)
    have RL := Lib.hid (RL.out.up hb)
    clear hb
    refine HCE.out.mono ?_
    rintro e wE ⟨v, rfl, hown, hb⟩
    obtain ⟨avE, cvE, rfl, hr⟩ := hown.row
    rw [toI_length]
    have RE := Lib.hid hr
    have HBE := Lib.hid (bnext HBaE.out hb)
    have RF := Lib.hid (RF.out.up hb)
    have RZ := Lib.hid (RZ.out.up hb)
    have RL := Lib.hid (RL.out.up hb)
    clear hown hr hb
    go_wp2_with fail
    have hb : Below wE.heap.size wE (wE.alloc (.cells #[.int .i64 36, .string ⟨#[]⟩, .slice none 0 0, .int .i64 (k : Int), .int .i64 0] 62)) := (Below.refl _ _).alloc (Nat.le_refl _) _
    have HBaQ := Lib.hid (bnext HBE.out hb)
    have HCQ := Lib.hid (HGQ.out _ wE.heap.size HBaQ.out (pick_new wE 36 (k : Int) 0) (by simp))
    have RF := Lib.hid (RF.out.up hb)
    have RZ := Lib.hid (RZ.out.up hb)
    have RL := Lib.hid (RL.out.up hb)
    have RE := Lib.hid (RE.out.up hb)
    clear hb
    refine HCQ.out.mono ?_
    rintro e wQ ⟨v, rfl, hown, hb⟩
    obtain ⟨avQ, cvQ, rfl, hr⟩ := hown.row
    rw [toI_length]
    have RQ := Lib.hid hr
    have HBQ := Lib.hid (bnext HBaQ.out hb)
    have RF := Lib.hid (RF.out.up hb)
    have RZ := Lib.hid (RZ.out.up hb)
    have RL := Lib.hid (RL.out.up hb)
    have RE := Lib.hid (RE.out.up hb)
    clear hown hr hb
    go_wp2_with fail
    have hb : Below wQ.heap.size wQ (wQ.alloc (.cells #[.int .i64 32, .string ⟨#[]⟩, .slice none 0 0, .int .i64 (k : Int), .int .i64 ((k : Int) + 1)] 62)) := (Below.refl _ _).alloc (Nat.le_refl _) _
    have HBaP := Lib.hid (bnext HBQ.out hb)
    have HCP := Lib.hid (HGP.out _ wQ.heap.size HBaP.out (pick_new wQ 32 (k : Int) ((k : Int) + 1)) (by simp))
    have RF := Lib.hid (RF.out.up hb)
    have RZ := Lib.hid (RZ.out.up hb)
    have RL := Lib.hid (RL.out.up hb)
    have RE := Lib.hid (RE.out.up hb)
    have RQ := Lib.hid (RQ.out.up hb)
    clear hb
    refine HCP.out.mono ?_
    rintro e wP ⟨v, rfl, hown, hb⟩
    obtain ⟨avP, cvP, rfl, hr⟩ := hown.row
    rw [toI_length]
    have RP := Lib.hid hr
    have HBP := Lib.hid (bnext HBaP.out hb)
    have RF := Lib.hid (RF.out.up hb)
    have RZ := Lib.hid (RZ.out.up hb)
    have RL := Lib.hid (RL.out.up hb)
    have RE := Lib.hid (RE.out.up hb)
    have RQ := Lib.hid (RQ.out.up hb)
    clear hown hr hb
    go_wp2_with fail
    have hb : Below wP.heap.size wP (wP.alloc (.cells #[.int .i64 32, .string ⟨#[]⟩, .slice none 0 0, .int .i64 0, .int .i64 (k : Int)] 62)) := (Below.refl _ _).alloc (Nat.le_refl _) _
    have HBaH := Lib.hid (bnext HBP.out hb)
    have HCH := Lib.hid (HGH.out _ wP.heap.size HBaH.out (pick_new wP 32 0 (k : Int)) (by simp))
    have RF := Lib.hid (RF.out.up hb)
    have RZ := Lib.hid (RZ.out.up hb)
    have RL := Lib.hid (RL.out.up hb)
    have RE := Lib.hid (RE.out.up hb)
    have RQ := Lib.hid (RQ.out.up hb)
    have RP := Lib.hid (RP.out.up hb)
    clear hb
    refine HCH.out.mono ?_
    rintro e wH ⟨v, rfl, hown, hb⟩
    obtain ⟨avH, cvH, rfl, hr⟩ := hown.row
    rw [toI_length]
    have RH := Lib.hid hr
    have HBH := Lib.hid (bnext HBaH.out hb)
    have RF := Lib.hid (RF.out.up hb)
    have RZ := Lib.hid (RZ.out.up hb)
    have RL := Lib.hid (RL.out.up hb)
    have RE := Lib.hid (RE.out.up hb)
    have RQ := Lib.hid (RQ.out.up hb)
    have RP := Lib.hid (RP.out.up hb)
    clear hown hr hb
    go_wp2_with fail
    have hb : Below wH.heap.size wH (wH.alloc (.cells #[.int .i64 33, .string ⟨#[]⟩, .slice none 0 0, .int .i64 (k : Int), .int .i64 0] 62)) := (Below.refl _ _).alloc (Nat.le_refl _) _
    have HBaT := Lib.hid (bnext HBH.out hb)
    have HCT := Lib.hid (HGT.out _ wH.heap.size HBaT.out (pick_new wH 33 (k : Int) 0) (by simp))
    have RF := Lib.hid (RF.out.up hb)
    have RZ := Lib.hid (RZ.out.up hb)
    have RL := Lib.hid (RL.out.up hb)
    have RE := Lib.hid (RE.out.up hb)
    have RQ := Lib.hid (RQ.out.up hb)
    have RP := Lib.hid (RP.out.up hb)
    have RH := Lib.hid (RH.out.up hb)
    clear hb
    refine HCT.out.mono ?_
    rintro e wT ⟨v, rfl, hown, hb⟩
    obtain ⟨avT, cvT, rfl, hr⟩ := hown.row
    rw [toI_length]
    have RT := Lib.hid hr
    have HBT := Lib.hid (bnext HBaT.out hb)
    have RF := Lib.hid (RF.out.up hb)
    have RZ := Lib.hid (RZ.out.up hb)
    have RL := Lib.hid (RL.out.up hb)
    have RE := Lib.hid (RE.out.up hb)
    have RQ := Lib.hid (RQ.out.up hb)
    have RP := Lib.hid (RP.out.up hb)
    have RH := Lib.hid (RH.out.up hb)
    clear hown hr hb
    have HSm0 := Lib.hid (sameList_any avF cvF (toI NF) avZ cvZ (toI NZ) (by rw [toI_length]; omega) (by rw [toI_length]; omega) _ RF.out RZ.out)
    rw [toI_length, toI_length, decide_eq_true (show toI NF = toI NZ from by rw [HNF.out, HNZ.out, HFZ.out])] at HSm0
    go_wp2_with fail
    refine HSm0.out.mono ?_
    rintro e z0 ⟨q, rfl, hz⟩
    have hb : Below wT.heap.size wT z0 := by rw [hz]; exact below_drewN (Below.refl _ _) q
    have HBz0 := Lib.hid (bnext HBT.out hb)
    have RF := Lib.hid (RF.out.up hb)
    have RZ := Lib.hid (RZ.out.up hb)
    have RL := Lib.hid (RL.out.up hb)
    have RE := Lib.hid (RE.out.up hb)
    have RQ := Lib.hid (RQ.out.up hb)
    have RP := Lib.hid (RP.out.up hb)
    have RH := Lib.hid (RH.out.up hb)
    have RT := Lib.hid (RT.out.up hb)
    clear hb hz
    have HSm1 := Lib.hid (sameList_any avL cvL (toI NL) avE cvE (toI NE) (by rw [toI_length]; omega) (by rw [toI_length]; omega) _ RL.out RE.out)
    rw [toI_length, toI_length, decide_eq_true (show toI NL = toI NE from by rw [HNL.out, HNE.out, HLast.out])] at HSm1
    go_wp2_with fail
    refine HSm1.out.mono ?_
    rintro e z1 ⟨q, rfl, hz⟩
    have hb : Below z0.heap.size z0 z1 := by rw [hz]; exact below_drewN (Below.refl _ _) q
    have HBz1 := Lib.hid (bnext HBz0.out hb)
    have RF := Lib.hid (RF.out.up hb)
    have RZ := Lib.hid (RZ.out.up hb)
    have RL := Lib.hid (RL.out.up hb)
    have RE := Lib.hid (RE.out.up hb)
    have RQ := Lib.hid (RQ.out.up hb)
    have RP := Lib.hid (RP.out.up hb)
    have RH := Lib.hid (RH.out.up hb)
    have RT := Lib.hid (RT.out.up hb)
    clear hb hz
    have HSm2 := Lib.hid (sameList_any avQ cvQ (toI NQ) avP cvP (toI NP) (by rw [toI_length]; omega) (by rw [toI_length]; omega) _ RQ.out RP.out)
    rw [toI_length, toI_length, decide_eq_true (show toI NQ = toI NP from by rw [HNQ.out, HNP.out, HQP.out])] at HSm2
    go_wp2_with fail
    refine HSm2.out.mono ?_
    rintro e z2 ⟨q, rfl, hz⟩
    have hb : Below z1.heap.size z1 z2 := by rw [hz]; exact below_drewN (Below.refl _ _) q
    have HBz2 := Lib.hid (bnext HBz1.out hb)
    have RF := Lib.hid (RF.out.up hb)
    have RZ := Lib.hid (RZ.out.up hb)
    have RL := Lib.hid (RL.out.up hb)
    have RE := Lib.hid (RE.out.up hb)
    have RQ := Lib.hid (RQ.out.up hb)
    have RP := Lib.hid (RP.out.up hb)
    have RH := Lib.hid (RH.out.up hb)
    have RT := Lib.hid (RT.out.up hb)
    clear hb hz
    have hsub : RSl z2 z2.heap.size (some ⟨b, o + k, none⟩) (ivs [l[k]]) := by
      refine .inr ⟨b, o + k, rfl, by have := HBz2.out.size; omega, fun i hi => ?_⟩
      have : i = 0 := by simp [ivs] at hi; omega
      subst this
      rw [Nat.add_zero]
      exact (HBz2.out.cell (p := ⟨b, o + k, none⟩) hbA).trans (hcA k hkl)
    have HSm3 := Lib.hid (sameList_any avQ cvQ (toI NQ) (some ⟨b, o + k, none⟩) (c2 - k) [l[k]] (by rw [toI_length]; omega) (by simp) _ RQ.out hsub)
    rw [toI_length, decide_eq_true (show toI NQ = [l[k]] from by rw [HNQ.out]; exact HKl.out)] at HSm3
    have hkc : k < c2 := by omega
    have HcA := Lib.hid hcA
    clear hsub hcA
    go_wp2_with fail
    refine HSm3.out.mono ?_
    rintro e z3 ⟨q, rfl, hz⟩
    have hb : Below z2.heap.size z2 z3 := by rw [hz]; exact below_drewN (Below.refl _ _) q
    have HBz3 := Lib.hid (bnext HBz2.out hb)
    have RH := Lib.hid (RH.out.up hb)
    have RT := Lib.hid (RT.out.up hb)
    clear hb hz
    have HE := Lib.hid (own_empty0 z3 3)
    have hbe : Below z3.heap.size z3 (z3.alloc (.cells #[] 3)) := (Below.refl _ _).alloc (Nat.le_refl _) _
    have RH' := Lib.hid (RH.out.up hbe)
    clear hbe
    have HHT2 : Hid (toI ns = toI NH ++ toI NT) := by rw [Hid, HNH.out, HNT.out]; exact HHT.out.symm
    obtain ⟨Zs, hZs⟩ : ∃ Z, Z = toI ns := ⟨_, rfl⟩
    rw [← hZs] at HHT2
    have HZs : Hid (Zs = l) := by rw [Hid, hZs, ← HLE.out]
    have hzl : Zs.length ≤ 200 := by rw [hZs, toI_length]; omega
    clear hZs
    rw [← toI_length NH, ← toI_length NT]
    go_wp2_with (refine wpList_append_ints_z _ rfl (.tmp 162) (.tmp 163) rfl z3.heap.size (.slice (some ⟨z3.heap.size, 0, none⟩) 0 0) [] rfl HE.out avH cvH (toI NH) rfl RH'.out (by rw [toI_length]; simp; omega) (by simp) (toI NH) rfl ?_)
    intro p1 q1 w11 hown hg
    have hb11 : Below z3.heap.size z3 w11 := ((Below.refl _ _).alloc (Nat.le_refl _) _).grown hg (by simp) (fun q hq => by have := (HE.out.lt q hq).1; exact this)
    have HO1 := Lib.hid hown
    have HBx := Lib.hid hb11
    have hs11 := hb11.size
    have RT' := Lib.hid (RT.out.up hb11)
    clear hown hg hb11
    go_wp2_with (refine wpList_append_ints_z _ rfl (.tmp 164) (.tmp 165) rfl z3.heap.size (.slice p1 (toI NH).length q1) (toI NH) rfl HO1.out avT cvT (toI NT) rfl RT'.out (by rw [toI_length, toI_length]; omega) hs11 Zs HHT2.out ?_)
    intro p2 q2 w12 hown hg
    have hb12 : Below z3.heap.size z3 w12 := HBx.out.grown hg hs11 (fun q hq => by have := (HO1.out.lt q hq).1; exact this)
    have hrow : RSl w12 w12.heap.size p2 (ivs Zs) := by
      obtain ⟨a3, c3, hv, _, hrs⟩ := RSl.own hown
      cases hv
      exact hrs
    have HB12 := Lib.hid (bnext HBz3.out hb12)
    have HSm4 := Lib.hid (sameList_any p2 q2 Zs (some ⟨b, o, none⟩) c2 l (by omega) (by omega) _ hrow (HI.out.up HB12.out).row)
    rw [decide_eq_true HZs.out] at HSm4
    clear hown hg hb12 hrow
    go_wp2_with fail
    refine HSm4.out.mono ?_
    rintro e w13 ⟨q, rfl, hz⟩
    have HB13 : Hid (Below w.heap.size w w13) := by rw [Hid, hz]; exact below_drewN HB12.out q
    clear hz
    go_wp2_with fail
    go_ret
    exact ⟨rfl, HB13.out⟩
end Go.Proofs.Ytgilbckfkngaiaa
