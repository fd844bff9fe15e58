/- One step that takes a part of a selection: Eq, First, Last; part, kin, bySet; Walked, goes7. -/
import Derived.Test.YtgilbckfkngaiaaGreatT128
namespace Go.Proofs.YtgilbckfkngaiaaGreat
open Go.RowKit
set_option linter.unusedVariables false

/-- A selection in memory, as far as its parts ask. -/
structure SelR (bl : Nat → Nat) (ns : List Nat) (g : Nat) (w : World) : Prop where
  ex : ∃ a c doc prev, SelB w g a ns.length c doc prev ∧ ns.length ≤ c ∧ c ≤ maxLen ∧ RSl w w.heap.size a (ptrs bl ns)

theorem SelR.up {bl : Nat → Nat} {ns : List Nat} {g : Nat} {w w' : World} (h : SelR bl ns g w) (hb : Below w.heap.size w w') : SelR bl ns g w' := by
  obtain ⟨a, c, doc, prev, h1, h2, h3, h4⟩ := h.ex
  exact ⟨a, c, doc, prev, h1.below hb h1.lt, h2, h3, h4.up hb⟩
theorem SelOf.selR {bl : Nat → Nat} {ns : List Nat} {B g : Nat} {doc : Option Addr} {w : World} (h : SelOf bl ns B g doc w) : SelR bl ns g w := by
  obtain ⟨a, c, prev, hs, _, hown, _⟩ := h
  obtain ⟨a1, c1, hv, _, hrs⟩ := RSl.own hown
  cases hv
  refine ⟨a, c, doc, prev, hs, ?_, ?_, hrs⟩
  · rcases hown.2 with ⟨hv, hn⟩ | ⟨g, cap, cur, hv, _, _, hc, _⟩
    · omega
    · simp only [Value.slice.injEq] at hv; omega
  · rcases hown.2 with ⟨hv, hn⟩ | ⟨g, cap, cur, hv, _, _, _, hm, _⟩
    · simp only [Value.slice.injEq] at hv; unfold maxLen; omega
    · simp only [Value.slice.injEq] at hv; omega

theorem one_at {ns : List Nat} {k : Nat} (h : k < ns.length) : (ns.drop k).take (k + 1 - k) = [ns[k]] := by
  rw [show k + 1 - k = 1 by omega, List.drop_eq_getElem_cons h]; rfl

set_option maxRecDepth 100000 in
set_option maxHeartbeats 2000000 in
theorem eq_in (bl : Nat → Nat) (ns : List Nat) (hlen : ns.length ≤ 200) (g : Nat) (w : World) (hs : SelR bl ns g w) (k : Nat) (hk : k < ns.length) (A : Int) (hA : A = k ∨ (A < 0 ∧ A + (ns.length : Int) = k)) :
    Calls Tryz.prog 70 #[.pointer (some ⟨g, 0, none⟩), .int .i64 A] w (PartPost bl [ns[k]] w) := by
  obtain ⟨a, c, doc, prev, h1, h2, h3, h4⟩ := hs.ex
  have hsl := slice_ff bl ns hlen g a c doc prev w h1 ⟨h2, h3⟩ h4 k (k + 1) (by omega) (by omega)
  rw [one_at hk] at hsl
  have e1 : ((k + 1 : Nat) : Int) = (k : Int) + 1 := by omega
  rw [e1] at hsl
  have HSl := Lib.hid hsl
  obtain ⟨c0, c1, c2⟩ := h1.cells
  obtain ⟨x, hx⟩ : ∃ x, x = ns[k] := ⟨_, rfl⟩
  rw [← hx] at HSl ⊢
  have n1 : decide (k < ns.length) = true := decide_eq_true hk
  have n2 : ¬ ns.length ≤ k := by omega
  have n3 : decide (ns.length ≤ k) = false := decide_eq_false n2
  clear hs h1 h2 h3 h4 hsl hx e1
  rcases hA with rfl | ⟨hA, hA2⟩
  · go_enter Tryz.func70, Tryz.ntmps70
    go_wp2_with fail
    refine HSl.out.mono ?_
    rintro e w1 ⟨g2, a5, c5, doc2, prev2, rfl, hs2, hr2, hb2⟩
    have HS2 := Lib.hid hs2
    have HR2 := Lib.hid hr2
    have HB2 := Lib.hid hb2
    clear hs2 hr2 hb2
    go_wp2_with fail
    go_ret
    exact part_mk HS2.out rfl HR2.out HB2.out rfl
  · have hA3 : -200 ≤ A := by omega
    go_enter Tryz.func70, Tryz.ntmps70
    go_wp2_with fail
    refine HSl.out.mono ?_
    rintro e w1 ⟨g2, a5, c5, doc2, prev2, rfl, hs2, hr2, hb2⟩
    have HS2 := Lib.hid hs2
    have HR2 := Lib.hid hr2
    have HB2 := Lib.hid hb2
    clear hs2 hr2 hb2
    go_wp2_with fail
    go_ret
    exact part_mk HS2.out rfl HR2.out HB2.out rfl

set_option maxRecDepth 100000 in
theorem newEmpty_any (doc : Option Addr) (w : World) : Calls Tryz.prog 78 #[.pointer doc] w fun e w' => e = .returned (.pointer (some ⟨w.heap.size, 0, none⟩)) ∧ SelB w' w.heap.size none 0 0 doc none ∧ Below w.heap.size w w' := by
  go_enter Tryz.func78, Tryz.ntmps78
  go_wp2_with fail
  go_ret
  exact ⟨rfl, heap_alloc_new w _, (Below.refl _ _).alloc (Nat.le_refl _) _⟩

set_option maxRecDepth 100000 in
set_option maxHeartbeats 2000000 in
theorem eq_out (bl : Nat → Nat) (ns : List Nat) (hlen : ns.length ≤ 200) (g : Nat) (w : World) (hs : SelR bl ns g w) (A : Int) (hA : (ns.length : Int) ≤ A ∨ (A < 0 ∧ -9223372036854775808 ≤ A ∧ A + (ns.length : Int) < 0)) :
    Calls Tryz.prog 70 #[.pointer (some ⟨g, 0, none⟩), .int .i64 A] w (PartPost bl [] w) := by
  obtain ⟨a, c, doc, prev, h1, h2, h3, h4⟩ := hs.ex
  obtain ⟨c0, c1, c2⟩ := h1.cells
  have HE := Lib.hid (newEmpty_any doc w)
  clear hs h1 h2 h3 h4
  rcases hA with hA | ⟨hA, hA3, hA2⟩
  · have h0 : 0 ≤ A := by omega
    go_enter Tryz.func70, Tryz.ntmps70
    go_wp2_with fail
    refine HE.out.mono ?_
    rintro e w1 ⟨rfl, hs2, hb2⟩
    have HS2 := Lib.hid hs2
    have HB2 := Lib.hid hb2
    clear hs2 hb2
    go_wp2_with fail
    go_ret
    exact part_mk HS2.out rfl (.inl rfl) HB2.out rfl
  · have hn : ¬ (ns.length : Int) ≤ A + (ns.length : Int) := by omega
    go_enter Tryz.func70, Tryz.ntmps70
    go_wp2_with fail
    refine HE.out.mono ?_
    rintro e w1 ⟨rfl, hs2, hb2⟩
    have HS2 := Lib.hid hs2
    have HB2 := Lib.hid hb2
    clear hs2 hb2
    go_wp2_with fail
    go_ret
    exact part_mk HS2.out rfl (.inl rfl) HB2.out rfl

/-- First, and Last: by Eq. -/
def lastI (ns : List Nat) : List Nat := ns.drop (ns.length - 1)
set_option maxRecDepth 100000 in
theorem first_any (bl : Nat → Nat) (ns : List Nat) (hlen : ns.length ≤ 200) (g : Nat) (w : World) (hs : SelR bl ns g w) :
    Calls Tryz.prog 88 #[.pointer (some ⟨g, 0, none⟩)] w (PartPost bl (ns.take 1) w) := by
  have HE : Hid (Calls Tryz.prog 70 #[.pointer (some ⟨g, 0, none⟩), .int .i64 0] w (PartPost bl (ns.take 1) w)) := by
    by_cases h : 0 < ns.length
    · have := eq_in bl ns hlen g w hs 0 h 0 (.inl rfl)
      rw [show [ns[0]] = ns.take 1 from by cases ns with | nil => simp at h | cons x l => rfl] at this
      exact this
    · have := eq_out bl ns hlen g w hs 0 (.inl (by omega))
      rw [show ns.take 1 = [] from by cases ns with | nil => rfl | cons x l => simp at h]
      exact this
  clear hs
  go_enter Tryz.func88, Tryz.ntmps88
  go_wp2_with fail
  refine HE.out.mono ?_
  rintro e w1 ⟨g2, a5, c5, doc2, prev2, rfl, hs2, hr2, hb2⟩
  have HS2 := Lib.hid hs2
  have HR2 := Lib.hid hr2
  have HB2 := Lib.hid hb2
  clear hs2 hr2 hb2
  go_wp2_with fail
  go_ret
  exact part_mk HS2.out rfl HR2.out HB2.out rfl
set_option maxRecDepth 100000 in
theorem last_any (bl : Nat → Nat) (ns : List Nat) (hlen : ns.length ≤ 200) (g : Nat) (w : World) (hs : SelR bl ns g w) :
    Calls Tryz.prog 89 #[.pointer (some ⟨g, 0, none⟩)] w (PartPost bl (lastI ns) w) := by
  have HE : Hid (Calls Tryz.prog 70 #[.pointer (some ⟨g, 0, none⟩), .int .i64 (-1)] w (PartPost bl (lastI ns) w)) := by
    unfold lastI
    by_cases h : 0 < ns.length
    · have := eq_in bl ns hlen g w hs (ns.length - 1) (by omega) (-1) (.inr ⟨by omega, by omega⟩)
      rw [show [ns[ns.length - 1]] = ns.drop (ns.length - 1) from by rw [List.drop_eq_getElem_cons (by omega), List.drop_eq_nil_of_le (by omega)]] at this
      exact this
    · have := eq_out bl ns hlen g w hs (-1) (.inr ⟨by omega, by omega, by omega⟩)
      rw [show ns.drop (ns.length - 1) = [] from by cases ns with | nil => rfl | cons x l => simp at h]
      exact this
  clear hs
  go_enter Tryz.func89, Tryz.ntmps89
  go_wp2_with fail
  refine HE.out.mono ?_
  rintro e w1 ⟨g2, a5, c5, doc2, prev2, rfl, hs2, hr2, hb2⟩
  have HS2 := Lib.hid hs2
  have HR2 := Lib.hid hr2
  have HB2 := Lib.hid hb2
  clear hs2 hr2 hb2
  go_wp2_with fail
  go_ret
  exact part_mk HS2.out rfl HR2.out HB2.out rfl

/-- What part does with a selection, in whatever later world. -/
def Parts (bl : Nat → Nat) (N : List Nat) (g : Nat) (op A B : Int) (w : World) : Prop := ∀ W, Below w.heap.size w W → Calls Tryz.prog 64 #[.pointer (some ⟨g, 0, none⟩), .agg #[.int .i64 op, .string ⟨#[]⟩, .slice none 0 0, .int .i64 A, .int .i64 B]] W (PartPost bl N W)

set_option maxRecDepth 100000 in
set_option maxHeartbeats 2000000 in
theorem part_32 (bl : Nat → Nat) (N : List Nat) (g : Nat) (A B : Int) (w : World) (h : ∀ W, Below w.heap.size w W → Calls Tryz.prog 87 #[.pointer (some ⟨g, 0, none⟩), .int .i64 A, .int .i64 B] W (PartPost bl N W)) : Parts bl N g 32 A B w := by
  intro W hW
  have hb0 : Below W.heap.size W (W.alloc (.cells #[.int .i64 32, .string ⟨#[]⟩, .slice none 0 0, .int .i64 A, .int .i64 B] 27)) := (Below.refl _ _).alloc (Nat.le_refl _) _
  have HB0 := Lib.hid hb0
  have HC := Lib.hid (h _ (bnext hW hb0))
  clear h hW hb0
  go_enter Tryz.func64, Tryz.ntmps64
  go_wp2_with fail
  refine HC.out.mono ?_
  rintro e w1 ⟨g2, a5, c5, doc2, prev2, rfl, hs2, hr2, hb2⟩
  have HS2 := Lib.hid hs2
  have HR2 := Lib.hid hr2
  have HB2 := Lib.hid (bnext HB0.out hb2)
  clear hs2 hr2 hb2
  go_wp2_with fail
  go_ret
  exact part_mk HS2.out rfl HR2.out HB2.out rfl

set_option maxRecDepth 100000 in
set_option maxHeartbeats 2000000 in
theorem part_33 (bl : Nat → Nat) (N : List Nat) (g : Nat) (A B : Int) (w : World) (h : ∀ W, Below w.heap.size w W → Calls Tryz.prog 87 #[.pointer (some ⟨g, 0, none⟩), .int .i64 A, .int .i64 9223372036854775807] W (PartPost bl N W)) : Parts bl N g 33 A B w := by
  intro W hW
  have hb0 : Below W.heap.size W (W.alloc (.cells #[.int .i64 33, .string ⟨#[]⟩, .slice none 0 0, .int .i64 A, .int .i64 B] 27)) := (Below.refl _ _).alloc (Nat.le_refl _) _
  have HB0 := Lib.hid hb0
  have HC := Lib.hid (h _ (bnext hW hb0))
  clear h hW hb0
  go_enter Tryz.func64, Tryz.ntmps64
  go_wp2_with fail
  refine HC.out.mono ?_
  rintro e w1 ⟨g2, a5, c5, doc2, prev2, rfl, hs2, hr2, hb2⟩
  have HS2 := Lib.hid hs2
  have HR2 := Lib.hid hr2
  have HB2 := Lib.hid (bnext HB0.out hb2)
  clear hs2 hr2 hb2
  go_wp2_with fail
  go_ret
  exact part_mk HS2.out rfl HR2.out HB2.out rfl

set_option maxRecDepth 100000 in
set_option maxHeartbeats 2000000 in
theorem part_34 (bl : Nat → Nat) (N : List Nat) (g : Nat) (A B : Int) (w : World) (h : ∀ W, Below w.heap.size w W → Calls Tryz.prog 88 #[.pointer (some ⟨g, 0, none⟩)] W (PartPost bl N W)) : Parts bl N g 34 A B w := by
  intro W hW
  have hb0 : Below W.heap.size W (W.alloc (.cells #[.int .i64 34, .string ⟨#[]⟩, .slice none 0 0, .int .i64 A, .int .i64 B] 27)) := (Below.refl _ _).alloc (Nat.le_refl _) _
  have HB0 := Lib.hid hb0
  have HC := Lib.hid (h _ (bnext hW hb0))
  clear h hW hb0
  go_enter Tryz.func64, Tryz.ntmps64
  go_wp2_with fail
  refine HC.out.mono ?_
  rintro e w1 ⟨g2, a5, c5, doc2, prev2, rfl, hs2, hr2, hb2⟩
  have HS2 := Lib.hid hs2
  have HR2 := Lib.hid hr2
  have HB2 := Lib.hid (bnext HB0.out hb2)
  clear hs2 hr2 hb2
  go_wp2_with fail
  go_ret
  exact part_mk HS2.out rfl HR2.out HB2.out rfl

set_option maxRecDepth 100000 in
set_option maxHeartbeats 2000000 in
theorem part_35 (bl : Nat → Nat) (N : List Nat) (g : Nat) (A B : Int) (w : World) (h : ∀ W, Below w.heap.size w W → Calls Tryz.prog 89 #[.pointer (some ⟨g, 0, none⟩)] W (PartPost bl N W)) : Parts bl N g 35 A B w := by
  intro W hW
  have hb0 : Below W.heap.size W (W.alloc (.cells #[.int .i64 35, .string ⟨#[]⟩, .slice none 0 0, .int .i64 A, .int .i64 B] 27)) := (Below.refl _ _).alloc (Nat.le_refl _) _
  have HB0 := Lib.hid hb0
  have HC := Lib.hid (h _ (bnext hW hb0))
  clear h hW hb0
  go_enter Tryz.func64, Tryz.ntmps64
  go_wp2_with fail
  refine HC.out.mono ?_
  rintro e w1 ⟨g2, a5, c5, doc2, prev2, rfl, hs2, hr2, hb2⟩
  have HS2 := Lib.hid hs2
  have HR2 := Lib.hid hr2
  have HB2 := Lib.hid (bnext HB0.out hb2)
  clear hs2 hr2 hb2
  go_wp2_with fail
  go_ret
  exact part_mk HS2.out rfl HR2.out HB2.out rfl

set_option maxRecDepth 100000 in
set_option maxHeartbeats 2000000 in
theorem part_36 (bl : Nat → Nat) (N : List Nat) (g : Nat) (A B : Int) (w : World) (h : ∀ W, Below w.heap.size w W → Calls Tryz.prog 70 #[.pointer (some ⟨g, 0, none⟩), .int .i64 A] W (PartPost bl N W)) : Parts bl N g 36 A B w := by
  intro W hW
  have hb0 : Below W.heap.size W (W.alloc (.cells #[.int .i64 36, .string ⟨#[]⟩, .slice none 0 0, .int .i64 A, .int .i64 B] 27)) := (Below.refl _ _).alloc (Nat.le_refl _) _
  have HB0 := Lib.hid hb0
  have HC := Lib.hid (h _ (bnext hW hb0))
  clear h hW hb0
  go_enter Tryz.func64, Tryz.ntmps64
  go_wp2_with fail
  refine HC.out.mono ?_
  rintro e w1 ⟨g2, a5, c5, doc2, prev2, rfl, hs2, hr2, hb2⟩
  have HS2 := Lib.hid hs2
  have HR2 := Lib.hid hr2
  have HB2 := Lib.hid (bnext HB0.out hb2)
  clear hs2 hr2 hb2
  go_wp2_with fail
  go_ret
  exact part_mk HS2.out rfl HR2.out HB2.out rfl

/-- A step that is none of those of bySet and kin. -/
structure PartOp (op : Int) : Prop where
  z2 : (op == 2) = false
  z4 : (op == 4) = false
  z6 : (op == 6) = false
  z8 : (op == 8) = false
  z10 : (op == 10) = false
  z11 : (op == 11) = false
  z24 : (op == 24) = false
  z27 : (op == 27) = false
  z30 : (op == 30) = false
  z37 : (op == 37) = false
  z38 : (op == 38) = false
  z39 : (op == 39) = false
  z40 : (op == 40) = false
  z20 : (op == 20) = false
  z21 : (op == 21) = false
  z22 : (op == 22) = false
  z23 : (op == 23) = false
  z25 : (op == 25) = false
  z26 : (op == 26) = false
  z28 : (op == 28) = false
  z29 : (op == 29) = false
  z31 : (op == 31) = false

set_option maxRecDepth 100000 in
set_option maxHeartbeats 4000000 in
theorem bySet_nil (g : Nat) (op A B : Int) (hop : PartOp op) (a : Option Addr) (n c : Nat) (w : World) :
    Calls Tryz.prog 31 #[.pointer (some ⟨g, 0, none⟩), .agg #[.int .i64 op, .string ⟨#[]⟩, .slice none 0 0, .int .i64 A, .int .i64 B], .slice a n c] w fun e w' => e = .returned (.pointer none) ∧ Below w.heap.size w w' := by
  obtain ⟨p2, p4, p6, p8, p10, p11, p24, p27, p30, p37, p38, p39, p40, p20, p21, p22, p23, p25, p26, p28, p29, p31⟩ := hop
  go_enter Tryz.func31, Tryz.ntmps31
  go_wp2_with fail
  go_ret
  exact ⟨rfl, (Below.refl _ _).alloc (Nat.le_refl _) _⟩

set_option maxRecDepth 100000 in
set_option maxHeartbeats 4000000 in
theorem kin_part (bl : Nat → Nat) (N : List Nat) (g : Nat) (op A B : Int) (hop : PartOp op) (w : World) (h : Parts bl N g op A B w) (W : World) (hW : Below w.heap.size w W) :
    Calls Tryz.prog 32 #[.pointer (some ⟨g, 0, none⟩), .agg #[.int .i64 op, .string ⟨#[]⟩, .slice none 0 0, .int .i64 A, .int .i64 B]] W (PartPost bl N W) := by
  obtain ⟨p2, p4, p6, p8, p10, p11, p24, p27, p30, p37, p38, p39, p40, p20, p21, p22, p23, p25, p26, p28, p29, p31⟩ := hop
  have hb0 : Below W.heap.size W (W.alloc (.cells #[.int .i64 op, .string ⟨#[]⟩, .slice none 0 0, .int .i64 A, .int .i64 B] 27)) := (Below.refl _ _).alloc (Nat.le_refl _) _
  have HB0 := Lib.hid hb0
  have HC := Lib.hid (h _ (bnext hW hb0))
  clear h hW hb0
  go_enter Tryz.func32, Tryz.ntmps32
  go_wp2_with fail
  refine HC.out.mono ?_
  rintro e w1 ⟨g2, a5, c5, doc2, prev2, rfl, hs2, hr2, hb2⟩
  have HS2 := Lib.hid hs2
  have HR2 := Lib.hid hr2
  have HB2 := Lib.hid (bnext HB0.out hb2)
  clear hs2 hr2 hb2
  go_wp2_with fail
  go_ret
  exact part_mk HS2.out rfl HR2.out HB2.out rfl
end Go.Proofs.YtgilbckfkngaiaaGreat
