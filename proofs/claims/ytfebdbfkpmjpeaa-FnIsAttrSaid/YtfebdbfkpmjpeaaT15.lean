/- One simple selector, asked of one node: the reference's way to its answer. -/
import Derived.Test.YtfebdbfkpmjpeaaT14
namespace Go.Proofs.Ytfebdbfkpmjpeaa
open Go.RowKit
set_option linter.unusedVariables false

/-- A selector's node, as data. -/
structure Sl where
  kind : Int
  op : Int
  key : ByteArray
  val : ByteArray
  a : Int
  b : Int
  flag : Int
  size : Int

def Sl.agg (x : Sl) : Array Value := #[.int .i64 x.kind, .int .i64 x.op, .string x.key, .string x.val, .int .i64 x.a, .int .i64 x.b, .int .i64 x.flag, .int .i64 x.size]

/-- A list of one selector lies at block g. -/
def SelAt (w : World) (g : Nat) (x : Sl) : Prop := w.heap[g]? = some (.cells x.agg 27 (0, 0))

theorem SelAt.cells {w : World} {g : Nat} {x : Sl} (h : SelAt w g x) : w.cell? ⟨g, 0, none⟩ = some (.int .i64 x.kind) ∧ w.cell? ⟨g, 1, none⟩ = some (.int .i64 x.op) ∧ w.cell? ⟨g, 2, none⟩ = some (.string x.key) ∧ w.cell? ⟨g, 3, none⟩ = some (.string x.val) ∧
    w.cell? ⟨g, 4, none⟩ = some (.int .i64 x.a) ∧ w.cell? ⟨g, 5, none⟩ = some (.int .i64 x.b) ∧ w.cell? ⟨g, 6, none⟩ = some (.int .i64 x.flag) ∧ w.cell? ⟨g, 7, none⟩ = some (.int .i64 x.size) := by
  refine ⟨?_, ?_, ?_, ?_, ?_, ?_, ?_, ?_⟩
  all_goals (rw [cell_of_row w g _ _ _ _ h]; rfl)

set_option maxRecDepth 100000 in
theorem within_any (a : Option Addr) (n c : Nat) (I : Int) (w : World) : Calls Try.prog 50 #[.slice a n c, .int .i64 I] w fun e w' => e = .returned (.bool (decide (0 ≤ I) && decide (I < n))) ∧ w = w' := by
  by_cases h1 : 0 ≤ I
  · by_cases h2 : I < n
    · go_enter Try.func50, Try.ntmps50
      go_wp2_with fail
      go_ret
      exact ⟨ret_b (by simp; omega), rfl⟩
    · go_enter Try.func50, Try.ntmps50
      go_wp2_with fail
      go_ret
      exact ⟨ret_b (by simp; omega), rfl⟩
  · go_enter Try.func50, Try.ntmps50
    go_wp2_with fail
    go_ret
    exact ⟨ret_b (by simp; omega), rfl⟩

def truthI (b : Bool) : Int := if b then 1 else 0

set_option maxRecDepth 100000 in
theorem truth_any (b : Bool) (w : World) : Calls Try.prog 190 #[.bool b] w fun e w' => e = .returned (.int .i64 (truthI b)) ∧ w = w' := by
  cases b
  · go_enter Try.func190, Try.ntmps190
    go_wp2_with fail
    go_ret
    exact ⟨rfl, rfl⟩
  · go_enter Try.func190, Try.ntmps190
    go_wp2_with fail
    go_ret
    exact ⟨rfl, rfl⟩

set_option maxRecDepth 100000 in
theorem picks_one (g : Nat) (c : Nat) (x : Sl) (hx : x.size = 1) (w : World) (h : SelAt w g x) : Calls Try.prog 139 #[.slice (some ⟨g, 0, none⟩) 1 c, .int .i64 0] w fun e w' => e = .returned (.slice none 0 0) ∧ w = w' := by
  have h7 := h.cells.2.2.2.2.2.2.2
  rw [hx] at h7
  clear hx h
  go_enter Try.func139, Try.ntmps139
  go_wp2_with fail
  refine wp_loop_rounds 1 ?_
  rw [rounds_succ]
  go_wp2_with fail
  go_ret
  exact ⟨rfl, rfl⟩

/-- The reference's answer, with what is known of it. -/
def MPost (PM : Int → Prop) (w : World) (e : Ending) (w' : World) : Prop := ∃ m, e = .returned (.int .i64 m) ∧ PM m ∧ Below w.heap.size w w'

/-- A kind without kids. -/
structure Plainly (k : Int) : Prop where
  z23 : (k == 23) = false
  z21 : (k == 21) = false
  z22 : (k == 22) = false
  z18 : (k == 18) = false
  z19 : (k == 19) = false
  z20 : (k == 20) = false

set_option maxRecDepth 100000 in
set_option maxHeartbeats 1000000 in
theorem matches_simple (PM : Int → Prop) (ad : Option Addr) (c : Nat) (t : List Nd) (i : Nat) (hi : i < t.length) (hk : t[i].kind = 3) (x : Sl) (hx : x.size = 1) (hp : Plainly x.kind) (g : Nat) (c2 : Nat) (w : World) (h : NSl w w.heap.size ad t) (hs : SelAt w g x)
    (hS : ∀ W, NSl W W.heap.size ad t → Calls Try.prog 145 #[.slice ad t.length c, .int .i64 i, .agg x.agg] W (MPost PM W)) :
    Calls Try.prog 83 #[.slice ad t.length c, .int .i64 i, .slice (some ⟨g, 0, none⟩) 1 c2, .int .i64 0] w (MPost PM w) := by
  have HH := Lib.hid h
  obtain ⟨b, o, rfl, hbB, hc⟩ := h.at_ (by omega)
  have f1 := (hc i hi).1
  rw [hk] at f1
  obtain ⟨q0, q1, q2, q3, q4, q5, q6, q7⟩ := hs.cells
  have HS := Lib.hid hs
  have HC := Lib.hid (fun W h => hS W h)
  obtain ⟨p23, p21, p22, p18, p19, p20⟩ := hp
  have HX := Lib.hid hx
  clear hc h hs hS hk hx
  go_enter Try.func83, Try.ntmps83
  go_wp2_with fail
  refine (picks_one g c2 x HX.out _ HS.out).mono ?_
  rintro e w1 ⟨rfl, rfl⟩
  go_wp2_with fail
  refine (HC.out _ HH.out).mono ?_
  rintro e w1 ⟨m, rfl, hm, hb⟩
  have HM := Lib.hid hm
  clear hm
  go_wp2_with fail
  go_ret
  exact ⟨m, rfl, HM.out, hb⟩

/-- What 'alone' says of a selector: what the reference wants, and whether it is sure. -/
def AlonePostL (PM : Nat → Int → Prop) (t : List Nd) (I : Int) (w : World) (e : Ending) (w' : World) : Prop :=
  ∃ want sure, e = .returned (.tuple #[.bool want, .bool sure]) ∧ Below w.heap.size w w' ∧
    (sure = true → RightP t ∧ ∃ (i : Nat) (m : Int), I = i ∧ (∃ hi : i < t.length, t[i].kind = 3) ∧ PM i m ∧ m ≠ 2 ∧ want = (m == 1))

theorem SelAt.below {w w' : World} {B g : Nat} {x : Sl} (h : SelAt w g x) (hb : Below B w w') (hg : g < B) : SelAt w' g x := (hb.block g hg).trans h

set_option maxRecDepth 100000 in
set_option maxHeartbeats 4000000 in
theorem lalone_any (PM : Nat → Int → Prop) (ad : Option Addr) (c : Nat) (t : List Nd) (hf : fits1 t = true) (I : Int) (x : Sl) (hp : Plainly x.kind) (hx : x.size = 0) (w : World) (h : NSl w w.heap.size ad t)
    (hRS : ∀ W, Calls Try.prog 82 #[.agg ({ x with size := 1 } : Sl).agg] W (AnyBB W))
    (hS : ∀ (i : Nat) (_ : RightP t) (hi : i < t.length) (_ : t[i].kind = 3) W, NSl W W.heap.size ad t → Calls Try.prog 145 #[.slice ad t.length c, .int .i64 i, .agg ({ x with size := 1 } : Sl).agg] W (MPost (PM i) W)) :
    Calls Try.prog 22 #[.slice ad t.length c, .int .i64 I, .agg x.agg] w (AlonePostL PM t I w) := by
  have HH := Lib.hid h
  have HRS := Lib.hid hRS
  have HS := Lib.hid hS
  have HP := Lib.hid hp
  have hm := h.1
  unfold maxLen at hm
  have hsel : SelAt (w.alloc (.cells ({ x with size := 1 } : Sl).agg 27)) w.heap.size { x with size := 1 } := heap_alloc_new w _
  have HSel := Lib.hid hsel
  clear hsel h hRS hS hp hx
  obtain ⟨xk, xo, xkey, xval, xa, xb, xf, xs⟩ := x
  unfold Sl.agg at HRS HS HSel ⊢
  dsimp only at HRS HS HP HSel ⊢
  go_enter Try.func22, Try.ntmps22
  go_wp2_with fail
  refine (right_any _ _ t _ (HH.out.up ((Below.refl _ _).alloc (Nat.le_refl _) _)) hf).mono ?_
  rintro e w1 ⟨r, rfl, hr, hb1⟩
  have HB1 := Lib.hid hb1
  have HW1 := Lib.hid (bnext ((Below.refl w.heap.size w).alloc (Nat.le_refl _) _) hb1)
  have HR := Lib.hid hr
  clear hb1 hr
  cases r
  · go_wp2_with fail
    go_ret2
    exact ⟨false, false, rfl, HW1.out, by simp⟩
  · go_wp2_with fail
    refine (within_any _ _ _ _ _).mono ?_
    rintro e w2 ⟨rfl, rfl⟩
    by_cases h1 : 0 ≤ I
    · by_cases h2 : I < t.length
      · obtain ⟨i, rfl⟩ : ∃ i : Nat, I = i := ⟨I.toNat, by omega⟩
        have hi : i < t.length := by omega
        have hw : (decide ((0 : Int) ≤ (i : Int)) && decide ((i : Int) < (t.length : Int))) = true := by simp; omega
        have HSel1 := Lib.hid (HSel.out.below HB1.out (by simp))
        obtain ⟨s0, s1, s2, s3, s4, s5, s6, s7⟩ := HSel1.out.cells
        dsimp only at s0 s1 s2 s3 s4 s5 s6 s7
        obtain ⟨b, o, rfl, hbB, hc⟩ := (HH.out.up HW1.out).at_ (by omega)
        have f1 := (hc i hi).1
        clear hc h1
        rw [hw]
        clear hw
        by_cases hk : t[i].kind = 3
        · have HK := Lib.hid hk
          rw [hk] at f1
          clear hk
          go_wp2_with fail
          refine (HRS.out _).mono ?_
          rintro e w2 ⟨r2, rfl, hb2⟩
          have HW2 := Lib.hid (bnext HW1.out hb2)
          have HSel2 := Lib.hid (HSel1.out.below hb2 (by have := HB1.out.size; simp at this; omega))
          clear hb2 s0 s1 s2 s3 s4 s5 s6 s7 f1
          cases r2
          · go_wp2_with fail
            go_ret2
            exact ⟨false, false, rfl, HW2.out, by simp⟩
          · obtain ⟨s0, s1, s2, s3, s4, s5, s6, s7⟩ := HSel2.out.cells
            dsimp only at s0 s1 s2 s3 s4 s5 s6 s7
            go_wp2_with fail
            refine (matches_simple (PM i) _ c t i hi HK.out ⟨xk, xo, xkey, xval, xa, xb, xf, 1⟩ rfl HP.out w2.heap.size 1 _ (HH.out.up ((HW2.out).alloc HW2.out.size _)) (heap_alloc_new w2 _) (fun W hW => HS.out i (HR.out (by trivial)) hi HK.out W hW)).mono ?_
            rintro e w3 ⟨m, rfl, hm, hb3⟩
            have HM := Lib.hid hm
            have HW3 := Lib.hid (bnext (HW2.out.alloc HW2.out.size _) hb3)
            clear hm hb3
            go_wp2_with fail
            go_ret2
            exact ⟨_, _, rfl, HW3.out, fun hs => ⟨HR.out (by trivial), i, m, rfl, ⟨hi, HK.out⟩, HM.out, by simpa using hs, rfl⟩⟩
        · obtain ⟨kd, hkd⟩ : ∃ kd, kd = t[i].kind := ⟨_, rfl⟩
          rw [← hkd] at f1 hk
          clear hkd
          go_wp2_with fail
          go_ret2
          exact ⟨false, false, rfl, HW1.out, by simp⟩
      · have hw : (decide ((0 : Int) ≤ I) && decide (I < (t.length : Int))) = false := by simp; omega
        rw [hw]
        clear hw h1 h2
        go_wp2_with fail
        go_ret2
        exact ⟨false, false, rfl, HW1.out, by simp⟩
    · have hw : (decide ((0 : Int) ≤ I) && decide (I < (t.length : Int))) = false := by simp; omega
      rw [hw]
      clear hw h1
      go_wp2_with fail
      go_ret2
      exact ⟨false, false, rfl, HW1.out, by simp⟩
end Go.Proofs.Ytfebdbfkpmjpeaa
