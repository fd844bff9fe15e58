/- Walked of one step that takes a part; goes7. -/
import Derived.Test.YtgilbckfkngaiaaGreatT129
namespace Go.Proofs.YtgilbckfkngaiaaGreat
open Go.RowKit
set_option linter.unusedVariables false

theorem Tryz.infoII : (Tryz.prog.info? 23).map (fun i => (i.zero, i.size, i.bytes)) = some (some (.slice none 0 0), 1, 24) := by kernel_rfl

/-- A step lies in memory. -/
structure PickAt (op A B : Int) (bp : Nat) (w : World) : Prop where
  c0 : w.cell? ⟨bp, 0, none⟩ = some (.int .i64 op)
  c1 : w.cell? ⟨bp, 1, none⟩ = some (.string ⟨#[]⟩)
  c2 : w.cell? ⟨bp, 2, none⟩ = some (.slice none 0 0)
  c3 : w.cell? ⟨bp, 3, none⟩ = some (.int .i64 A)
  c4 : w.cell? ⟨bp, 4, none⟩ = some (.int .i64 B)
theorem PickAt.below {op A B : Int} {bp : Nat} {w w' : World} (h : PickAt op A B bp w) (hb : Below w.heap.size w w') (hl : bp < w.heap.size) : PickAt op A B bp w' :=
  ⟨(hb.cell (p := ⟨bp, 0, none⟩) hl).trans h.c0, (hb.cell (p := ⟨bp, 1, none⟩) hl).trans h.c1, (hb.cell (p := ⟨bp, 2, none⟩) hl).trans h.c2, (hb.cell (p := ⟨bp, 3, none⟩) hl).trans h.c3, (hb.cell (p := ⟨bp, 4, none⟩) hl).trans h.c4⟩

def SetsPost (B : Nat) (N : List Nat) (v6 : Value) (w : World) : Prop := ∃ bs cs v, v6 = .slice (some ⟨bs, 0, none⟩) 1 cs ∧ bs < w.heap.size ∧ w.cell? ⟨bs, 0, none⟩ = some v ∧ OwnI B (toI N) v w

def WkRel (B g : Nat) (N : List Nat) (w w1 : World) (v6 v8 x : Value) (wr : World) : Prop :=
  (x = .int .i64 0 ∧ v6 = .slice none 0 0 ∧ v8 = .pointer (some ⟨g, 0, none⟩) ∧ w1 = wr) ∨ (x = .int .i64 1 ∧ SetsPost B N v6 wr ∧ Below w.heap.size w wr)

def WkPost (N : List Nat) (w : World) (e : Ending) (w' : World) : Prop := ∃ v6, e = .returned (.tuple #[v6, .bool true]) ∧ SetsPost w.heap.size N v6 w' ∧ Below w.heap.size w w'

set_option maxRecDepth 100000 in
set_option maxHeartbeats 4000000 in
theorem walked1_any (a : Option Addr) (c : Nat) (t : List Nd) (hR : RightP t) (ad : Option Addr) (c2 : Nat) (l : List Int) (ns : List Nat) (ho : OrdP t.length l ns) (hl : l.length ≤ 2147483647) (op A B : Int) (hop : PartOp op) (bp : Nat) (N : List Nat) (hN : ∀ m ∈ N, m < t.length) (hNl : N.length ≤ 200) (w : World) (h : NSl w w.heap.size a t) (hi : ISl w w.heap.size ad l) (hp : PickAt op A B bp w) (hpl : bp < w.heap.size)
    (hpart : ∀ bl g W, SelR bl ns g W → Parts bl N g op A B W) :
    Calls Tryz.prog 17 #[.slice a t.length c, .slice ad l.length c2, .slice (some ⟨bp, 0, none⟩) 1 1] w (WkPost N w) := by
  obtain ⟨i0, hinf, hz0, hz1, hz2⟩ := info_parts Tryz.infoII
  have HC := Lib.hid (chosen_any a c t hR ad c2 l ns ho hl w h hi)
  have hle := hR.le
  have HP := Lib.hid hp
  have HN := Lib.hid hN
  have HOp := Lib.hid hop
  have HPart := Lib.hid hpart
  clear hR ho h hi hp hN hop hpart
  go_enter Tryz.func17, Tryz.ntmps17
  go_wp2_with fail
  refine HC.out.mono ?_
  rintro e w1 ⟨L, bl, st, g, doc, rfl, hL, hT, hsel, hb1⟩
  have HT := Lib.hid hT
  have HSel := Lib.hid hsel.selR
  have HB1 := Lib.hid hb1
  have hP1 := HP.out.below hb1 hpl
  have hpl1 : bp < w1.heap.size := Nat.lt_of_lt_of_le hpl hb1.size
  have HP1 := Lib.hid hP1
  clear hT hsel hb1 hP1
  go_wp2_with fail
  go_loopw [6, 8, 27] (fun v6 v8 x wr => WkRel w.heap.size g N w w1 v6 v8 x wr) (fun _ _ x _ => 1 - (intOf x).toNat)
  case atStart => exact .inl ⟨rfl, rfl, rfl, rfl⟩
  case round =>
    rcases hrel with ⟨rfl, rfl, rfl, rfl⟩ | ⟨rfl, hsp, hb⟩
    · obtain ⟨p0, p1, p2, p3, p4⟩ := HP1.out
      have hba : Below w1.heap.size w1 (w1.alloc (.cells #[.int .i64 op, .string ⟨#[]⟩, .slice none 0 0, .int .i64 A, .int .i64 B] 27)) := (Below.refl _ _).alloc (Nat.le_refl _) _
      have HBa := Lib.hid hba
      have HT2 := Lib.hid (HT.out.kept hba)
      have hL2 : L < (w1.alloc (.cells #[.int .i64 op, .string ⟨#[]⟩, .slice none 0 0, .int .i64 A, .int .i64 B] 27)).heap.size := Nat.lt_of_lt_of_le hL hba.size
      have HTh := Lib.hid (these_any t hle _ L bl st none 0 [] [] ⟨rfl, by simp, by simp⟩ (by simp) _ hL2 HT2.out ⟨.inl rfl, by simp [maxLen], by simp⟩)
      have hbx : w1.heap.size < (w1.alloc (.cells #[.int .i64 op, .string ⟨#[]⟩, .slice none 0 0, .int .i64 A, .int .i64 B] 27)).heap.size := by simp
      have hcx : ∀ j v, #[Value.int .i64 op, .string ⟨#[]⟩, .slice none 0 0, .int .i64 A, .int .i64 B][j]? = some v → (w1.alloc (.cells #[.int .i64 op, .string ⟨#[]⟩, .slice none 0 0, .int .i64 A, .int .i64 B] 27)).cell? ⟨w1.heap.size, j, none⟩ = some v := by
        intro j v hj
        rw [World.cell?_alloc_mark]; exact hj
      have HCx := Lib.hid hcx
      have HPk := Lib.hid (HPart.out bl g w1 HSel.out)
      have HNd := Lib.hid HT.out.nodes
      clear hba hcx
      go_wp2_with fail
      refine HTh.out.mono ?_
      rintro e w2 ⟨a2, cc2, rfl, _, hb2⟩
      have q0 := (hb2.cell (p := ⟨w1.heap.size, 0, none⟩) hbx).trans (HCx.out 0 _ rfl)
      have q1 := (hb2.cell (p := ⟨w1.heap.size, 1, none⟩) hbx).trans (HCx.out 1 _ rfl)
      have q2 := (hb2.cell (p := ⟨w1.heap.size, 2, none⟩) hbx).trans (HCx.out 2 _ rfl)
      have q3 := (hb2.cell (p := ⟨w1.heap.size, 3, none⟩) hbx).trans (HCx.out 3 _ rfl)
      have q4 := (hb2.cell (p := ⟨w1.heap.size, 4, none⟩) hbx).trans (HCx.out 4 _ rfl)
      have HB2 := Lib.hid (bnext HBa.out hb2)
      have hbx2 := Nat.lt_of_lt_of_le hbx hb2.size
      clear hb2 p0 p1 p2 p3 p4
      go_wp2_with fail
      refine (bySet_nil g op A B HOp.out _ _ _ w2).mono ?_
      rintro e w3 ⟨rfl, hb3⟩
      replace q0 := (hb3.cell (p := ⟨w1.heap.size, 0, none⟩) hbx2).trans q0
      replace q1 := (hb3.cell (p := ⟨w1.heap.size, 1, none⟩) hbx2).trans q1
      replace q2 := (hb3.cell (p := ⟨w1.heap.size, 2, none⟩) hbx2).trans q2
      replace q3 := (hb3.cell (p := ⟨w1.heap.size, 3, none⟩) hbx2).trans q3
      replace q4 := (hb3.cell (p := ⟨w1.heap.size, 4, none⟩) hbx2).trans q4
      have HB3 := Lib.hid (bnext HB2.out hb3)
      clear hb3
      have HK := Lib.hid (kin_part bl N g op A B HOp.out w1 HPk.out w3 HB3.out)
      go_wp2_with fail
      refine HK.out.mono ?_
      rintro e w4 ⟨g2, a5, c5, doc2, prev2, rfl, hs2, hr2, hb4⟩
      obtain ⟨s0, _, _⟩ := hs2.cells
      have HR2 := Lib.hid hr2
      have hB4 := bnext HB3.out hb4
      have HB4 := Lib.hid (bnext HB1.out hB4)
      have HT4 := Lib.hid (HT.out.kept hB4)
      have hL4 := Nat.lt_of_lt_of_le hL hB4.size
      clear hs2 hr2 hb4 hB4 q0 q1 q2 q3 q4
      have HPl := Lib.hid (placesOf_any bl t.length L hle N HN.out (by omega) a5 c5 w4 hL4 HT4.out.nodes (fun j hj => HT4.out.cell j hj) HR2.out)
      go_wp2_with fail
      refine HPl.out.mono ?_
      rintro e w5 ⟨v, rfl, ⟨av, cv, rfl, hown5⟩, hb5⟩
      have HO5 := Lib.hid hown5
      have HB5 := Lib.hid (bnext HB4.out hb5)
      have HBq := Lib.hid hb5
      have hsz5 := HB5.out.size
      clear hown5 hb5
      go_wp2_with (at_builtin; refine wpList_append_own _ rfl _ _ 42 rfl w5.heap.size 23 i0 (.slice none 0 0) 1 24 Tryz.underlying42 hinf hz0 hz1 hz2 rfl (by decide) (.slice none 0 0) 0 [] rfl (World.ownsRow_nil _ _ _ _) ⟨w5.heap.size, 0, none⟩ 1 1 [.slice av (toI N).length cv] rfl rfl (cell_one_new _ _ _) (by intro u hu; simp at hu; subst hu; rfl) (by unfold maxLen; omega) (by omega) (by simp) ?_)
      intro v' w6 hown' hgrow _
      obtain ⟨a3, c3, hv2⟩ := own_slice hown'
      rw [hv2] at hown' ⊢
      have hb6 : Below w5.heap.size w5 w6 := ((Below.refl _ _).alloc (Nat.le_refl _) _).grown hgrow (by simp) (fun q hq => by simp [Value.ownBlock] at hq)
      have hsp : SetsPost w.heap.size N (.slice a3 (0 + 1) c3) w6 := by
        obtain ⟨ax, cx, hv, _, hrs⟩ := RSl.own hown'
        cases hv
        rcases hown'.2 with ⟨hv, hn⟩ | ⟨gg, cap, cur, hv, _, hg, _⟩
        · omega
        · cases hv
          refine ⟨gg, c3, .slice av (toI N).length cv, rfl, (Array.getElem?_eq_some_iff.1 hg).1, ?_, av, cv, rfl, own_kept (own_base HO5.out (by have := HB4.out.size; omega)) (fun b _ hb => hb6.block b hb)⟩
          obtain ⟨bb, oo, he, _, hcc⟩ := hrs.at_ (by simp)
          cases he
          have := hcc 0 (by simp)
          simpa using this
      have HSp := Lib.hid hsp
      have HB6 := Lib.hid (HB5.out.trans (hb6.mono hsz5))
      clear hown' hgrow hv2 hb6 hsp s0
      go_wp2_with fail
      go_roundw
      case rel => exact .inr ⟨by go_num, HSp.out, HB6.out⟩
      case measure => simp [intOf]
    · have HSp := Lib.hid hsp
      have HB := Lib.hid hb
      clear hsp hb
      go_wp2_with fail
      go_ret2
      exact ⟨_, rfl, HSp.out, HB.out⟩

set_option maxRecDepth 100000 in
set_option maxHeartbeats 2000000 in
theorem goes7_any (a : Option Addr) (c : Nat) (t : List Nd) (hR : RightP t) (ad : Option Addr) (c2 : Nat) (l : List Int) (ns : List Nat) (ho : OrdP t.length l ns) (hl : l.length ≤ 2147483647) (op A B : Int) (hop : PartOp op) (bp : Nat) (N : List Nat) (hN : ∀ m ∈ N, m < t.length) (hNl : N.length ≤ 200) (w : World) (h : NSl w w.heap.size a t) (hi : ISl w w.heap.size ad l) (hp : PickAt op A B bp w) (hpl : bp < w.heap.size)
    (hpart : ∀ bl g W, SelR bl ns g W → Parts bl N g op A B W) :
    Calls Tryz.prog 7 #[.slice a t.length c, .slice ad l.length c2, .slice (some ⟨bp, 0, none⟩) 1 1] w (ListPost (toI N) w) := by
  have HW := Lib.hid (walked1_any a c t hR ad c2 l ns ho hl op A B hop bp N hN hNl w h hi hp hpl hpart)
  clear hR ho h hi hp hN hop hpart
  go_enter Tryz.func7, Tryz.ntmps7
  go_wp2_with fail
  refine HW.out.mono ?_
  rintro e w1 ⟨v6, rfl, ⟨bs, cs, v, rfl, hbs, hcell, hown⟩, hb1⟩
  have HO := Lib.hid hown
  have HB1 := Lib.hid hb1
  obtain ⟨av, cv, rfl, _⟩ := hown.row
  clear hown hb1
  go_wp2_with fail
  go_ret2
  exact ⟨_, rfl, HO.out, HB1.out⟩

/-- What the parts of a selection are. -/
theorem parts_first {bl : Nat → Nat} {ns : List Nat} (hlen : ns.length ≤ 200) (A B : Int) : ∀ g W, SelR bl ns g W → Parts bl (ns.take 1) g 34 A B W :=
  fun g W hs => part_34 bl _ g A B W (fun W' hW' => first_any bl ns hlen g W' (hs.up hW'))
theorem parts_last {bl : Nat → Nat} {ns : List Nat} (hlen : ns.length ≤ 200) (A B : Int) : ∀ g W, SelR bl ns g W → Parts bl (lastI ns) g 35 A B W :=
  fun g W hs => part_35 bl _ g A B W (fun W' hW' => last_any bl ns hlen g W' (hs.up hW'))
theorem parts_eq {bl : Nat → Nat} {ns : List Nat} (hlen : ns.length ≤ 200) (A B : Int) (k : Nat) (hk : k < ns.length) (hA : A = k ∨ (A < 0 ∧ A + (ns.length : Int) = k)) : ∀ g W, SelR bl ns g W → Parts bl [ns[k]] g 36 A B W :=
  fun g W hs => part_36 bl _ g A B W (fun W' hW' => eq_in bl ns hlen g W' (hs.up hW') k hk A hA)
theorem parts_eqo {bl : Nat → Nat} {ns : List Nat} (hlen : ns.length ≤ 200) (A B : Int) (hA : (ns.length : Int) ≤ A ∨ (A < 0 ∧ -9223372036854775808 ≤ A ∧ A + (ns.length : Int) < 0)) : ∀ g W, SelR bl ns g W → Parts bl [] g 36 A B W :=
  fun g W hs => part_36 bl _ g A B W (fun W' hW' => eq_out bl ns hlen g W' (hs.up hW') A hA)
theorem parts_slice {bl : Nat → Nat} {ns : List Nat} (hlen : ns.length ≤ 200) (A B : Int) (lo hi : Nat) (hA : A = lo ∨ (A < 0 ∧ A + (ns.length : Int) = lo)) (hB : B = hi ∨ (B < 0 ∧ B + (ns.length : Int) = hi)) (h1 : lo ≤ hi) (h2 : hi ≤ ns.length) : ∀ g W, SelR bl ns g W → Parts bl ((ns.drop lo).take (hi - lo)) g 32 A B W := by
  intro g W hs
  refine part_32 bl _ g A B W (fun W' hW' => ?_)
  obtain ⟨a, c, doc, prev, q1, q2, q3, q4⟩ := (hs.up hW').ex
  rcases hA with rfl | ⟨hA, hA2⟩
  · rcases hB with rfl | ⟨hB, hB2⟩
    · exact sliced_ff bl ns hlen g a c doc prev W' q1 ⟨q2, q3⟩ q4 lo hi h1 h2
    · exact sliced_fb bl ns hlen g a c doc prev W' q1 ⟨q2, q3⟩ q4 lo hi B hB hB2 h1 h2
  · rcases hB with rfl | ⟨hB, hB2⟩
    · exact sliced_bf bl ns hlen g a c doc prev W' q1 ⟨q2, q3⟩ q4 lo hi A hA hA2 h1 h2
    · exact sliced_bb bl ns hlen g a c doc prev W' q1 ⟨q2, q3⟩ q4 lo hi A hA hA2 B hB hB2 h1 h2
theorem parts_toend {bl : Nat → Nat} {ns : List Nat} (hlen : ns.length ≤ 200) (A B : Int) (lo : Nat) (hA : A = lo ∨ (A < 0 ∧ A + (ns.length : Int) = lo)) (h1 : lo ≤ ns.length) : ∀ g W, SelR bl ns g W → Parts bl ((ns.drop lo).take (ns.length - lo)) g 33 A B W := by
  intro g W hs
  refine part_33 bl _ g A B W (fun W' hW' => ?_)
  obtain ⟨a, c, doc, prev, q1, q2, q3, q4⟩ := (hs.up hW').ex
  rcases hA with rfl | ⟨hA, hA2⟩
  · exact sliced_fe bl ns hlen g a c doc prev W' q1 ⟨q2, q3⟩ q4 lo h1 (Nat.le_refl _)
  · exact sliced_be bl ns hlen g a c doc prev W' q1 ⟨q2, q3⟩ q4 lo A hA hA2 h1 (Nat.le_refl _)
end Go.Proofs.YtgilbckfkngaiaaGreat
