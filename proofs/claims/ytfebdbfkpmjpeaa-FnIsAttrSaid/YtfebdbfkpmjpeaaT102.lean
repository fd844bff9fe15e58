/- FnIsAttr: the agreement, both sides, the law. -/
import Derived.Test.YtfebdbfkpmjpeaaT99
import Derived.Test.YtfebdbfkpmjpeaaT100
namespace Go.Proofs.Ytfebdbfkpmjpeaa
open Go.RowKit
set_option linter.unusedVariables false
set_option linter.unusedSimpArgs false

/-- The reference's answer to a test of an attribute. -/
def TestedP (l : List At2) (key : ByteArray) (op : Int) (f : Bool) (val : ByteArray) (m : Int) : Prop :=
  m = 2 ∨ match findA l key with
    | none => m = truI (testB op f false [] val.data.toList)
    | some x => m = truI (testB op f true x.val.data.toList val.data.toList) ∧ (op ≠ 1 → op ≠ 2 → op ≠ 3 → op ≠ 5 → val.data.toList ≠ [] ∧ ¬ Sp x.val 0)

theorem truI_beq (b : Bool) : (truI b == 1) = b := by cases b <;> rfl

theorem attr_agree {l : List At2} {key val : ByteArray} {op m : Int} {f b : Bool} (h1 : 1 ≤ op) (h8 : op ≤ 8) (hT : TestedP l key op f val m) (hm : m ≠ 2) (hM : MatB op l key val f b) : b = (m == 1) := by
  unfold TestedP at hT
  have hT2 := hT.resolve_left hm
  clear hT hm
  unfold MatB at hM
  rcases (by omega : op = 1 ∨ op = 2 ∨ op = 3 ∨ op = 4 ∨ op = 5 ∨ op = 6 ∨ op = 7 ∨ op = 8) with rfl | rfl | rfl | rfl | rfl | rfl | rfl | rfl <;> cases hf : findA l key with
  | none =>
    rw [hf] at hT2
    simp only [if_true, if_false, AttrAsked, NotAsked, hf, Int.reduceEq, ↓reduceIte] at hM
    dsimp only at hT2
    subst hM hT2
    rw [truI_beq]
    simp [testB, eqB_low]
  | some x =>
    rw [hf] at hT2
    obtain ⟨hT3, hs⟩ := hT2
    simp only [if_true, if_false, AttrAsked, NotAsked, hf, Int.reduceEq, ↓reduceIte] at hM
    subst hT3
    rw [truI_beq]
    first
      | (subst hM; simp [testB, eqB_low, REq]; done)
      | (unfold REq at hM; subst hM; simp [testB, eqB_low])
      | (unfold RDash at hM; subst hM; simp [testB])
      | (have hs2 := hs (by decide) (by decide) (by decide) (by decide)
         first
           | (have hM2 := hM hs2.1; subst hM2; simp [testB, incB_low])
           | (have hM2 := hM hs2.2; subst hM2; simp [testB]))


set_option maxRecDepth 100000 in
set_option maxHeartbeats 2000000 in
theorem rs5 (op flag : Int) (key val : ByteArray) (hk : key.size ≤ 2147483647) (hv : val.size ≤ 2147483647) (w : World) :
    Calls Try.prog 82 #[.agg #[.int .i64 5, .int .i64 op, .string key, .string val, .int .i64 0, .int .i64 0, .int .i64 flag, .int .i64 1]] w (SomeBQ (AttrRight op flag val) w) := by
  go_enter Try.func82, Try.ntmps82
  go_wp2_with fail
  refine (bare5 op flag key val hk hv _).mono ?_
  rintro e w1 ⟨r, rfl, hq, hb⟩
  have hc0 : w1.cell? ⟨w.heap.size, 0, none⟩ = some (.int .i64 5) := by
    rw [hb.cell (p := ⟨w.heap.size, 0, none⟩) (by simp), World.cell?_alloc_mark]; rfl
  have HB := Lib.hid (bnext ((Below.refl w.heap.size w).alloc (Nat.le_refl _) _) hb)
  have HQ := Lib.hid hq
  clear hb hq
  cases r
  · go_wp2_with fail
    go_ret
    exact ⟨_, rfl, by simp, HB.out⟩
  · go_wp2_with (first | go_in | fail)
    go_ret
    exact ⟨_, rfl, fun _ => HQ.out (by trivial), HB.out⟩

theorem tested_all (op flag : Int) (is : Bool) (key val v : ByteArray) (hr : AttrRight op flag val) (hv : v.size ≤ 1000000000) (w : World) :
    Calls Try.prog 191 #[.string v, .bool is, .agg #[.int .i64 5, .int .i64 op, .string key, .string val, .int .i64 0, .int .i64 0, .int .i64 flag, .int .i64 1]] w (TestPost op (flag == 1) is v val w) := by
  obtain ⟨h1, h8, hf, hs⟩ := hr
  have hval : val.size ≤ 1000000000 := by omega
  rcases hf with rfl | rfl <;> cases is <;> (rcases (by omega : op = 1 ∨ op = 2 ∨ op = 3 ∨ op = 4 ∨ op = 5 ∨ op = 6 ∨ op = 7 ∨ op = 8) with rfl | rfl | rfl | rfl | rfl | rfl | rfl | rfl)
  · exact tested_false_1_false v val key 5 0 0 1 hv hval w
  · exact tested_false_2_false v val key 5 0 0 1 hv hval w
  · exact tested_false_3_false v val key 5 0 0 1 hv hval w
  · exact tested_false_4_false v val key 5 0 0 1 hv hval w
  · exact tested_false_5_false v val key 5 0 0 1 hv hval w
  · exact tested_false_6_false v val key 5 0 0 1 hv hval w
  · exact tested_false_7_false v val key 5 0 0 1 hv hval w
  · exact tested_false_8_false v val key 5 0 0 1 hv hval w
  · exact tested_false_1_true v val key 5 0 0 1 hv hval w
  · exact tested_false_2_true v val key 5 0 0 1 hv hval w
  · exact tested_false_3_true v val key 5 0 0 1 hv hval w
  · exact tested_false_4_true v val key 5 0 0 1 hv hval w
  · exact tested_false_5_true v val key 5 0 0 1 hv hval w
  · exact tested_false_6_true v val key 5 0 0 1 hv hval w
  · exact tested_false_7_true v val key 5 0 0 1 hv hval w
  · exact tested_false_8_true v val key 5 0 0 1 hv hval w
  · exact tested_true_1_false v val key 5 0 0 1 hv hval w
  · exact tested_true_2_false v val key 5 0 0 1 hv hval w
  · exact tested_true_3_false v val key 5 0 0 1 hv hval w
  · exact tested_true_4_false v val key 5 0 0 1 hv hval w
  · exact tested_true_5_false v val key 5 0 0 1 hv hval w
  · exact tested_true_6_false v val key 5 0 0 1 hv hval w
  · exact tested_true_7_false v val key 5 0 0 1 hv hval w
  · exact tested_true_8_false v val key 5 0 0 1 hv hval w
  · exact tested_true_1_true v val key 5 0 0 1 hv hval w
  · exact tested_true_2_true v val key 5 0 0 1 hv hval w
  · exact tested_true_3_true v val key 5 0 0 1 hv hval w
  · exact tested_true_4_true v val key 5 0 0 1 hv hval w
  · exact tested_true_5_true v val key 5 0 0 1 hv hval w
  · exact tested_true_6_true v val key 5 0 0 1 hv hval w
  · exact tested_true_7_true v val key 5 0 0 1 hv hval w
  · exact tested_true_8_true v val key 5 0 0 1 hv hval w

set_option maxRecDepth 100000 in
set_option maxHeartbeats 1000000 in
theorem simple5 (op flag : Int) (key val : ByteArray) (hr : AttrRight op flag val) (ad : Option Addr) (c : Nat) (t : List Nd) (hR : RightP t) (i : Nat) (hi : i < t.length) (hk : t[i].kind = 3) (w : World) (h : NSl w w.heap.size ad t) :
    Calls Try.prog 145 #[.slice ad t.length c, .int .i64 i, .agg #[.int .i64 5, .int .i64 op, .string key, .string val, .int .i64 0, .int .i64 0, .int .i64 flag, .int .i64 1]] w (MPost (TestedP (t.getD i default).attrs key op (flag == 1) val) w) := by
  have HH := Lib.hid h
  obtain ⟨b, o, rfl, hbB, hc⟩ := h.at_ (by omega)
  obtain ⟨g1, g2, g3, g4, g5, g6⟩ := hc i hi
  have hm := h.1
  unfold maxLen at hm
  have hl : t[i].attrs.length ≤ 2147483647 := by
    rcases (hR.node i hi).kinds with ⟨h1, _⟩ | ⟨h1, _⟩ | ⟨_, h1⟩ | ⟨h1, _⟩
    · omega
    · omega
    · have := h1.len; omega
    · omega
  have hvl : ∀ x ∈ t[i].attrs, x.val.size ≤ 1000000000 := fun x hx => by have := hR.vals i hi x hx; omega
  rw [getD_at hi]
  have HAt : Hid (∀ W, Below w.heap.size w W → Calls Try.prog 42 #[.agg #[.int .i64 t[i].kind, .string t[i].tag, .string t[i].text, .slice t[i].aa t[i].attrs.length t[i].ac, .int .i64 t[i].size], .string key] W (AttrPost t[i].attrs key W)) :=
    fun W hW => attr_any t[i] key W ((ASl.below g6.attrs hW).more hW.size) hl
  have HV := Lib.hid hvl
  have HRt := Lib.hid hr
  obtain ⟨x, hx⟩ : ∃ x, x = t[i] := ⟨_, rfl⟩
  rw [← hx] at g1 g2 g3 g4 g5 HAt HV ⊢
  clear hc hx h g6 hl hvl hr HH hR hk
  have HSel : Hid (∀ W, Below (w.heap.size + 1) (w.alloc (.cells #[.int .i64 5, .int .i64 op, .string key, .string val, .int .i64 0, .int .i64 0, .int .i64 flag, .int .i64 1] 27)) W → SelAt W w.heap.size ⟨5, op, key, val, 0, 0, flag, 1⟩) := fun W hW => (hW.block w.heap.size (by omega)).trans (heap_alloc_new w _)
  go_enter Try.func145, Try.ntmps145
  go_wp2_with fail
  refine (HAt.out _ (((Below.refl _ _).alloc (Nat.le_refl _) _).alloc (by simp) _)).mono ?_
  rintro e w1 ⟨he, hb1⟩
  obtain ⟨c0, c1, c2, c3, c4, c5, c6, c7⟩ := (HSel.out w1 ((((Below.refl _ _).alloc (by simp) _)).trans (hb1.mono (by simp)))).cells
  have HB1 := Lib.hid (((((Below.refl w.heap.size w).alloc (Nat.le_refl _) _).alloc (by simp) _)).trans (hb1.mono (by simp; omega)))
  clear hb1
  cases hf : findA x.attrs key with
  | none =>
    rw [hf] at he
    dsimp only at he
    subst he
    have HF := Lib.hid hf
    clear hf
    go_wp2_with fail
    refine (tested_all op flag false key val ⟨#[]⟩ HRt.out (by decide) _).mono ?_
    rintro e w2 ⟨m, rfl, hm2, hb2⟩
    have HM := Lib.hid hm2
    have HB2 := Lib.hid (bnext HB1.out hb2)
    clear hm2 hb2
    go_wp2_with fail
    go_ret
    refine ⟨m, rfl, ?_, HB2.out⟩
    unfold TestedP
    rw [HF.out]
    rcases HM.out with h | ⟨h, _⟩
    · exact Or.inl h
    · exact Or.inr h
  | some y =>
    rw [hf] at he
    dsimp only at he
    subst he
    have HF := Lib.hid hf
    have hyv : y.val.size ≤ 1000000000 := HV.out y (List.mem_of_find?_eq_some hf)
    clear hf
    go_wp2_with fail
    refine (tested_all op flag true key val y.val HRt.out hyv _).mono ?_
    rintro e w2 ⟨m, rfl, hm2, hb2⟩
    have HM := Lib.hid hm2
    have HB2 := Lib.hid (bnext HB1.out hb2)
    clear hm2 hb2
    go_wp2_with fail
    go_ret
    refine ⟨m, rfl, ?_, HB2.out⟩
    unfold TestedP
    rw [HF.out]
    rcases HM.out with h | ⟨h, h2⟩
    · exact Or.inl h
    · exact Or.inr ⟨h, h2 (by trivial)⟩

theorem iIsAttr_all (op : Int) (h1 : 1 ≤ op) (h8 : op ≤ 8) (k val : ByteArray) (hv : val.size ≤ 1000000000) (flag : Int) (ad : Option Addr) (c : Nat) (t : List Nd) (hR : RightP t) (i : Nat) (hi : i < t.length) (hk : t[i].kind = 3) (w : World) (h : NSl w w.heap.size ad t) :
    Calls Try.prog 64 #[.slice ad t.length c, .int .i64 i, .string k, .int .i64 op, .string val, .int .i64 flag] w fun e w' => ∃ b, e = .returned (.tuple #[.bool b, .bool true]) ∧ MatB op t[i].attrs k val (flag == 1) b ∧ Below w.heap.size w w' := by
  rcases (by omega : op = 1 ∨ op = 2 ∨ op = 3 ∨ op = 4 ∨ op = 5 ∨ op = 6 ∨ op = 7 ∨ op = 8) with rfl | rfl | rfl | rfl | rfl | rfl | rfl | rfl
  · exact iIsAttr_1 k val hv flag ad c t hR i hi hk w h
  · exact iIsAttr_2 k val hv flag ad c t hR i hi hk w h
  · exact iIsAttr_3 k val hv flag ad c t hR i hi hk w h
  · exact iIsAttr_4 k val hv flag ad c t hR i hi hk w h
  · exact iIsAttr_5 k val hv flag ad c t hR i hi hk w h
  · exact iIsAttr_6 k val hv flag ad c t hR i hi hk w h
  · exact iIsAttr_7 k val hv flag ad c t hR i hi hk w h
  · exact iIsAttr_8 k val hv flag ad c t hR i hi hk w h

set_option maxRecDepth 100000 in
set_option maxHeartbeats 2000000 in
theorem FnIsAttr_walk (ad : Option Addr) (len c : Nat) (t : List Nd) (I : Int) (k : ByteArray) (op : Int) (val : ByteArray) (flag : Int) (w : World) (h : NSl w w.heap.size ad t ∧ len = t.length) (_hI : (Lit.int .i64 I).wf = true) (hk : k.size ≤ maxLen) (_ho : (Lit.int .i64 op).wf = true) (hv : val.size ≤ maxLen) (_hf : (Lit.int .i64 flag).wf = true) :
    Calls Try.prog 16 #[.slice ad len c, .int .i64 I, .string k, .int .i64 op, .string val, .int .i64 flag] w fun e w' => e = .returned (.bool true) ∧ Below w.heap.size w w' := by
  obtain ⟨h, rfl⟩ := h
  have HH := Lib.hid h
  unfold maxLen at hk hv
  clear h _hI _ho _hf
  go_enter Try.func16, Try.ntmps16
  go_wp2_with fail
  refine (zzFits1_any _ _ t _ HH.out).mono ?_
  rintro e w1 ⟨rfl, hb1⟩
  have HB1 := Lib.hid hb1
  clear hb1
  cases hf : fits1 t
  · go_wp2_with fail
    go_ret
    exact ⟨rfl, HB1.out⟩
  · by_cases hk2 : 2147483647 < k.size
    · go_wp2_with fail
      go_ret
      exact ⟨rfl, HB1.out⟩
    · by_cases hv2 : 2147483647 < val.size
      · go_wp2_with fail
        go_ret
        exact ⟨rfl, HB1.out⟩
      · have hL := lalone_q (AttrRight op flag val) (fun i m => TestedP (t.getD i default).attrs k op (flag == 1) val m) ad c t hf I ⟨5, op, k, val, 0, 0, flag, 0⟩ ⟨rfl, rfl, rfl, rfl, rfl, rfl⟩ rfl w1 (HH.out.up HB1.out) (fun W => rs5 op flag k val (by omega) (by omega) W) (fun i hq hR hi hk W hW => simple5 op flag k val hq ad c t hR i hi hk W hW)
        have HL := Lib.hid hL
        clear hL
        go_wp2_with fail
        refine HL.out.mono ?_
        rintro e w2 ⟨want, sure, rfl, hb2, hs⟩
        have HB2 := Lib.hid (bnext HB1.out hb2)
        have HS := Lib.hid hs
        clear hb2 hs
        cases sure
        · go_wp2_with fail
          go_ret
          exact ⟨rfl, HB2.out⟩
        · obtain ⟨hq, hR, i, m, rfl, ⟨hi, hk⟩, hm, hm2, hw⟩ := HS.out rfl
          have HT : Hid (TestedP t[i].attrs k op (flag == 1) val m) := by rw [getD_at hi] at hm; exact hm
          have HW : Hid (want = (m == 1)) := hw
          have HM2 : Hid (m ≠ 2) := hm2
          have HQ : Hid (AttrRight op flag val) := hq
          have HI := Lib.hid (iIsAttr_all op hq.1 hq.2.1 k val (by have := hq.2.2.2; omega) flag ad c t hR i hi hk w2 (HH.out.up HB2.out))
          clear hw hm hm2 hR hk hq HS HL
          go_wp2_with fail
          refine HI.out.mono ?_
          rintro e w3 ⟨b, rfl, hb, hb3⟩
          have HB3 := Lib.hid (bnext HB2.out hb3)
          have hbw : b = want := by rw [HW.out]; exact attr_agree HQ.out.1 HQ.out.2.1 HT.out HM2.out hb
          subst hbw
          clear hb hb3
          go_wp2_with fail
          go_ret
          exact ⟨by simp, HB3.out⟩
end Go.Proofs.Ytfebdbfkpmjpeaa
