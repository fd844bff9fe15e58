/- FnSpecificWhole: texts joined (joinf.py) -/
import Derived.Test.YtnibpdmbccfgoaaGreatDoorJ10
import Derived.Test.YtnibpdmbccfgoaaGreatDoorJ12
import Derived.Test.YtnibpdmbccfgoaaGreatDoorT618
import Derived.Test.YtnibpdmbccfgoaaGreatDoorT626
namespace Go.Proofs.YtnibpdmbccfgoaaGreatDoor
open Go.RowKit
set_option linter.unusedVariables false

/-- A word behind a colon. -/
theorem Txt.word {s : ByteArray} {k : Nat} {a : UInt8} {L : List UInt8} (h : Txt s k (58 :: (a :: L))) (ha : isBgG a.toNat = true) (hl : (a :: L).all (fun b => isNm b.toNat) = true) (hst : NmStop s (k + 1 + (a :: L).length)) :
    k < s.size ∧ bAt s k = 58 ∧ k + 1 < s.size ∧ bAt s (k + 1) ≠ 58 ∧ IdYes s (k + 1) (bOf (a :: L)) (k + 1 + (a :: L).length) := by
  obtain ⟨h1, h2, h3⟩ := h.cons
  obtain ⟨h4, h5, _⟩ := h3.cons
  exact ⟨h1, h2, h4, by rw [h5]; rw [isBgG_iff] at ha; omega, word_id h3 ha hl hst⟩
/-- A word behind a colon, and a parenthesis behind it. -/
theorem Txt.call {s : ByteArray} {k : Nat} {a : UInt8} {L M : List UInt8} (h : Txt s k (58 :: ((a :: L) ++ (40 :: M)))) (ha : isBgG a.toNat = true) (hl : (a :: L).all (fun b => isNm b.toNat) = true) :
    k < s.size ∧ bAt s k = 58 ∧ k + 1 < s.size ∧ bAt s (k + 1) ≠ 58 ∧ IdYes s (k + 1) (bOf (a :: L)) (k + 1 + (a :: L).length) ∧ k + 1 + (a :: L).length < s.size ∧ bAt s (k + 1 + (a :: L).length) = 40 ∧ Txt s (k + 1 + (a :: L).length + 1) M := by
  obtain ⟨h1, h2, h3⟩ := h.cons
  obtain ⟨h4, h5⟩ := h3.app
  obtain ⟨h6, h7, h8⟩ := h5.cons
  have h7 : bAt s (k + 1 + (a :: L).length) = 40 := h7
  have hst : NmStop s (k + 1 + (a :: L).length) := stop_at h6 h7 (by decide) (by decide)
  have hw : Txt s k (58 :: (a :: L)) := (Txt.app (A := 58 :: (a :: L)) (B := 40 :: M) h).1
  obtain ⟨q1, q2, q3, q4, q5⟩ := hw.word ha hl hst
  exact ⟨q1, q2, q3, q4, q5, h6, h7, h8⟩
theorem plain_read {s : ByteArray} {g k : Nat} {D P : Value} (kd : Int) (h8 : 8 ≤ kd) (h14 : kd ≤ 14) (hs : s.size ≤ 100000) (h : Txt s k (58 :: wdPlain kd)) (hst : NmStop s (k + 1 + (wdPlain kd).length)) : Sim1 s g D P k (k + 1 + (wdPlain kd).length) (0, 1, 0) := by
  have hk : kd = 8 ∨ kd = 9 ∨ kd = 10 ∨ kd = 11 ∨ kd = 12 ∨ kd = 13 ∨ kd = 14 := by omega
  rcases hk with rfl | rfl | rfl | rfl | rfl | rfl | rfl
  · obtain ⟨q1, q2, q3, q4, q5⟩ := Txt.word h (by decide) (by decide) hst
    exact .psu q2 (fun N V U hg hU => psEmpty s g k _ D P N V U hs q1 q2 q3 q4 q5 hU)
  · obtain ⟨q1, q2, q3, q4, q5⟩ := Txt.word h (by decide) (by decide) hst
    exact .psu q2 (fun N V U hg hU => psRoot s g k _ D P N V U hs q1 q2 q3 q4 q5 hU)
  · obtain ⟨q1, q2, q3, q4, q5⟩ := Txt.word h (by decide) (by decide) hst
    exact .psu q2 (fun N V U hg hU => psInput s g k _ D P N V U hs q1 q2 q3 q4 q5 hU)
  · obtain ⟨q1, q2, q3, q4, q5⟩ := Txt.word h (by decide) (by decide) hst
    exact .psu q2 (fun N V U hg hU => psLink s g k _ D P N V U hs q1 q2 q3 q4 q5 hU)
  · obtain ⟨q1, q2, q3, q4, q5⟩ := Txt.word h (by decide) (by decide) hst
    exact .psu q2 (fun N V U hg hU => psEnabled s g k _ D P N V U hs q1 q2 q3 q4 q5 hU)
  · obtain ⟨q1, q2, q3, q4, q5⟩ := Txt.word h (by decide) (by decide) hst
    exact .psu q2 (fun N V U hg hU => psDisabled s g k _ D P N V U hs q1 q2 q3 q4 q5 hU)
  · obtain ⟨q1, q2, q3, q4, q5⟩ := Txt.word h (by decide) (by decide) hst
    exact .psu q2 (fun N V U hg hU => psChecked s g k _ D P N V U hs q1 q2 q3 q4 q5 hU)
theorem only_read {s : ByteArray} {g k : Nat} {D P : Value} (f : Int) (hf : f = 0 ∨ f = 2) (hs : s.size ≤ 100000) (h : Txt s k (58 :: ([111, 110, 108, 121, 45] ++ wdOnly f))) (hst : NmStop s (k + 1 + ([111, 110, 108, 121, 45] ++ wdOnly f).length)) : Sim1 s g D P k (k + 1 + ([111, 110, 108, 121, 45] ++ wdOnly f).length) (0, 1, 0) := by
  rcases hf with rfl | rfl
  · obtain ⟨q1, q2, q3, q4, q5⟩ := Txt.word h (by decide) (by decide) hst
    exact .psu q2 (fun N V U hg hU => psOnly0 s g k _ D P N V U hs q1 q2 q3 q4 q5 hU)
  · obtain ⟨q1, q2, q3, q4, q5⟩ := Txt.word h (by decide) (by decide) hst
    exact .psu q2 (fun N V U hg hU => psOnly2 s g k _ D P N V U hs q1 q2 q3 q4 q5 hU)
/-- What stands behind a count. -/
theorem nth_arg {s : ByteArray} {k : Nat} (a b : Int) (h : Txt s k (cntL a b ++ [41])) : k < s.size ∧ Sk s k k ∧ ∃ p e0, ((bAt s k = 45 ∧ p = k + 1) ∨ (bAt s k ≠ 45 ∧ p = k)) ∧ NthTo s p e0 ∧ e0 < s.size ∧ Sk s e0 e0 ∧ bAt s e0 = 41 ∧ e0 = k + (cntL a b).length := by
  obtain ⟨h1, h2⟩ := h.app
  obtain ⟨h3, h4, _⟩ := h2.cons
  have h4 : bAt s (k + (cntL a b).length) = 41 := h4
  obtain ⟨q1, q2, q3, p, q4, q5⟩ := cnt_read a b h1 (by rw [h4]; rfl)
  exact ⟨q1, sk_none (by omega) (fun _ => ⟨q2, q3⟩), p, _, q4, q5, h3, sk_none (by omega) (fun _ => by rw [h4]; decide), h4, rfl⟩
theorem nth_read {s : ByteArray} {g k : Nat} {D P : Value} (f a b : Int) (hf0 : 0 ≤ f) (hf3 : f ≤ 3) (hs : s.size ≤ 100000) (h : Txt s k (58 :: (([110, 116, 104, 45] ++ wdNth f) ++ (40 :: (cntL a b ++ [41]))))) : Sim1 s g D P k (k + (58 :: (([110, 116, 104, 45] ++ wdNth f) ++ (40 :: (cntL a b ++ [41])))).length) (0, 1, 0) := by
  have hf : f = 0 ∨ f = 1 ∨ f = 2 ∨ f = 3 := by omega
  rcases hf with rfl | rfl | rfl | rfl
  · obtain ⟨q1, q2, q3, q4, q5, q6, q7, q8⟩ := Txt.call (a := 110) (L := [116, 104, 45] ++ wdNth 0) h (by decide) (by decide)
    obtain ⟨r1, r2, p, e0, r3, r4, r5, r6, r7, r8⟩ := nth_arg a b q8
    rw [show k + (58 :: (([110, 116, 104, 45] ++ wdNth 0) ++ (40 :: (cntL a b ++ [41])))).length = e0 + 1 by rw [r8]; simp; omega]
    exact .psu q2 (fun N V U hg hU => psNth0 s g k _ D P N V U hs q1 q2 q3 q4 q5 q6 q7 r2 p e0 r1 r3 r4 r5 r6 r7 hU)
  · obtain ⟨q1, q2, q3, q4, q5, q6, q7, q8⟩ := Txt.call (a := 110) (L := [116, 104, 45] ++ wdNth 1) h (by decide) (by decide)
    obtain ⟨r1, r2, p, e0, r3, r4, r5, r6, r7, r8⟩ := nth_arg a b q8
    rw [show k + (58 :: (([110, 116, 104, 45] ++ wdNth 1) ++ (40 :: (cntL a b ++ [41])))).length = e0 + 1 by rw [r8]; simp; omega]
    exact .psu q2 (fun N V U hg hU => psNth1 s g k _ D P N V U hs q1 q2 q3 q4 q5 q6 q7 r2 p e0 r1 r3 r4 r5 r6 r7 hU)
  · obtain ⟨q1, q2, q3, q4, q5, q6, q7, q8⟩ := Txt.call (a := 110) (L := [116, 104, 45] ++ wdNth 2) h (by decide) (by decide)
    obtain ⟨r1, r2, p, e0, r3, r4, r5, r6, r7, r8⟩ := nth_arg a b q8
    rw [show k + (58 :: (([110, 116, 104, 45] ++ wdNth 2) ++ (40 :: (cntL a b ++ [41])))).length = e0 + 1 by rw [r8]; simp; omega]
    exact .psu q2 (fun N V U hg hU => psNth2 s g k _ D P N V U hs q1 q2 q3 q4 q5 q6 q7 r2 p e0 r1 r3 r4 r5 r6 r7 hU)
  · obtain ⟨q1, q2, q3, q4, q5, q6, q7, q8⟩ := Txt.call (a := 110) (L := [116, 104, 45] ++ wdNth 3) h (by decide) (by decide)
    obtain ⟨r1, r2, p, e0, r3, r4, r5, r6, r7, r8⟩ := nth_arg a b q8
    rw [show k + (58 :: (([110, 116, 104, 45] ++ wdNth 3) ++ (40 :: (cntL a b ++ [41])))).length = e0 + 1 by rw [r8]; simp; omega]
    exact .psu q2 (fun N V U hg hU => psNth3 s g k _ D P N V U hs q1 q2 q3 q4 q5 q6 q7 r2 p e0 r1 r3 r4 r5 r6 r7 hU)
theorem lang_read {s : ByteArray} {g k : Nat} {D P : Value} (x : ByteArray) (h0 : 0 < x.size) (hs : s.size ≤ 100000) (h : Txt s k (58 :: ([108, 97, 110, 103] ++ (40 :: (namedL x ++ [41]))))) : Sim1 s g D P k (k + (58 :: ([108, 97, 110, 103] ++ (40 :: (namedL x ++ [41])))).length) (0, 1, 0) := by
  obtain ⟨q1, q2, q3, q4, q5, q6, q7, q8⟩ := Txt.call (a := 108) (L := [97, 110, 103]) h (by decide) (by decide)
  obtain ⟨r1, r2⟩ := name_c0 h0 (q8.app).1
  obtain ⟨⟨O, r3⟩, r4, r5, _⟩ := q8.name h0 (by decide) (by decide)
  have r5 : bAt s (k + 1 + [108, 97, 110, 103].length + 1 + (namedL x).length) = 41 := r5
  have r6 := nm_33 r2
  rw [show k + (58 :: ([108, 97, 110, 103] ++ (40 :: (namedL x ++ [41])))).length = k + 1 + [108, 97, 110, 103].length + 1 + (namedL x).length + 1 by simp; omega]
  exact .psu q2 (fun N V U hg hU => psLang s g k _ D P N V U hs q1 q2 q3 q4 q5 q6 q7 (sk_none (by omega) (fun _ => ⟨r6.1, r6.2.1⟩)) O _ r3 r4 (sk_none (by omega) (fun _ => by rw [r5]; decide)) r5 hU)
theorem con_read {s : ByteArray} {g k : Nat} {D P : Value} (x : ByteArray) (hs : s.size ≤ 100000) (h : Txt s k (58 :: ([99, 111, 110, 116, 97, 105, 110, 115] ++ (40 :: (qtL x ++ [41]))))) : Sim1 s g D P k (k + (58 :: ([99, 111, 110, 116, 97, 105, 110, 115] ++ (40 :: (qtL x ++ [41])))).length) (0, 1, 0) := by
  obtain ⟨q1, q2, q3, q4, q5, q6, q7, q8⟩ := Txt.call (a := 99) (L := [111, 110, 116, 97, 105, 110, 115]) h (by decide) (by decide)
  obtain ⟨r1, r2, e0, r3, r4, r5, _, r6⟩ := q8.quote
  have r5 : bAt s (e0 + 1) = 41 := r5
  rw [show k + (58 :: ([99, 111, 110, 116, 97, 105, 110, 115] ++ (40 :: (qtL x ++ [41])))).length = e0 + 1 + 1 by rw [r6]; simp; omega]
  exact .psu q2 (fun N V U hg hU => psCon s g k _ D P N V U hs q1 q2 q3 q4 q5 q6 q7 (sk_none (by omega) (fun _ => by rw [r2]; decide)) e0 r2 r3 (sk_none (by omega) (fun _ => by rw [r5]; decide)) r4 r5 hU)
theorem own_read {s : ByteArray} {g k : Nat} {D P : Value} (x : ByteArray) (hs : s.size ≤ 100000) (h : Txt s k (58 :: ([99, 111, 110, 116, 97, 105, 110, 115, 79, 119, 110] ++ (40 :: (qtL x ++ [41]))))) : Sim1 s g D P k (k + (58 :: ([99, 111, 110, 116, 97, 105, 110, 115, 79, 119, 110] ++ (40 :: (qtL x ++ [41])))).length) (0, 1, 0) := by
  obtain ⟨q1, q2, q3, q4, q5, q6, q7, q8⟩ := Txt.call (a := 99) (L := [111, 110, 116, 97, 105, 110, 115, 79, 119, 110]) h (by decide) (by decide)
  obtain ⟨r1, r2, e0, r3, r4, r5, _, r6⟩ := q8.quote
  have r5 : bAt s (e0 + 1) = 41 := r5
  rw [show k + (58 :: ([99, 111, 110, 116, 97, 105, 110, 115, 79, 119, 110] ++ (40 :: (qtL x ++ [41])))).length = e0 + 1 + 1 by rw [r6]; simp; omega]
  exact .psu q2 (fun N V U hg hU => psConOwn s g k _ D P N V U hs q1 q2 q3 q4 q5 q6 q7 (sk_none (by omega) (fun _ => by rw [r2]; decide)) e0 r2 r3 (sk_none (by omega) (fun _ => by rw [r5]; decide)) r4 r5 hU)
/-- Every simple selector that is no name of an element, and has none in it. -/
theorem leaf_read {s : ByteArray} {g k : Nat} {D P : Value} (x : Sn) (hf : FOk x) (h3 : 3 ≤ x.kind) (h17 : x.kind ≤ 17) (hs : s.size ≤ 100000) (h : Txt s k (simL x)) (hst : NmStop s (k + (simL x).length)) : Sim1 s g D P k (k + (simL x).length) (simS x.kind) := by
  unfold simL at h hst ⊢
  rw [if_neg (by omega), if_neg (by omega)] at h hst ⊢
  by_cases c3 : x.kind = 3
  · rw [if_pos c3] at h hst ⊢
    obtain ⟨h1, h2, h4⟩ := h.cons
    have e : k + (46 :: namedL x.val).length = k + 1 + (namedL x.val).length := by simp; omega
    rw [e] at hst ⊢
    obtain ⟨O, hO⟩ := named_id (hf.val (.inl c3)) h4 hst
    exact .cls h2 O hO (by rw [c3]; rfl)
  rw [if_neg c3] at h hst ⊢
  by_cases c4 : x.kind = 4
  · rw [if_pos c4] at h hst ⊢
    obtain ⟨h1, h2, h4⟩ := h.cons
    have e : k + (35 :: namedL x.val).length = k + 1 + (namedL x.val).length := by simp; omega
    rw [e] at hst ⊢
    obtain ⟨O, hO⟩ := named_read (hf.val (.inr (.inl c4))) h4 hst
    exact .id h2 O hO (by rw [c4]; rfl)
  have hsp : simS x.kind = (0, 1, 0) := by unfold simS; rw [if_neg (by omega), if_neg (by omega), if_neg c4]
  rw [hsp]
  rw [if_neg c4] at h hst ⊢
  by_cases c5 : x.kind = 5
  · rw [if_pos c5] at h hst ⊢
    exact att_read x hf c5 hs h
  rw [if_neg c5] at h hst ⊢
  by_cases c6 : x.kind = 6
  · rw [if_pos c6] at h hst ⊢
    exact nth_read x.flag x.a x.b (hf.nth c6).1 (hf.nth c6).2 hs h
  rw [if_neg c6] at h hst ⊢
  by_cases c7 : x.kind = 7
  · rw [if_pos c7] at h hst ⊢
    have e : k + (58 :: ([111, 110, 108, 121, 45] ++ wdOnly x.flag)).length = k + 1 + ([111, 110, 108, 121, 45] ++ wdOnly x.flag).length := by rw [List.length_cons]; omega
    rw [e] at hst ⊢
    exact only_read x.flag (hf.onl c7) hs h hst
  rw [if_neg c7] at h hst ⊢
  by_cases c15 : x.kind = 15
  · rw [if_pos c15] at h hst ⊢
    exact lang_read x.val (hf.val (.inr (.inr c15))) hs h
  rw [if_neg c15] at h hst ⊢
  by_cases c16 : x.kind = 16
  · rw [if_pos c16] at h hst ⊢
    exact con_read x.val hs h
  rw [if_neg c16] at h hst ⊢
  by_cases c17 : x.kind = 17
  · rw [if_pos c17] at h hst ⊢
    exact own_read x.val hs h
  rw [if_neg c17] at h hst ⊢
  have e : k + (58 :: wdPlain x.kind).length = k + 1 + (wdPlain x.kind).length := by rw [List.length_cons]; omega
  rw [e] at hst ⊢
  exact plain_read x.kind (by omega) (by omega) hs h hst
end Go.Proofs.YtnibpdmbccfgoaaGreatDoor

namespace Go.Proofs.YtnibpdmbccfgoaaGreatDoor
open Go.RowKit
set_option linter.unusedVariables false

/-- What may stand behind a compound: the end, or combinators with compounds. (x: the sum so far; y: at the end.) -/
inductive TailTo (s : ByteArray) (g : Nat) (D P : Value) (e : Nat) (y : S3) : Nat → S3 → Prop
  | done : e ≤ s.size → Sk s e e → (e < s.size → bAt s e = 44 ∨ bAt s e = 41) → TailTo s g D P e y e y
  | space {k j m : Nat} {x : S3} {ds : List S3} : k ≤ s.size → Sk s k j → k < j → j < s.size → (bAt s j ≠ 43 ∧ bAt s j ≠ 62 ∧ bAt s j ≠ 126 ∧ bAt s j ≠ 44 ∧ bAt s j ≠ 41) → SeqTo s g D P j m ds → j < m → m ≤ s.size → (sumS ds ds.length).lim → x.lim → TailTo s g D P e y m (S3.add x (sumS ds ds.length)) → TailTo s g D P e y k x
  | sign {k j i m : Nat} {x : S3} {ds : List S3} : k ≤ s.size → Sk s k j → k < j → j < s.size → (bAt s j = 43 ∨ bAt s j = 62 ∨ bAt s j = 126) → Sk s (j + 1) i → i < s.size → SeqTo s g D P i m ds → j < m → m ≤ s.size → (sumS ds ds.length).lim → x.lim → TailTo s g D P e y m (S3.add x (sumS ds ds.length)) → TailTo s g D P e y k x
/-- A selector from k up to e. -/
def SelTo (s : ByteArray) (g : Nat) (D P : Value) (k e : Nat) (y : S3) : Prop :=
  ∃ i m ds, Sk s k i ∧ i < s.size ∧ SeqTo s g D P i m ds ∧ (sumS ds ds.length).lim ∧ TailTo s g D P e y m (sumS ds ds.length)

set_option maxRecDepth 100000 in
set_option maxHeartbeats 8000000 in
theorem pSel_to (s : ByteArray) (g k e : Nat) (y : S3) (D P : Value) (B : Nat) (W w : World) (hs : s.size ≤ 100000) (hk : k ≤ s.size) (hq : SelTo s g D P k e y) (hgB : g < B) (h : PrX s g k D P B W w) :
    Calls Tryz.prog 20 #[.pointer (some ⟨g, 0, none⟩)] w (SqY y s e g D P B W) := by
  have HR := Lib.hid h
  obtain ⟨i, m, ds, hsk, hi, hseq, hlm, htl⟩ := hq
  have HSk := Lib.hid (pSkip_to s g k i D P B W w hs hk hsk h)
  have HSq : Hid (∀ U, PrX s g i D P B W U → Calls Tryz.prog 32 #[.pointer (some ⟨g, 0, none⟩)] U (SqY (sumS ds ds.length) s m g D P B W)) := fun U hU => pSeq_to s g i m ds D P B W U hs hi hseq hlm hgB hU
  have HT := Lib.hid htl
  clear h hsk hseq hlm htl
  go_enter Tryz.func20, Tryz.ntmps20
  go_wp2_with fail
  refine HSk.out.mono ?_
  rintro e1 w1 ⟨rfl, hr1⟩
  have HR1 := Lib.hid hr1
  clear hr1
  go_wp2_with fail
  refine (HSq.out _ HR1.out).mono ?_
  rintro e2 w2 ⟨v, rfl, hr2, htv, T, f, K, r, rfl, hm', hc', hh'⟩
  go_wp2_with fail
  go_loopg [4] (s.size - m) (fun gk v4 wr => ∃ (sv : Value) (x : S3) (k : Nat), sv = v4 ∧ gk = s.size - k ∧ Hid (PrX s g k D P B W wr) ∧ Hid (Disp B wr.heap.size sv x wr) ∧ Hid (TailTo s g D P e y k x))
  case atStart => exact ⟨_, _, m, rfl, rfl, hr2, ⟨htv, T, f, K, r, rfl, hm', hc', hh'⟩, HT.out⟩
  case round =>
    obtain ⟨sv, x, k, rfl, rfl, HP, HDv, HT⟩ := hrel
    obtain ⟨T0, f0, rfl⟩ : ∃ T0 f0, sv = .iface T0 f0 := by
      obtain ⟨_, T1, f1, _, _, e1, _⟩ := HDv.out
      exact ⟨T1, f1, e1⟩
    go_wp2_with fail
    refine calls_gen (R := fun U => PrX s g k D P B W U ∧ Disp B U.heap.size (.iface T0 f0) x U) ⟨by repeat (first | exact HP.out | refine PrX.drew ?_ _), HDv.out.next (Kp.of (by repeat (first | exact Below.refl _ _ | refine below_drewN ?_ _)) (Nat.le_refl _))⟩ ?_
    rintro U ⟨hU, hDU⟩
    have HU := Lib.hid hU
    have HDU := Lib.hid hDU
    clear hU hDU HP HDv
    rcases HT.out with ⟨hle, hsk, hstop⟩ | @⟨_, j, m, _, ds, hk, hsk, hkj, hj, hne, hseq, hjm, hms, hlm, hxl, htl⟩ | @⟨_, j, i, m, _, ds, hk, hsk, hkj, hj, hsg, hsk2, hi, hseq, hjm, hms, hlm, hxl, htl⟩
    · refine (pSkip_to s g e e D P U.heap.size U U hs hle hsk (PrX.of HU.out.blk)).mono ?_
      rintro e1 w1 ⟨rfl, hr1⟩
      rw [show decide (e < e) = false from decide_eq_false (Nat.lt_irrefl e)]
      have c0 := hr1.c0
      have c1 := hr1.c1
      have HR1 := Lib.hid hr1
      clear hr1
      have HD2 : Hid (Disp B w1.heap.size (.iface T0 f0) y w1) := (HDU.out.next (HR1.out.kp hgB (Nat.le_refl _))).more (Nat.le_refl _) (HR1.out.size) (Nat.le_refl _)
      have HP2 : Hid (PrX s g e D P B W w1) := HR1.out.comp HU.out HU.out.base
      clear hsk
      by_cases hlt : e < s.size
      · have hb := bAt_in hlt
        have hst := hstop hlt
        rw [hb] at hst
        have m43 : ((s[e].toNat : Int) == 43) = false := beq_eq_false_iff_ne.2 (by omega)
        have m62 : ((s[e].toNat : Int) == 62) = false := beq_eq_false_iff_ne.2 (by omega)
        have m126 : ((s[e].toNat : Int) == 126) = false := beq_eq_false_iff_ne.2 (by omega)
        rcases hst with q | q
        · have m44 : ((s[e].toNat : Int) == 44) = true := beq_iff_eq.2 (by omega)
          clear q hb hstop
          go_wp2_with fail
          go_quiet (fail)
          go_wp2_with fail
          go_quiet (fail)
          go_wp2_with fail
          go_ret2
          exact ⟨_, rfl, by repeat (first | exact HP2.out | refine PrX.drew ?_ _), HD2.out.next (Kp.of (by repeat (first | exact Below.refl _ _ | refine below_drewN ?_ _)) (Nat.le_refl _))⟩
        · have m44 : ((s[e].toNat : Int) == 44) = false := beq_eq_false_iff_ne.2 (by omega)
          have m41 : ((s[e].toNat : Int) == 41) = true := beq_iff_eq.2 (by omega)
          clear q hb hstop
          go_wp2_with fail
          go_quiet (fail)
          go_wp2_with fail
          go_quiet (fail)
          go_wp2_with fail
          go_ret2
          exact ⟨_, rfl, by repeat (first | exact HP2.out | refine PrX.drew ?_ _), HD2.out.next (Kp.of (by repeat (first | exact Below.refl _ _ | refine below_drewN ?_ _)) (Nat.le_refl _))⟩
      · clear hstop
        go_wp2_with fail
        go_quiet (fail)
        go_wp2_with fail
        go_ret2
        exact ⟨_, rfl, by repeat (first | exact HP2.out | refine PrX.drew ?_ _), HD2.out.next (Kp.of (by repeat (first | exact Below.refl _ _ | refine below_drewN ?_ _)) (Nat.le_refl _))⟩
    · refine (pSkip_to s g k j D P U.heap.size U U hs hk hsk (PrX.of HU.out.blk)).mono ?_
      rintro e1 w1 ⟨rfl, hr1⟩
      rw [show decide (k < j) = true from decide_eq_true hkj]
      have c0 := hr1.c0
      have c1 := hr1.c1
      have f1 := hr1.fz 1
      have HR1 := Lib.hid hr1
      have HXl := Lib.hid hxl
      have HLm := Lib.hid hlm
      have HTl := Lib.hid htl
      clear hr1 hxl hlm htl
      have hb := bAt_in hj
      rw [hb] at hne
      obtain ⟨n1, n2, n3, n4, n5⟩ := hne
      have m43 : ((s[j].toNat : Int) == 43) = false := beq_eq_false_iff_ne.2 (by omega)
      have m62 : ((s[j].toNat : Int) == 62) = false := beq_eq_false_iff_ne.2 (by omega)
      have m126 : ((s[j].toNat : Int) == 126) = false := beq_eq_false_iff_ne.2 (by omega)
      have m44 : ((s[j].toNat : Int) == 44) = false := beq_eq_false_iff_ne.2 (by omega)
      have m41 : ((s[j].toNat : Int) == 41) = false := beq_eq_false_iff_ne.2 (by omega)
      have HSeq : Hid (∀ V, PrX s g j D P U.heap.size U V → Calls Tryz.prog 32 #[.pointer (some ⟨g, 0, none⟩)] V (SqY (sumS ds ds.length) s m g D P U.heap.size U)) := fun V hV => pSeq_to s g j m ds D P U.heap.size U V hs hj hseq HLm.out (Nat.lt_of_lt_of_le hgB HU.out.base) hV
      clear hseq hb n1 n2 n3 n4 n5 hsk f1
      go_wp2_with fail
      go_quiet (fail)
      go_wp2_with fail
      go_quiet (fail)
      go_wp2_with fail
      refine (HSeq.out _ (by repeat (first | exact HR1.out | refine PrX.drew ?_ _))).mono ?_
      rintro e2 w2 ⟨v, rfl, hr2, htv, T, f, K, r, rfl, hm', hc', hh'⟩
      have HD3 : Hid (Disp B w2.heap.size (.iface 62 (.agg #[.iface T0 f0, .int .u8 ((32 : Nat) : Int), .iface T f])) (S3.add x (sumS ds ds.length)) w2) :=
        dispComb B w2.heap.size (.iface T0 f0) (.iface T f) 32 x _ HXl.out HLm.out w2 ((HDU.out.next (hr2.kp hgB (Nat.le_refl _))).more (Nat.le_refl _) hr2.size (Nat.le_refl _)) (Disp.more ⟨htv, T, f, K, r, rfl, hm', hc', hh'⟩ HU.out.base (Nat.le_refl _) (Nat.le_refl _))
      have HP3 : Hid (PrX s g m D P B W w2) := hr2.comp HU.out HU.out.base
      clear hr2 htv hm' hc' hh'
      go_wp2_with fail
      go_roundg (s.size - m)
      case measure => omega
      case rel => exact ⟨_, _, m, rfl, rfl, HP3.out, HD3.out, HTl.out⟩
    · refine (pSkip_to s g k j D P U.heap.size U U hs hk hsk (PrX.of HU.out.blk)).mono ?_
      rintro e1 w1 ⟨rfl, hr1⟩
      rw [show decide (k < j) = true from decide_eq_true hkj]
      have c0 := hr1.c0
      have c1 := hr1.c1
      have f1 := hr1.fz 1
      have HR1 := Lib.hid hr1
      have HXl := Lib.hid hxl
      have HLm := Lib.hid hlm
      have HTl := Lib.hid htl
      clear hr1 hxl hlm htl
      have hb := bAt_in hj
      rw [hb] at hsg
      have HSeq : Hid (∀ V, PrX s g i D P U.heap.size U V → Calls Tryz.prog 32 #[.pointer (some ⟨g, 0, none⟩)] V (SqY (sumS ds ds.length) s m g D P U.heap.size U)) := fun V hV => pSeq_to s g i m ds D P U.heap.size U V hs hi hseq HLm.out (Nat.lt_of_lt_of_le hgB HU.out.base) hV
      have HSk2 : Hid (∀ V, PrX s g (j + 1) D P U.heap.size U V → Calls Tryz.prog 31 #[.pointer (some ⟨g, 0, none⟩)] V (SkY (decide (j + 1 < i)) s i g D P U.heap.size U)) := fun V hV => pSkip_to s g (j + 1) i D P U.heap.size U V hs hj hsk2 hV
      have HS : Hid (∀ V x, x = ((j + 1 : Nat) : Int) → PrX s g j D P U.heap.size U V → PrX s g (j + 1) D P U.heap.size U (V.setCell ⟨g, 1, none⟩ (.int .i64 x))) := fun V x hx h => h.setI _ _ hx
      clear hseq hb hsk hsk2
      rcases hsg with q | q | q
      · have m43 : ((s[j].toNat : Int) == 43) = true := beq_iff_eq.2 (by omega)
        have hnz : ((s[j].toNat : Int) == 0) = false := beq_eq_false_iff_ne.2 (by omega)
        have HQ : Hid (s[j].toNat = 43) := q
        clear q
        go_wp2_with fail
        go_quiet (fail)
        go_wp2_with fail
        go_quiet (fail)
        go_wp2_with fail
        go_quiet (fail)
        go_wp2_with fail
        refine (HSk2.out _ (HS.out _ _ (by omega) (by repeat (first | exact HR1.out | refine PrX.drew ?_ _)))).mono ?_
        rintro e3 w3 ⟨rfl, hr3⟩
        have HR3 := Lib.hid hr3
        clear hr3
        go_wp2_with fail
        refine (HSeq.out _ (by repeat (first | exact HR3.out | refine PrX.drew ?_ _))).mono ?_
        rintro e2 w2 ⟨v, rfl, hr2, htv, T, f, K, r, rfl, hm', hc', hh'⟩
        have HD3 : Hid (Disp B w2.heap.size (.iface 62 (.agg #[.iface T0 f0, .int .u8 ((s[j].toNat : Nat) : Int), .iface T f])) (S3.add x (sumS ds ds.length)) w2) :=
          dispComb B w2.heap.size (.iface T0 f0) (.iface T f) s[j].toNat x _ HXl.out HLm.out w2 ((HDU.out.next (hr2.kp hgB (Nat.le_refl _))).more (Nat.le_refl _) hr2.size (Nat.le_refl _)) (Disp.more ⟨htv, T, f, K, r, rfl, hm', hc', hh'⟩ HU.out.base (Nat.le_refl _) (Nat.le_refl _))
        have HP3 : Hid (PrX s g m D P B W w2) := hr2.comp HU.out HU.out.base
        clear hr2 htv hm' hc' hh'
        go_wp2_with fail
        go_roundg (s.size - m)
        case measure => omega
        case rel => exact ⟨_, _, m, rfl, rfl, HP3.out, HD3.out, HTl.out⟩
      · have m43 : ((s[j].toNat : Int) == 43) = false := beq_eq_false_iff_ne.2 (by omega)
        have m62 : ((s[j].toNat : Int) == 62) = true := beq_iff_eq.2 (by omega)
        have hnz : ((s[j].toNat : Int) == 0) = false := beq_eq_false_iff_ne.2 (by omega)
        have HQ : Hid (s[j].toNat = 62) := q
        clear q
        go_wp2_with fail
        go_quiet (fail)
        go_wp2_with fail
        go_quiet (fail)
        go_wp2_with fail
        go_quiet (fail)
        go_wp2_with fail
        refine (HSk2.out _ (HS.out _ _ (by omega) (by repeat (first | exact HR1.out | refine PrX.drew ?_ _)))).mono ?_
        rintro e3 w3 ⟨rfl, hr3⟩
        have HR3 := Lib.hid hr3
        clear hr3
        go_wp2_with fail
        refine (HSeq.out _ (by repeat (first | exact HR3.out | refine PrX.drew ?_ _))).mono ?_
        rintro e2 w2 ⟨v, rfl, hr2, htv, T, f, K, r, rfl, hm', hc', hh'⟩
        have HD3 : Hid (Disp B w2.heap.size (.iface 62 (.agg #[.iface T0 f0, .int .u8 ((s[j].toNat : Nat) : Int), .iface T f])) (S3.add x (sumS ds ds.length)) w2) :=
          dispComb B w2.heap.size (.iface T0 f0) (.iface T f) s[j].toNat x _ HXl.out HLm.out w2 ((HDU.out.next (hr2.kp hgB (Nat.le_refl _))).more (Nat.le_refl _) hr2.size (Nat.le_refl _)) (Disp.more ⟨htv, T, f, K, r, rfl, hm', hc', hh'⟩ HU.out.base (Nat.le_refl _) (Nat.le_refl _))
        have HP3 : Hid (PrX s g m D P B W w2) := hr2.comp HU.out HU.out.base
        clear hr2 htv hm' hc' hh'
        go_wp2_with fail
        go_roundg (s.size - m)
        case measure => omega
        case rel => exact ⟨_, _, m, rfl, rfl, HP3.out, HD3.out, HTl.out⟩
      · have m43 : ((s[j].toNat : Int) == 43) = false := beq_eq_false_iff_ne.2 (by omega)
        have m62 : ((s[j].toNat : Int) == 62) = false := beq_eq_false_iff_ne.2 (by omega)
        have m126 : ((s[j].toNat : Int) == 126) = true := beq_iff_eq.2 (by omega)
        have hnz : ((s[j].toNat : Int) == 0) = false := beq_eq_false_iff_ne.2 (by omega)
        have HQ : Hid (s[j].toNat = 126) := q
        clear q
        go_wp2_with fail
        go_quiet (fail)
        go_wp2_with fail
        go_quiet (fail)
        go_wp2_with fail
        go_quiet (fail)
        go_wp2_with fail
        refine (HSk2.out _ (HS.out _ _ (by omega) (by repeat (first | exact HR1.out | refine PrX.drew ?_ _)))).mono ?_
        rintro e3 w3 ⟨rfl, hr3⟩
        have HR3 := Lib.hid hr3
        clear hr3
        go_wp2_with fail
        refine (HSeq.out _ (by repeat (first | exact HR3.out | refine PrX.drew ?_ _))).mono ?_
        rintro e2 w2 ⟨v, rfl, hr2, htv, T, f, K, r, rfl, hm', hc', hh'⟩
        have HD3 : Hid (Disp B w2.heap.size (.iface 62 (.agg #[.iface T0 f0, .int .u8 ((s[j].toNat : Nat) : Int), .iface T f])) (S3.add x (sumS ds ds.length)) w2) :=
          dispComb B w2.heap.size (.iface T0 f0) (.iface T f) s[j].toNat x _ HXl.out HLm.out w2 ((HDU.out.next (hr2.kp hgB (Nat.le_refl _))).more (Nat.le_refl _) hr2.size (Nat.le_refl _)) (Disp.more ⟨htv, T, f, K, r, rfl, hm', hc', hh'⟩ HU.out.base (Nat.le_refl _) (Nat.le_refl _))
        have HP3 : Hid (PrX s g m D P B W w2) := hr2.comp HU.out HU.out.base
        clear hr2 htv hm' hc' hh'
        go_wp2_with fail
        go_roundg (s.size - m)
        case measure => omega
        case rel => exact ⟨_, _, m, rfl, rfl, HP3.out, HD3.out, HTl.out⟩
end Go.Proofs.YtnibpdmbccfgoaaGreatDoor
