/- FnEach: the numbers up to a number, and the walk. -/
import Derived.Test.YtgilbckfkngaiaaT178
import Derived.Test.YtgilbckfkngaiaaT174
import Derived.Test.YtgilbckfkngaiaaT35
import Derived.Test.YtgilbckfkngaiaaT18
import Derived.Test.YtgilbckfkngaiaaT25
namespace Go.Proofs.Ytgilbckfkngaiaa
open Go.RowKit
set_option linter.unusedVariables false

def UpPost (n : Nat) (w : World) (e : Ending) (w' : World) : Prop := ∃ v, e = .returned v ∧ OwnI w.heap.size (upN n) v w' ∧ Below w.heap.size w w'
def UpRel (n : Nat) (w : World) (v x : Value) (wr : World) : Prop :=
  ∃ k a c, k ≤ n ∧ x = .int .i64 (k : Nat) ∧ v = .slice a k c ∧ wr.ownsRow w.heap.size 3 1 (.slice a k c) k (ivs (upN k)) ∧ Below w.heap.size w wr

set_option maxRecDepth 100000 in
set_option maxHeartbeats 2000000 in
theorem upTo_any (n : Nat) (hn : n ≤ 100000) (w : World) : Calls Try.prog 40 #[.int .i64 n] w (UpPost n w) := by
  obtain ⟨i0, hinf, hz0, hz1, hz2⟩ := info_parts Try.info3
  go_enter Try.func40, Try.ntmps40
  go_wp2_with fail
  go_loopw [3, 4] (fun v x wr => UpRel n w v x wr) (fun _ x _ => n - (intOf x).toNat)
  case atStart => exact ⟨0, none, 0, by omega, rfl, rfl, World.ownsRow_nil _ _ _ _, Below.refl _ _⟩
  case round =>
    obtain ⟨k, a1, c1, hk, rfl, rfl, hown, hb⟩ := hrel
    by_cases hlt : k < n
    · have HW := Lib.hid hown
      have hsz := hb.size
      clear hown
      go_wp2_with (at_builtin; refine wpList_append_own _ rfl _ _ 37 rfl w.heap.size 3 i0 (.int .i64 0) 1 8 Try.underlying37 hinf hz0 hz1 hz2 rfl (by decide) _ _ _ rfl (HW.out.alloc _) ⟨wr.heap.size, 0, none⟩ 1 1 [.int .i64 (k : Int)] rfl rfl ?c1 ?c2 ?c3 ?c4 ?c5 ?_)
      case c1 =>
        intro q u hq
        match q, hq with
        | 0, hq => simp at hq; subst hq; simp [Addr.add]
      case c2 => intro u hu; simp at hu; subst hu; rfl
      case c3 => unfold maxLen; omega
      case c4 => omega
      case c5 => simp; omega
      · intro v' w1 hown' hgrow _
        obtain ⟨a2, c2, hv2⟩ := own_slice hown'
        rw [hv2] at hown' ⊢
        have hb1 : Below w.heap.size w w1 := (hb.alloc hb.size _).grown hgrow (by simp; omega) (fun q hq => (HW.out.lt q hq).1)
        have HO1 : Hid (w1.ownsRow w.heap.size 3 1 (.slice a2 (k + 1) c2) (k + 1) (ivs (upN (k + 1)))) := by
          rw [Hid, upN_succ, ivs_snoc]; exact hown'
        clear hown' hgrow hv2
        go_wp2_with fail
        go_roundw
        case rel => exact ⟨k + 1, a2, c2, by omega, by go_num, rfl, HO1.out, hb1⟩
        case measure => simp [intOf]; omega
    · have e : k = n := by omega
      subst e
      have hl : (upN k).length = k := upN_len k
      have H : Hid (OwnI w.heap.size (upN k) (.slice a1 k c1) wr) := ⟨a1, c1, by rw [hl], by rw [hl]; exact hown⟩
      clear hl hown
      go_wp2_with fail
      go_ret
      exact ⟨_, rfl, H.out, hb⟩

theorem rsl_take {w : World} {B : Nat} {a : Option Addr} {xs : List Value} (h : RSl w B a xs) (k : Nat) : RSl w B a (xs.take k) := by
  rcases h with h | ⟨b, o, ha, hb, hc⟩
  · exact .inl (by rw [h]; simp)
  · refine .inr ⟨b, o, ha, hb, fun i hi => ?_⟩
    have hi' : i < xs.length := by rw [List.length_take] at hi; omega
    rw [hc i hi']
    simp

theorem upTo_yes (m : Nat) (hm : m ≤ 100000) (x : Nat) (w : World) (hx : x = m) : Calls Try.prog 40 #[.int .i64 x] w fun e w' => ∃ a c, e = .returned (.slice a (upN m).length c) ∧ RSl w' w'.heap.size a (ivs (upN m)) ∧ Below w.heap.size w w' := by
  subst hx
  refine (upTo_any x hm w).mono ?_
  rintro e w' ⟨v, rfl, hown, hb⟩
  obtain ⟨a, c, rfl, hr⟩ := hown.row
  exact ⟨a, c, rfl, hr, hb⟩

theorem sameL_yes (L : List Int) (hL : L.length ≤ 100000) (a : Option Addr) (n c : Nat) (a2 : Option Addr) (n2 c2 : Nat) (w : World) (h1 : RSl w w.heap.size a (ivs L)) (h2 : RSl w w.heap.size a2 (ivs L)) (e1 : n = L.length) (e2 : n2 = L.length) :
    Calls Try.prog 39 #[.slice a n c, .slice a2 n2 c2] w fun e w' => e = .returned (.bool true) ∧ Below w.heap.size w w' := by
  subst e1 e2
  refine (sameList_any a c L a2 c2 L (by omega) (by omega) w h1 h2).mono ?_
  rintro e w' ⟨q, rfl, rfl⟩
  exact ⟨by simp, below_drewN (Below.refl _ _) q⟩

set_option maxRecDepth 100000 in
set_option maxHeartbeats 4000000 in
theorem FnEach_walk (ad : Option Addr) (len c : Nat) (t : List Nd) (a2 : Option Addr) (len2 c2 : Nat) (l : List Int) (I : Int) (w : World) (h : NSl w w.heap.size ad t ∧ len = t.length) (hi : ISl w w.heap.size a2 l ∧ len2 = l.length ∧ len2 ≤ c2) (hI : (Lit.int .i64 I).wf = true) :
    Calls Try.prog 6 #[.slice ad len c, .slice a2 len2 c2, .int .i64 I] w fun e w' => e = .returned (.bool true) ∧ Below w.heap.size w w' := by
  obtain ⟨h, rfl⟩ := h
  obtain ⟨hi, rfl, hcap⟩ := hi
  have HH := Lib.hid h
  have hll := hi.len
  have HI := Lib.hid hi
  unfold maxLen at hll
  obtain ⟨hI1, hI2⟩ := wf_bounds hI
  clear h hi hI
  go_enter Try.func6, Try.ntmps6
  go_wp2_with fail
  refine (zzFits1_any _ _ t _ HH.out).mono ?_
  rintro e w1 ⟨rfl, hb1⟩
  have HB1 := Lib.hid hb1
  clear hb1
  cases hf : fits1 t
  · go_wp2_with fail
    go_ret
    exact ⟨rfl, HB1.out⟩
  by_cases k1 : 2147483647 < l.length
  · go_wp2_with fail
    go_ret
    exact ⟨rfl, HB1.out⟩
  go_wp2_with fail
  refine (selection_any _ _ t hf _ _ l (by omega) _ (HH.out.up HB1.out) (HI.out.up HB1.out)).mono ?_
  rintro e w2 ⟨b, rfl, hS, hb2⟩
  have HB2 := Lib.hid (bnext HB1.out hb2)
  clear hb2
  cases b
  · clear hS
    go_wp2_with fail
    go_ret
    exact ⟨rfl, HB2.out⟩
  obtain ⟨ns, hS⟩ := hS rfl
  by_cases s1 : I < 1
  · clear hS
    go_wp2_with fail
    go_ret
    exact ⟨rfl, HB2.out⟩
  by_cases s2 : 300 < I
  · clear hS
    go_wp2_with fail
    go_ret
    exact ⟨rfl, HB2.out⟩
  obtain ⟨s, rfl⟩ : ∃ s : Nat, I = (s : Int) := ⟨I.toNat, by omega⟩
  have hs0 : 1 ≤ s ∧ s ≤ 300 := by omega
  have hns : ns.length ≤ 200 := by have := hS.ord.len; have := hS.right.le; omega
  have HLN := Lib.hid hS.ord.length
  have HEq := Lib.hid hS.ord.toI
  have HS := Lib.hid hS
  have E1 := Lib.hid (eachStop_any ad c t hS.right a2 c2 l ns hS.ord (by omega) hns s hs0 w2 (HH.out.up HB2.out) (HI.out.up HB2.out))
  have E2 := Lib.hid (fun W (hb : Below w.heap.size w W) => eachAll_any ad c t hS.right a2 c2 l ns hS.ord (by omega) hns W (HH.out.up hb) (HI.out.up hb))
  have E3 := Lib.hid (fun W (hb : Below w.heap.size w W) => eachIter_any ad c t hS.right a2 c2 l ns hS.ord (by omega) hns W (HH.out.up hb) (HI.out.up hb))
  have E4 := Lib.hid (fun W (hb : Below w.heap.size w W) => mapped_any ad c t hS.right a2 c2 l ns hS.ord (by omega) hns W (HH.out.up hb) (HI.out.up hb))
  clear hS
  go_wp2_with fail
  refine E1.out.mono ?_
  rintro e w3 ⟨an1, cn1, al1, cl1, rfl, r1, q1, hb⟩
  have R1 := Lib.hid r1
  have Q1 := Lib.hid q1
  have HB3 := Lib.hid (bnext HB2.out hb)
  clear r1 q1 hb
  go_wp2_with fail
  refine (E2.out _ HB3.out).mono ?_
  rintro e w4 ⟨an2, cn2, al2, cl2, rfl, r2, q2, hb⟩
  have R2 := Lib.hid r2
  have Q2 := Lib.hid q2
  have B34 := Lib.hid hb
  have HB4 := Lib.hid (bnext HB3.out hb)
  clear r2 q2 hb
  go_wp2_with fail
  refine (E3.out _ HB4.out).mono ?_
  rintro e w5 ⟨an3, cn3, al3, cl3, rfl, r3, q3, hb⟩
  have R3 := Lib.hid r3
  have Q3 := Lib.hid q3
  have B45 := Lib.hid hb
  have HB5 := Lib.hid (bnext HB4.out hb)
  clear r3 q3 hb
  go_wp2_with fail
  refine (E4.out _ HB5.out).mono ?_
  rintro e w6 ⟨an4, cn4, al4, cl4, rfl, r4, q4, hb⟩
  have R4 := Lib.hid r4
  have Q4 := Lib.hid q4
  have B56 := Lib.hid hb
  have HB6 := Lib.hid (bnext HB5.out hb)
  clear r4 q4 hb
  have R3 := Lib.hid (R3.out.up B56.out)
  have Q3 := Lib.hid (Q3.out.up B56.out)
  have R2 := Lib.hid (R2.out.up (bnext B45.out B56.out))
  have Q2 := Lib.hid (Q2.out.up (bnext B45.out B56.out))
  have R1 := Lib.hid (R1.out.up (bnext B34.out (bnext B45.out B56.out)))
  have Q1 := Lib.hid (Q1.out.up (bnext B34.out (bnext B45.out B56.out)))
  have F6 : Hid (RSl w6 w6.heap.size a2 (ivs (toI ns))) := by have := (HI.out.up HB6.out).row; rw [HEq.out] at this; exact this
  clear E1 E2 E3 E4
  obtain ⟨m, hm⟩ : ∃ m, m = min s ns.length := ⟨_, rfl⟩
  rw [← hm] at R1 Q1 ⊢
  have T6 : Hid (RSl w6 w6.heap.size a2 (ivs (toI (ns.take m)))) := by
    have := rsl_take F6.out m
    have e : (ivs (toI ns)).take m = ivs (toI (ns.take m)) := by simp [ivs, toI, List.map_take]
    rw [e] at this; exact this
  have L1 : Hid ((toI (ns.take m)).length = m) := by rw [Hid, toI_length, List.length_take]; omega
  have L2 : Hid ((upN m).length = m) := upN_len m
  have L3 : Hid ((toI ns).length = ns.length) := toI_length ns
  have L4 : Hid ((upN ns.length).length = ns.length) := upN_len _
  have hmm : m ≤ 200 := by omega
  have HM := Lib.hid hm
  clear hm
  have hcap' : (l.length : Int) ≤ (c2 : Int) := by omega
  by_cases hsl : (s : Int) ≤ (l.length : Int)
  · have hsc : (s : Int) ≤ (c2 : Int) := by omega
    have Hms : Hid (m = s) := by have := HM.out; have := HLN.out; unfold Hid; omega
    go_wp2_with fail
    refine (sameL_yes (toI (ns.take m)) (by rw [L1.out]; omega) _ _ _ _ _ _ w6 Q1.out T6.out ?e0 ?f0).mono ?_
    case e0 => first | rfl | (rw [L1.out]; have := HLN.out; have := Hms.out; omega)
    case f0 => first | rfl | (rw [L1.out]; have := HLN.out; have := Hms.out; omega)
    rintro e w7 ⟨rfl, hb⟩
    have HB7 := Lib.hid (bnext HB6.out hb)
    have R1 := Lib.hid (R1.out.up hb)
    have R2 := Lib.hid (R2.out.up hb)
    have Q2 := Lib.hid (Q2.out.up hb)
    have R3 := Lib.hid (R3.out.up hb)
    have Q3 := Lib.hid (Q3.out.up hb)
    have R4 := Lib.hid (R4.out.up hb)
    have Q4 := Lib.hid (Q4.out.up hb)
    have F6 := Lib.hid (F6.out.up hb)
    clear hb
    go_wp2_with fail
    refine (upTo_yes m (by omega) _ w7 ?e1).mono ?_
    case e1 => first | rfl | (have := HLN.out; have := Hms.out; omega)
    rintro e w8 ⟨aU1, cU1, rfl, rU1, hb⟩
    have HB8 := Lib.hid (bnext HB7.out hb)
    have R1 := Lib.hid (R1.out.up hb)
    have R2 := Lib.hid (R2.out.up hb)
    have Q2 := Lib.hid (Q2.out.up hb)
    have R3 := Lib.hid (R3.out.up hb)
    have Q3 := Lib.hid (Q3.out.up hb)
    have R4 := Lib.hid (R4.out.up hb)
    have Q4 := Lib.hid (Q4.out.up hb)
    have F6 := Lib.hid (F6.out.up hb)
    have UP := Lib.hid rU1
    clear rU1
    clear hb
    go_wp2_with fail
    refine (sameL_yes (upN m) (by rw [L2.out]; omega) _ _ _ _ _ _ w8 R1.out UP.out ?e2 ?f2).mono ?_
    case e2 => first | rfl | (rw [L2.out]; have := HLN.out; have := Hms.out; omega)
    case f2 => first | rfl | (rw [L2.out]; have := HLN.out; have := Hms.out; omega)
    rintro e w9 ⟨rfl, hb⟩
    have HB9 := Lib.hid (bnext HB8.out hb)
    have R2 := Lib.hid (R2.out.up hb)
    have Q2 := Lib.hid (Q2.out.up hb)
    have R3 := Lib.hid (R3.out.up hb)
    have Q3 := Lib.hid (Q3.out.up hb)
    have R4 := Lib.hid (R4.out.up hb)
    have Q4 := Lib.hid (Q4.out.up hb)
    have F6 := Lib.hid (F6.out.up hb)
    have UP := Lib.hid (UP.out.up hb)
    clear hb
    go_wp2_with fail
    refine (sameL_yes (toI ns) (by rw [L3.out]; omega) _ _ _ _ _ _ w9 Q2.out F6.out ?e3 ?f3).mono ?_
    case e3 => first | rfl | (rw [L3.out]; have := HLN.out; have := Hms.out; omega)
    case f3 => first | rfl | (rw [L3.out]; have := HLN.out; have := Hms.out; omega)
    rintro e w10 ⟨rfl, hb⟩
    have HB10 := Lib.hid (bnext HB9.out hb)
    have R2 := Lib.hid (R2.out.up hb)
    have R3 := Lib.hid (R3.out.up hb)
    have Q3 := Lib.hid (Q3.out.up hb)
    have R4 := Lib.hid (R4.out.up hb)
    have Q4 := Lib.hid (Q4.out.up hb)
    have F6 := Lib.hid (F6.out.up hb)
    have UP := Lib.hid (UP.out.up hb)
    clear hb
    go_wp2_with fail
    refine (upTo_yes ns.length (by omega) _ w10 ?e4).mono ?_
    case e4 => first | rfl | (have := HLN.out; have := Hms.out; omega)
    rintro e w11 ⟨aU4, cU4, rfl, rU4, hb⟩
    have HB11 := Lib.hid (bnext HB10.out hb)
    have R2 := Lib.hid (R2.out.up hb)
    have R3 := Lib.hid (R3.out.up hb)
    have Q3 := Lib.hid (Q3.out.up hb)
    have R4 := Lib.hid (R4.out.up hb)
    have Q4 := Lib.hid (Q4.out.up hb)
    have F6 := Lib.hid (F6.out.up hb)
    have UP := Lib.hid (UP.out.up hb)
    have UP := Lib.hid rU4
    clear rU4
    clear hb
    go_wp2_with fail
    refine (sameL_yes (upN ns.length) (by rw [L4.out]; omega) _ _ _ _ _ _ w11 R2.out UP.out ?e5 ?f5).mono ?_
    case e5 => first | rfl | (rw [L4.out]; have := HLN.out; have := Hms.out; omega)
    case f5 => first | rfl | (rw [L4.out]; have := HLN.out; have := Hms.out; omega)
    rintro e w12 ⟨rfl, hb⟩
    have HB12 := Lib.hid (bnext HB11.out hb)
    have R2 := Lib.hid (R2.out.up hb)
    have R3 := Lib.hid (R3.out.up hb)
    have Q3 := Lib.hid (Q3.out.up hb)
    have R4 := Lib.hid (R4.out.up hb)
    have Q4 := Lib.hid (Q4.out.up hb)
    have F6 := Lib.hid (F6.out.up hb)
    clear hb
    go_wp2_with fail
    refine (sameL_yes (toI ns) (by rw [L3.out]; omega) _ _ _ _ _ _ w12 Q3.out F6.out ?e6 ?f6).mono ?_
    case e6 => first | rfl | (rw [L3.out]; have := HLN.out; have := Hms.out; omega)
    case f6 => first | rfl | (rw [L3.out]; have := HLN.out; have := Hms.out; omega)
    rintro e w13 ⟨rfl, hb⟩
    have HB13 := Lib.hid (bnext HB12.out hb)
    have R2 := Lib.hid (R2.out.up hb)
    have R3 := Lib.hid (R3.out.up hb)
    have R4 := Lib.hid (R4.out.up hb)
    have Q4 := Lib.hid (Q4.out.up hb)
    have F6 := Lib.hid (F6.out.up hb)
    clear hb
    go_wp2_with fail
    refine (sameL_yes (upN ns.length) (by rw [L4.out]; omega) _ _ _ _ _ _ w13 R3.out R2.out ?e7 ?f7).mono ?_
    case e7 => first | rfl | (rw [L4.out]; have := HLN.out; have := Hms.out; omega)
    case f7 => first | rfl | (rw [L4.out]; have := HLN.out; have := Hms.out; omega)
    rintro e w14 ⟨rfl, hb⟩
    have HB14 := Lib.hid (bnext HB13.out hb)
    have R2 := Lib.hid (R2.out.up hb)
    have R4 := Lib.hid (R4.out.up hb)
    have Q4 := Lib.hid (Q4.out.up hb)
    have F6 := Lib.hid (F6.out.up hb)
    clear hb
    go_wp2_with fail
    refine (sameL_yes (toI ns) (by rw [L3.out]; omega) _ _ _ _ _ _ w14 Q4.out F6.out ?e8 ?f8).mono ?_
    case e8 => first | rfl | (rw [L3.out]; have := HLN.out; have := Hms.out; omega)
    case f8 => first | rfl | (rw [L3.out]; have := HLN.out; have := Hms.out; omega)
    rintro e w15 ⟨rfl, hb⟩
    have HB15 := Lib.hid (bnext HB14.out hb)
    have R2 := Lib.hid (R2.out.up hb)
    have R4 := Lib.hid (R4.out.up hb)
    clear hb
    go_wp2_with fail
    refine (sameL_yes (upN ns.length) (by rw [L4.out]; omega) _ _ _ _ _ _ w15 R4.out R2.out ?e9 ?f9).mono ?_
    case e9 => first | rfl | (rw [L4.out]; have := HLN.out; have := Hms.out; omega)
    case f9 => first | rfl | (rw [L4.out]; have := HLN.out; have := Hms.out; omega)
    rintro e w16 ⟨rfl, hb⟩
    have HB16 := Lib.hid (bnext HB15.out hb)
    clear hb
    go_wp2_with fail
    go_ret
    exact ⟨rfl, HB16.out⟩
  · have Hms : Hid (m = l.length) := by have := HM.out; have := HLN.out; unfold Hid; omega
    go_wp2_with fail
    refine (sameL_yes (toI (ns.take m)) (by rw [L1.out]; omega) _ _ _ _ _ _ w6 Q1.out T6.out ?e0 ?f0).mono ?_
    case e0 => first | rfl | (rw [L1.out]; have := HLN.out; have := Hms.out; omega)
    case f0 => first | rfl | (rw [L1.out]; have := HLN.out; have := Hms.out; omega)
    rintro e w7 ⟨rfl, hb⟩
    have HB7 := Lib.hid (bnext HB6.out hb)
    have R1 := Lib.hid (R1.out.up hb)
    have R2 := Lib.hid (R2.out.up hb)
    have Q2 := Lib.hid (Q2.out.up hb)
    have R3 := Lib.hid (R3.out.up hb)
    have Q3 := Lib.hid (Q3.out.up hb)
    have R4 := Lib.hid (R4.out.up hb)
    have Q4 := Lib.hid (Q4.out.up hb)
    have F6 := Lib.hid (F6.out.up hb)
    clear hb
    go_wp2_with fail
    refine (upTo_yes m (by omega) _ w7 ?e1).mono ?_
    case e1 => first | rfl | (have := HLN.out; have := Hms.out; omega)
    rintro e w8 ⟨aU1, cU1, rfl, rU1, hb⟩
    have HB8 := Lib.hid (bnext HB7.out hb)
    have R1 := Lib.hid (R1.out.up hb)
    have R2 := Lib.hid (R2.out.up hb)
    have Q2 := Lib.hid (Q2.out.up hb)
    have R3 := Lib.hid (R3.out.up hb)
    have Q3 := Lib.hid (Q3.out.up hb)
    have R4 := Lib.hid (R4.out.up hb)
    have Q4 := Lib.hid (Q4.out.up hb)
    have F6 := Lib.hid (F6.out.up hb)
    have UP := Lib.hid rU1
    clear rU1
    clear hb
    go_wp2_with fail
    refine (sameL_yes (upN m) (by rw [L2.out]; omega) _ _ _ _ _ _ w8 R1.out UP.out ?e2 ?f2).mono ?_
    case e2 => first | rfl | (rw [L2.out]; have := HLN.out; have := Hms.out; omega)
    case f2 => first | rfl | (rw [L2.out]; have := HLN.out; have := Hms.out; omega)
    rintro e w9 ⟨rfl, hb⟩
    have HB9 := Lib.hid (bnext HB8.out hb)
    have R2 := Lib.hid (R2.out.up hb)
    have Q2 := Lib.hid (Q2.out.up hb)
    have R3 := Lib.hid (R3.out.up hb)
    have Q3 := Lib.hid (Q3.out.up hb)
    have R4 := Lib.hid (R4.out.up hb)
    have Q4 := Lib.hid (Q4.out.up hb)
    have F6 := Lib.hid (F6.out.up hb)
    have UP := Lib.hid (UP.out.up hb)
    clear hb
    go_wp2_with fail
    refine (sameL_yes (toI ns) (by rw [L3.out]; omega) _ _ _ _ _ _ w9 Q2.out F6.out ?e3 ?f3).mono ?_
    case e3 => first | rfl | (rw [L3.out]; have := HLN.out; have := Hms.out; omega)
    case f3 => first | rfl | (rw [L3.out]; have := HLN.out; have := Hms.out; omega)
    rintro e w10 ⟨rfl, hb⟩
    have HB10 := Lib.hid (bnext HB9.out hb)
    have R2 := Lib.hid (R2.out.up hb)
    have R3 := Lib.hid (R3.out.up hb)
    have Q3 := Lib.hid (Q3.out.up hb)
    have R4 := Lib.hid (R4.out.up hb)
    have Q4 := Lib.hid (Q4.out.up hb)
    have F6 := Lib.hid (F6.out.up hb)
    have UP := Lib.hid (UP.out.up hb)
    clear hb
    go_wp2_with fail
    refine (upTo_yes ns.length (by omega) _ w10 ?e4).mono ?_
    case e4 => first | rfl | (have := HLN.out; have := Hms.out; omega)
    rintro e w11 ⟨aU4, cU4, rfl, rU4, hb⟩
    have HB11 := Lib.hid (bnext HB10.out hb)
    have R2 := Lib.hid (R2.out.up hb)
    have R3 := Lib.hid (R3.out.up hb)
    have Q3 := Lib.hid (Q3.out.up hb)
    have R4 := Lib.hid (R4.out.up hb)
    have Q4 := Lib.hid (Q4.out.up hb)
    have F6 := Lib.hid (F6.out.up hb)
    have UP := Lib.hid (UP.out.up hb)
    have UP := Lib.hid rU4
    clear rU4
    clear hb
    go_wp2_with fail
    refine (sameL_yes (upN ns.length) (by rw [L4.out]; omega) _ _ _ _ _ _ w11 R2.out UP.out ?e5 ?f5).mono ?_
    case e5 => first | rfl | (rw [L4.out]; have := HLN.out; have := Hms.out; omega)
    case f5 => first | rfl | (rw [L4.out]; have := HLN.out; have := Hms.out; omega)
    rintro e w12 ⟨rfl, hb⟩
    have HB12 := Lib.hid (bnext HB11.out hb)
    have R2 := Lib.hid (R2.out.up hb)
    have R3 := Lib.hid (R3.out.up hb)
    have Q3 := Lib.hid (Q3.out.up hb)
    have R4 := Lib.hid (R4.out.up hb)
    have Q4 := Lib.hid (Q4.out.up hb)
    have F6 := Lib.hid (F6.out.up hb)
    clear hb
    go_wp2_with fail
    refine (sameL_yes (toI ns) (by rw [L3.out]; omega) _ _ _ _ _ _ w12 Q3.out F6.out ?e6 ?f6).mono ?_
    case e6 => first | rfl | (rw [L3.out]; have := HLN.out; have := Hms.out; omega)
    case f6 => first | rfl | (rw [L3.out]; have := HLN.out; have := Hms.out; omega)
    rintro e w13 ⟨rfl, hb⟩
    have HB13 := Lib.hid (bnext HB12.out hb)
    have R2 := Lib.hid (R2.out.up hb)
    have R3 := Lib.hid (R3.out.up hb)
    have R4 := Lib.hid (R4.out.up hb)
    have Q4 := Lib.hid (Q4.out.up hb)
    have F6 := Lib.hid (F6.out.up hb)
    clear hb
    go_wp2_with fail
    refine (sameL_yes (upN ns.length) (by rw [L4.out]; omega) _ _ _ _ _ _ w13 R3.out R2.out ?e7 ?f7).mono ?_
    case e7 => first | rfl | (rw [L4.out]; have := HLN.out; have := Hms.out; omega)
    case f7 => first | rfl | (rw [L4.out]; have := HLN.out; have := Hms.out; omega)
    rintro e w14 ⟨rfl, hb⟩
    have HB14 := Lib.hid (bnext HB13.out hb)
    have R2 := Lib.hid (R2.out.up hb)
    have R4 := Lib.hid (R4.out.up hb)
    have Q4 := Lib.hid (Q4.out.up hb)
    have F6 := Lib.hid (F6.out.up hb)
    clear hb
    go_wp2_with fail
    refine (sameL_yes (toI ns) (by rw [L3.out]; omega) _ _ _ _ _ _ w14 Q4.out F6.out ?e8 ?f8).mono ?_
    case e8 => first | rfl | (rw [L3.out]; have := HLN.out; have := Hms.out; omega)
    case f8 => first | rfl | (rw [L3.out]; have := HLN.out; have := Hms.out; omega)
    rintro e w15 ⟨rfl, hb⟩
    have HB15 := Lib.hid (bnext HB14.out hb)
    have R2 := Lib.hid (R2.out.up hb)
    have R4 := Lib.hid (R4.out.up hb)
    clear hb
    go_wp2_with fail
    refine (sameL_yes (upN ns.length) (by rw [L4.out]; omega) _ _ _ _ _ _ w15 R4.out R2.out ?e9 ?f9).mono ?_
    case e9 => first | rfl | (rw [L4.out]; have := HLN.out; have := Hms.out; omega)
    case f9 => first | rfl | (rw [L4.out]; have := HLN.out; have := Hms.out; omega)
    rintro e w16 ⟨rfl, hb⟩
    have HB16 := Lib.hid (bnext HB15.out hb)
    clear hb
    go_wp2_with fail
    go_ret
    exact ⟨rfl, HB16.out⟩
end Go.Proofs.Ytgilbckfkngaiaa
