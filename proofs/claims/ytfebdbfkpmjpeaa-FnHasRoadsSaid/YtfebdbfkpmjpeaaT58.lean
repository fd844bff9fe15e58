/- FnHasRoads: the walk. -/
import Derived.Test.YtfebdbfkpmjpeaaT57
import Derived.Test.YtfebdbfkpmjpeaaT35
import Derived.Test.YtfebdbfkpmjpeaaT41
namespace Go.Proofs.Ytfebdbfkpmjpeaa
open Go.RowKit
set_option linter.unusedVariables false

def hasI (t : List Nd) (ns ms : List Nat) : List Int := toI (hasN t ns ms)
def oneI (t : List Nd) (ms : List Nat) (i : Nat) : List Int := toI (mapN ms (findF t [i]))
def foundI (t : List Nd) (ns ms : List Nat) : List Int := ns.flatMap (oneI t ms)

theorem hasI_snoc (t : List Nd) (ns ms : List Nat) (i : Nat) : hasI t (ns ++ [i]) ms = hasI t ns ms ++ if 0 < (oneI t ms i).length then [(i : Int)] else [] := by
  have e : (0 < (oneI t ms i).length) ↔ (ms.any fun j => und t i j) = true := by
    unfold oneI
    rw [toI_length, List.length_pos_iff_exists_mem, List.any_eq_true]
    constructor
    · rintro ⟨x, hx⟩
      rw [findN_mem] at hx
      exact ⟨x, hx.1, by simpa using hx.2⟩
    · rintro ⟨x, hx, hu⟩
      exact ⟨x, (findN_mem t [i] ms x).2 ⟨hx, by simpa using hu⟩⟩
  unfold hasI
  rw [hasN_snoc]
  by_cases h : (ms.any fun j => und t i j) = true
  · rw [if_pos h, if_pos (e.2 h), toI_snoc]
  · rw [if_neg h, if_neg (fun q => h (e.1 q)), List.append_nil, List.append_nil]
theorem foundI_snoc (t : List Nd) (ns ms : List Nat) (i : Nat) : foundI t (ns ++ [i]) ms = foundI t ns ms ++ oneI t ms i := by
  unfold foundI
  rw [List.flatMap_append]
  simp
theorem foundI_same (t : List Nd) (ns ms : List Nat) (x : Int) : x ∈ toI (mapN ms (findF t ns)) ↔ x ∈ foundI t ns ms := by
  unfold foundI oneI toI
  simp only [List.mem_map, List.mem_flatMap, findN_mem, List.any_eq_true, List.mem_singleton]
  constructor
  · rintro ⟨k, ⟨hk, i, hi, hu⟩, rfl⟩
    exact ⟨i, hi, k, ⟨hk, i, rfl, hu⟩, rfl⟩
  · rintro ⟨i, hi, k, ⟨hk, j, rfl, hu⟩, rfl⟩
    exact ⟨k, ⟨hk, j, hi, hu⟩, rfl⟩

/-- Two rows that do not lie in one block. -/
def Apart (v1 v2 : Value) : Prop := ∀ b, v1.ownBlock = some b → v2.ownBlock ≠ some b
theorem Apart.ne {v1 v2 : Value} (h : Apart v1 v2) : v2.ownBlock = none ∨ v2.ownBlock ≠ v1.ownBlock := by
  cases h2 : v2.ownBlock with
  | none => exact .inl rfl
  | some b =>
    refine .inr fun e => ?_
    exact h b e.symm h2
theorem Apart.symm {v1 v2 : Value} (h : Apart v1 v2) : Apart v2 v1 := fun b h2 h1 => h b h1 h2
theorem Apart.step {v1 v2 v1' : Value} {n : Nat} (h : Apart v1 v2) (hat : v1'.ownBlock = v1.ownBlock ∨ v1'.ownBlock = some n) (hlt : ∀ k, v2.ownBlock = some k → k < n) : Apart v1' v2 := by
  intro b h1 h2
  rcases hat with e | e
  · exact h b (e ▸ h1) h2
  · rw [e] at h1
    cases h1
    exact absurd (hlt _ h2) (Nat.lt_irrefl _)

theorem Apart.none (n m : Nat) (v : Value) : Apart (.slice none n m) v := fun b h => by simp [Value.ownBlock] at h

theorem RSl.one (w : World) (x : Int) : RSl (w.alloc (.cells #[.int .i64 x] 3)) (w.alloc (.cells #[.int .i64 x] 3)).heap.size (some ⟨w.heap.size, 0, none⟩) (ivs [x]) := by
  refine .inr ⟨w.heap.size, 0, rfl, by simp, fun i hi => ?_⟩
  have e : i = 0 := by simp [ivs] at hi; omega
  subst e
  show World.cell? _ ⟨w.heap.size, 0, none⟩ = _
  rw [World.cell?_alloc_mark]
  rfl

/-- Where the law's loop stands. -/
def RoadRel (t : List Nd) (ns ms : List Nat) (w : World) (vo vh vf x : Value) (wr : World) : Prop :=
  ∃ (k : Nat) (ah : Option Addr) (ch : Nat) (af : Option Addr) (cf : Nat), k ≤ ns.length ∧ x = .int .i64 (k : Nat) ∧ vo = .bool true ∧
    vh = .slice ah (hasI t (ns.take k) ms).length ch ∧ vf = .slice af (foundI t (ns.take k) ms).length cf ∧
    wr.ownsRow w.heap.size 3 1 (.slice ah (hasI t (ns.take k) ms).length ch) (hasI t (ns.take k) ms).length (ivs (hasI t (ns.take k) ms)) ∧
    wr.ownsRow w.heap.size 3 1 (.slice af (foundI t (ns.take k) ms).length cf) (foundI t (ns.take k) ms).length (ivs (foundI t (ns.take k) ms)) ∧
    Hid (Apart (.slice ah (hasI t (ns.take k) ms).length ch) (.slice af (foundI t (ns.take k) ms).length cf)) ∧ Hid ((hasI t (ns.take k) ms).length ≤ k ∧ (foundI t (ns.take k) ms).length ≤ k * 200) ∧ Below w.heap.size w wr

set_option maxRecDepth 100000 in
set_option maxHeartbeats 8000000 in
theorem FnHasRoads_walk (ad : Option Addr) (len c : Nat) (t : List Nd) (a2 : Option Addr) (len2 c2 : Nat) (l : List Int) (a3 : Option Addr) (len3 c3 : Nat) (m : List Int) (w : World) (h : NSl w w.heap.size ad t ∧ len = t.length) (hi : ISl w w.heap.size a2 l ∧ len2 = l.length ∧ len2 ≤ c2) (hj : ISl w w.heap.size a3 m ∧ len3 = m.length) :
    Calls Try.prog 17 #[.slice ad len c, .slice a2 len2 c2, .slice a3 len3 c3] w fun e w' => e = .returned (.bool true) ∧ Below w.heap.size w w' := by
  obtain ⟨h, rfl⟩ := h
  obtain ⟨hi, rfl, hc2⟩ := hi
  obtain ⟨hj, rfl⟩ := hj
  have HH := Lib.hid h
  have hll := hi.len
  have hml := hj.len
  have HI := Lib.hid hi
  have HJ := Lib.hid hj
  unfold maxLen at hll hml
  clear h hi hj
  go_enter Try.func17, Try.ntmps17
  go_wp2_with fail
  refine (zzFits1_any _ _ t _ HH.out).mono ?_
  rintro e w1 ⟨rfl, hb1⟩
  have HB1 := Lib.hid hb1
  clear hb1
  cases hf : fits1 t
  · go_wp2_with fail
    go_ret
    exact ⟨rfl, HB1.out⟩
  by_cases k1 : 2147483647 < l.length
  · go_wp2_with fail
    go_ret
    exact ⟨rfl, HB1.out⟩
  by_cases k2 : 2147483647 < m.length
  · go_wp2_with fail
    go_ret
    exact ⟨rfl, HB1.out⟩
  go_wp2_with fail
  refine (some_any _ _ t hf _ _ l (by omega) _ _ m (by omega) _ (HH.out.up HB1.out) (HI.out.up HB1.out) (HJ.out.up HB1.out)).mono ?_
  rintro e w2 ⟨b, rfl, hS, hb2⟩
  have HB2 := Lib.hid (bnext HB1.out hb2)
  clear hb2
  cases b
  · clear hS
    go_wp2_with fail
    go_ret
    exact ⟨rfl, HB2.out⟩
  obtain ⟨⟨ns, hS1⟩, ms, hS2⟩ := hS rfl
  have HS1 := Lib.hid hS1
  have HS2 := Lib.hid hS2
  have hle := hS1.right.le
  have HNL := Lib.hid (show ns.length ≤ 200 by have := hS1.ord.len; omega)
  have HML := Lib.hid (show ms.length ≤ 200 by have := hS2.ord.len; omega)
  have hln := hS1.ord.length
  have HHas : Hid (Calls Try.prog 65 #[.slice ad t.length c, .slice a2 l.length c2, .slice a3 m.length c3] w2 (ListPost (hasI t ns ms) w2)) := hasOf_any ad c t hS1.right a2 c2 l ns hS1.ord (by omega) a3 c3 m ms hS2.ord (by omega) w2 (HH.out.up HB2.out) (HI.out.up HB2.out) (HJ.out.up HB2.out)
  have HFind : Hid (∀ W, Below w.heap.size w W → Calls Try.prog 66 #[.slice ad t.length c, .slice a2 l.length c2, .slice a3 m.length c3] W (ListPost (toI (mapN ms (findF t ns))) W)) := fun W hW =>
    findOf_any ad c t HS1.out.right a2 c2 l ns HS1.out.ord (by omega) a3 c3 m ms HS2.out.ord (by omega) W (HH.out.up hW) (HI.out.up hW) (HJ.out.up hW)
  have HOne : Hid (∀ W, Below w.heap.size w W → ∀ k (hk : k < ns.length) (b o : Nat), a2 = some ⟨b, o, none⟩ → ∀ n1 cp o', n1 = 1 → o' = o + k → Calls Try.prog 66 #[.slice ad t.length c, .slice (some ⟨b, o', none⟩) n1 cp, .slice a3 m.length c3] W (ListPost (oneI t ms ns[k]) W)) := by
    intro W hW k hk b o hao n1 cp o' h1 ho
    subst h1 ho
    have hl : k < l.length := by omega
    have hx : l[k] = ((ns[k] : Nat) : Int) := by
      have e := HS1.out.ord.toI
      have e2 : l[k]? = (toI ns)[k]? := by rw [e]
      rw [List.getElem?_eq_getElem hl, List.getElem?_eq_getElem (by rw [toI_length]; exact hk), toI_at hk] at e2
      exact Option.some.inj e2
    have hrow : ISl W W.heap.size (some ⟨b, o + k, none⟩) [((ns[k] : Nat) : Int)] := by
      obtain ⟨b1, o1, e1, hbb, hc⟩ := (HI.out.up hW).at_ (by omega)
      rw [hao] at e1
      cases e1
      refine ⟨.inr ⟨b, o + k, rfl, hbb, fun i hi => ?_⟩, by simp [maxLen], ?_⟩
      · have e : i = 0 := by simp [ivs] at hi; omega
        subst e
        have := hc k hl
        rw [hx] at this
        exact this
      · intro x hxx
        rw [List.mem_singleton] at hxx
        rw [hxx, ← hx]
        exact HI.out.rng _ (List.getElem_mem hl)
    exact findOf_any ad c t HS1.out.right _ cp [((ns[k] : Nat) : Int)] [ns[k]] ⟨rfl, fun q hq => by rw [List.mem_singleton] at hq; rw [hq]; exact HS1.out.ord.lt _ (List.getElem_mem hk), List.pairwise_singleton _ _⟩ (by simp) a3 c3 m ms HS2.out.ord (by omega) W (HH.out.up hW) hrow (HJ.out.up hW)
  have HOl : Hid (∀ i, (oneI t ms i).length ≤ 200) := fun i => by
    have := (findN_facts HS1.out.right [i] HS2.out.ord.lt).1
    unfold oneI
    rw [toI_length]; omega
  have HWl : Hid ((toI (mapN ms (findF t ns))).length ≤ 200) := by
    have := (findN_facts HS1.out.right ns HS2.out.ord.lt).1
    rw [Hid, toI_length]; omega
  have HHl : Hid ((hasI t ns ms).length ≤ 200) := by
    have := hasN_len t ns ms
    have := HNL.out
    unfold hasI
    rw [Hid, toI_length]; omega
  have HTo := Lib.hid hS1.ord.toI
  have HLN := Lib.hid hln
  clear hS hS1 hS2 hle hln
  go_wp2_with fail
  refine HHas.out.mono ?_
  rintro e w3 ⟨v, rfl, hown, hb3⟩
  obtain ⟨av, cv, rfl, hrow⟩ := hown.row
  have HRow := Lib.hid hrow
  have HB3 := Lib.hid (bnext HB2.out hb3)
  clear hown hrow hb3
  go_wp2_with fail
  refine (HFind.out w3 HB3.out).mono ?_
  rintro e w4 ⟨v2, rfl, hown, hb4⟩
  obtain ⟨av2, cv2, rfl, hrow2⟩ := hown.row
  have HRow2 := Lib.hid hrow2
  have HRow1 := Lib.hid (HRow.out.up hb4)
  have HB4 := Lib.hid (bnext HB3.out hb4)
  clear hown hrow2 hb4
  have hsz4 := HB4.out.size
  go_wp2_with fail
  go_loopw [10, 11, 12, 13] (fun vo vh vf x wr => RoadRel t ns ms w4 vo vh vf x wr) (fun _ _ _ x _ => ns.length - (intOf x).toNat)
  case atStart => exact ⟨0, none, 0, none, 0, by omega, rfl, rfl, rfl, rfl, World.ownsRow_nil _ _ _ _, World.ownsRow_nil _ _ _ _, Lib.hid (Apart.none _ _ _), Lib.hid ⟨by simp [hasI, hasN, toI], by simp [foundI]⟩, Below.refl _ _⟩
  case round =>
    obtain ⟨k, ah, ch, af, cf, hk, rfl, rfl, rfl, rfl, hown1, hown2, hap, hlens, hb⟩ := hrel
    have HB := Lib.hid hb
    have HBw := Lib.hid (bnext HB4.out hb)
    clear hb
    by_cases hltl : k < l.length
    · have hlt : k < ns.length := by have := HLN.out; omega
      obtain ⟨b, o, hao, hbB, hc⟩ := (HI.out.up HBw.out).at_ (by omega)
      have HO1 := Lib.hid (fun n1 cp o' h1 h2 => HOne.out wr HBw.out k hlt b o hao n1 cp o' h1 h2)
      have hx : l[k] = ((ns[k] : Nat) : Int) := by
        have e := HTo.out
        have e2 : l[k]? = (toI ns)[k]? := by rw [e]
        rw [List.getElem?_eq_getElem hltl, List.getElem?_eq_getElem (by rw [toI_length]; exact hlt), toI_at hlt] at e2
        exact Option.some.inj e2
      have g1 := hc k hltl
      rw [hx] at g1
      obtain ⟨i, hii⟩ : ∃ i, i = ns[k] := ⟨_, rfl⟩
      rw [← hii] at g1 HO1
      have HJh : Hid (hasI t (ns.take (k + 1)) ms = hasI t (ns.take k) ms ++ if 0 < (oneI t ms i).length then [(i : Int)] else []) := by
        rw [Hid, List.take_succ_eq_append_getElem hlt, ← hii, hasI_snoc]
      have HJf : Hid (foundI t (ns.take (k + 1)) ms = foundI t (ns.take k) ms ++ oneI t ms i) := by
        rw [Hid, List.take_succ_eq_append_getElem hlt, ← hii, foundI_snoc]
      have hol := HOl.out i
      obtain ⟨M, hM⟩ : ∃ M, M = oneI t ms i := ⟨_, rfl⟩
      obtain ⟨A, hA⟩ : ∃ A, A = hasI t (ns.take k) ms := ⟨_, rfl⟩
      obtain ⟨F, hF⟩ : ∃ F, F = foundI t (ns.take k) ms := ⟨_, rfl⟩
      rw [← hM] at HO1 HJh HJf hol
      rw [← hA] at hown1 hap hlens HJh ⊢
      rw [← hF] at hown2 hap hlens HJf ⊢
      obtain ⟨hl1, hl2⟩ := hlens.out
      have HW1 := Lib.hid hown1
      have HW2 := Lib.hid hown2
      have hsz := HB.out.size
      have HN := HNL.out
      subst hao
      clear hc hx hii hM hA hF hown1 hown2
      go_wp2_with fail
      refine (HO1.out _ _ _ (by omega) (by omega)).mono ?_
      rintro e w5 ⟨v5, rfl, hown5, hb5⟩
      obtain ⟨av5, cv5, rfl, hO5⟩ := hown5
      have HO5 := Lib.hid hO5
      have HAp5 : Hid (Apart (.slice ah A.length ch) (.slice av5 M.length cv5)) := fun b h1 h2 => by
        have q1 := (HW1.out.lt b h1).2
        have q2 := (hO5.lt b h2).1
        omega
      have HRow5 : Hid (RSl w5 w5.heap.size av5 (ivs M)) := by
        obtain ⟨a1, c1, hv, _, hrs⟩ := RSl.own hO5
        cases hv
        exact hrs
      have HW12 := Lib.hid (own_kept HW1.out (fun b _ hb => hb5.block b hb))
      have HW22 := Lib.hid (own_kept HW2.out (fun b _ hb => hb5.block b hb))
      have g5 := (hb5.cell (p := ⟨b, o + k, none⟩) hbB).trans g1
      have HB5 := Lib.hid (bnext HB.out hb5)
      have hsz5 := hb5.size
      have hsz54 : w4.heap.size ≤ w5.heap.size := HB5.out.size
      clear hO5 hb5 g1 HW1 HW2 HO1 hlens
      by_cases hm : 0 < M.length
      · have d1 : decide (0 < M.length) = true := decide_eq_true hm
        rw [if_pos hm] at HJh
        have HOneR := Lib.hid (RSl.one w5 (i : Int))
        go_wp2_with (at_builtin; refine wpList_append_ints _ rfl (.tmp 72) (.tmp 77) rfl w4.heap.size (.slice ah A.length ch) A rfl (HW12.out.alloc _) (some ⟨w5.heap.size, 0, none⟩) 1 [(i : Int)] rfl HOneR.out (by simp; omega) (by simp; omega) ?_)
        intro a6 c6 w6 hown6 hg6 hat6
        have HW26 : Hid (w6.ownsRow w4.heap.size 3 1 (.slice af F.length cf) F.length (ivs F)) := (HW22.out.alloc _).kept hg6 hap.out.ne
        have hb6 : Below w4.heap.size w4 w6 := (HB5.out.alloc (by omega) _).grown hg6 (by simp; omega) (fun q hq => (HW12.out.lt q hq).1)
        have HAp6 : Hid (Apart (.slice a6 (A.length + 1) c6) (.slice af F.length cf)) := Apart.step hap.out hat6 (fun q hq => by have := (HW22.out.lt q hq).2; omega)
        have HB6 := Lib.hid hb6
        have HW16 := Lib.hid hown6
        have hsz6 := hb6.size
        have HRow6 : Hid (RSl w6 w6.heap.size av5 (ivs M)) := by
          have h6 := (HO5.out.alloc (.cells #[.int .i64 (i : Int)] 3)).kept hg6 HAp5.out.ne
          obtain ⟨a1, c1, hv, _, hrs⟩ := RSl.own h6
          cases hv
          exact hrs
        clear hown6 hg6 hat6 hb6
        go_wp2_with (at_builtin; refine wpList_append_ints _ rfl (.tmp 79) (.tmp 80) rfl w4.heap.size (.slice af F.length cf) F rfl HW26.out av5 cv5 M rfl HRow6.out (by omega) hsz6 ?_)
        intro a7 c7 w7 hown7 hg7 hat7
        have HW17 := Lib.hid (HW16.out.kept hg7 HAp6.out.symm.ne)
        have hb7 : Below w4.heap.size w4 w7 := HB6.out.grown hg7 hsz6 (fun q hq => (HW26.out.lt q hq).1)
        have HAp7 : Hid (Apart (.slice a6 (A.length + 1) c6) (.slice a7 (F.length + M.length) c7)) := (Apart.step HAp6.out.symm (by simpa using hat7) (fun q hq => (HW16.out.lt q hq).2)).symm
        have HW27 : Hid (w7.ownsRow w4.heap.size 3 1 (.slice a7 (F.length + M.length) c7) (F.length + M.length) (ivs (F ++ M))) := by
          rw [Hid]
          simpa using hown7
        clear hown7 hg7 hat7
        go_wp2_with fail
        go_roundw
        case rel => exact ⟨k + 1, a6, c6, a7, c7, by omega, by go_num, rfl, by rw [HJh.out, List.length_append]; rfl, by rw [HJf.out, List.length_append], by rw [HJh.out, List.length_append]; exact HW17.out, by rw [HJf.out, List.length_append]; exact HW27.out, by rw [HJh.out, HJf.out, List.length_append, List.length_append]; exact HAp7, by rw [HJh.out, HJf.out, List.length_append, List.length_append]; exact Lib.hid ⟨by simp; omega, by omega⟩, hb7⟩
        case measure => simp [intOf]; omega
      · have d1 : decide (0 < M.length) = false := decide_eq_false hm
        rw [if_neg hm, List.append_nil] at HJh
        go_wp2_with (at_builtin; refine wpList_append_ints _ rfl (.tmp 79) (.tmp 80) rfl w4.heap.size (.slice af F.length cf) F rfl HW22.out av5 cv5 M rfl HRow5.out (by omega) hsz54 ?_)
        intro a7 c7 w7 hown7 hg7 hat7
        have HW17 := Lib.hid (HW12.out.kept hg7 hap.out.symm.ne)
        have hb7 : Below w4.heap.size w4 w7 := HB5.out.grown hg7 hsz54 (fun q hq => (HW22.out.lt q hq).1)
        have HAp7 : Hid (Apart (.slice ah A.length ch) (.slice a7 (F.length + M.length) c7)) := (Apart.step hap.out.symm (by simpa using hat7) (fun q hq => (HW12.out.lt q hq).2)).symm
        have HW27 : Hid (w7.ownsRow w4.heap.size 3 1 (.slice a7 (F.length + M.length) c7) (F.length + M.length) (ivs (F ++ M))) := by
          rw [Hid]
          simpa using hown7
        clear hown7 hg7 hat7
        go_wp2_with fail
        go_roundw
        case rel => exact ⟨k + 1, ah, ch, a7, c7, by omega, by go_num, rfl, by rw [HJh.out], by rw [HJf.out, List.length_append], by rw [HJh.out]; exact HW17.out, by rw [HJf.out, List.length_append]; exact HW27.out, by rw [HJh.out, HJf.out, List.length_append]; exact HAp7, by rw [HJh.out, HJf.out, List.length_append]; exact Lib.hid ⟨by omega, by omega⟩, hb7⟩
        case measure => simp [intOf]; omega
    · have e : k = ns.length := by have := HLN.out; omega
      subst e
      rw [List.take_length] at hown1 hown2 ⊢
      have HSl := Lib.hid (show (foundI t ns ms).length ≤ 40000 by have := hlens.out.2; rw [List.take_length] at this; have := HNL.out; omega)
      have HRA : Hid (RSl wr wr.heap.size ah (ivs (hasI t ns ms))) := by
        obtain ⟨a1, c1, hv, _, hrs⟩ := RSl.own hown1
        cases hv
        exact hrs
      have HRF : Hid (RSl wr wr.heap.size af (ivs (foundI t ns ms))) := by
        obtain ⟨a1, c1, hv, _, hrs⟩ := RSl.own hown2
        cases hv
        exact hrs
      have HR1 := Lib.hid (HRow1.out.up HB.out)
      have HR2 := Lib.hid (HRow2.out.up HB.out)
      have HSm := Lib.hid (foundI_same t ns ms)
      obtain ⟨A, hA⟩ : ∃ A, A = hasI t ns ms := ⟨_, rfl⟩
      obtain ⟨F, hF⟩ : ∃ F, F = foundI t ns ms := ⟨_, rfl⟩
      obtain ⟨D, hD⟩ : ∃ D, D = toI (mapN ms (findF t ns)) := ⟨_, rfl⟩
      rw [← hA] at HR1 HRA HHl ⊢
      rw [← hF] at HRF HSm HSl ⊢
      rw [← hD] at HR2 HSm HWl ⊢
      have HSame := Lib.hid (sameList_any av cv A ah ch A (by have := HHl.out; omega) (by have := HHl.out; omega) wr HR1.out HRA.out)
      clear hown1 hown2 hap hlens hA hF hD
      go_wp2_with fail
      refine HSame.out.mono ?_
      rintro e w5 ⟨q, rfl, rfl⟩
      simp only [decide_true]
      have HB5 : Hid (Below wr.heap.size wr (wr.drewN q)) := below_drewN (Below.refl _ _) q
      have HBe : Hid (Below w.heap.size w (wr.drewN q)) := below_drewN HBw.out q
      go_wp2_with fail
      refine (sameSet_any av2 cv2 D af cf F (by have := HWl.out; omega) (by have := HSl.out; omega) HSm.out _ (HR2.out.up HB5.out) (HRF.out.up HB5.out)).mono ?_
      rintro e w6 ⟨rfl, rfl⟩
      go_wp2_with fail
      go_ret
      exact ⟨rfl, HBe.out⟩
end Go.Proofs.Ytfebdbfkpmjpeaa
