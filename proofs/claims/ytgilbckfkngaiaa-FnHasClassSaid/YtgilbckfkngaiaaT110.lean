/- The reference's ancestors of a node; a list up to one of others. -/
import Derived.Test.YtgilbckfkngaiaaT70
import Derived.Test.YtgilbckfkngaiaaT52
namespace Go.Proofs.Ytgilbckfkngaiaa
open Go.RowKit
set_option linter.unusedVariables false

/-- A node, if there is one, and those above it. -/
def upFrom (t : List Nd) : Option Nat → List Nat
  | none => []
  | some p => p :: anc t p
theorem anc_up (t : List Nd) (i : Nat) : anc t i = upFrom t (parJ t i i) := by
  cases h : parJ t i i with
  | none => rw [anc_none h]; rfl
  | some p => rw [anc_some h]; rfl
/-- A place, or -1. -/
def optI : Option Nat → Int
  | none => -1
  | some p => (p : Int)
theorem parI_opt (t : List Nd) (i : Nat) : parI t i i = optI (parJ t i i) := by
  rw [parI_parJ]
  cases parJ t i i <;> rfl
theorem parJ_lt {t : List Nd} {i p : Nat} (h : parJ t i i = some p) : p < i := (parJ_spec h).1

def AboveRel (t : List Nd) (i : Nat) (w : World) (v x : Value) (wr : World) : Prop :=
  ∃ (o : Option Nat) (acc : List Nat) (av : Option Addr) (cv : Nat), x = .int .i64 (optI o) ∧ (∀ p, o = some p → p < t.length) ∧ Hid (acc ++ elsOf t (upFrom t o) = elsOf t (anc t i)) ∧
    v = .slice av acc.length cv ∧ wr.ownsRow w.heap.size 3 1 (.slice av acc.length cv) acc.length (ivs (toI acc)) ∧ Below w.heap.size w wr

theorem elsOf_cons (t : List Nd) (p : Nat) (l : List Nat) : elsOf t (p :: l) = (if isEl t p = true then [p] else []) ++ elsOf t l := by
  unfold elsOf
  rw [List.filter_cons]
  split <;> simp
theorem anc_len {t : List Nd} {i : Nat} (hi : i < t.length) (ht : t.length ≤ 200) : (elsOf t (anc t i)).length ≤ 200 := by
  have h1 := (anc_nodup t i i (Nat.le_refl _)).2
  have h2 : (elsOf t (anc t i)).length ≤ (anc t i).length := List.length_filter_le _ _
  omega

set_option maxRecDepth 100000 in
set_option maxHeartbeats 2000000 in
theorem aboveOf_any (a : Option Addr) (c : Nat) (t : List Nd) (hR : RightP t) (i : Nat) (w : World) (h : NSl w w.heap.size a t) (hi : i < t.length) :
    Calls Try.prog 126 #[.slice a t.length c, .int .i64 (i : Nat)] w (OwnIPost (toI (elsOf t (anc t i))) w) := by
  obtain ⟨i0, hinf, hz0, hz1, hz2⟩ := info_parts Try.info3
  have hle := hR.le
  have HH := Lib.hid h
  have HLam := Lib.hid hR.lam
  have HLen := Lib.hid (anc_len hi hle)
  have HUp := Lib.hid (anc_up t i)
  have HLt := Lib.hid (fun p (hp : parJ t i i = some p) => parJ_lt hp)
  have HPar : Hid (∀ W, Below w.heap.size w W → ∀ k, k < t.length → Calls Try.prog 55 #[.slice a t.length c, .int .i64 (k : Nat)] W fun e w' => e = .returned (.int .i64 (optI (parJ t k k))) ∧ W = w') := by
    intro W hW k hk
    have := parent_any a c t hle k k rfl W (h.up hW) hk hR.lam
    rw [parI_opt] at this
    exact this
  clear h hR
  go_enter Try.func126, Try.ntmps126
  go_wp2_with fail
  refine (HPar.out w (Below.refl _ _) i hi).mono ?_
  rintro e w1 ⟨rfl, rfl⟩
  obtain ⟨o0, ho0⟩ : ∃ o0, o0 = parJ t i i := ⟨_, rfl⟩
  have HO0 := Lib.hid ho0
  rw [← ho0]
  clear ho0
  go_wp2_with fail
  go_loopw [5, 1] (fun v x wr => AboveRel t i w v x wr) (fun _ x _ => (intOf x + 1).toNat)
  case atStart =>
    refine ⟨o0, [], none, 0, rfl, fun p hp => ?_, ?_, rfl, World.ownsRow_nil _ _ _ _, Below.refl _ _⟩
    · have := HLt.out p (by rw [← HO0.out]; exact hp); omega
    · rw [Hid, HO0.out, ← HUp.out]; rfl
  case round =>
    obtain ⟨o, acc, av, cv, rfl, hlt, hacc, rfl, hown, hb⟩ := hrel
    have hal : acc.length ≤ 200 := by
      have h1 := congrArg List.length hacc.out
      rw [List.length_append] at h1
      have := HLen.out; omega
    cases o with
    | none =>
      have e : optI none = -1 := rfl
      rw [e]
      clear e
      have HE : Hid (acc = elsOf t (anc t i)) := by
        have := hacc.out
        unfold upFrom elsOf at this
        simpa [Hid, elsOf] using this
      have HOwn := Lib.hid hown
      clear hown
      go_wp2_with fail
      go_ret
      refine ⟨_, rfl, ?_, hb⟩
      rw [← HE.out]
      exact OwnI.of HOwn.out
    | some p =>
      have e : optI (some p) = (p : Int) := rfl
      rw [e]
      clear e
      have hp := hlt p rfl
      obtain ⟨b, oo, rfl, hbB, hc⟩ := (HH.out.up hb).at_ (by omega)
      have g1 := (hc p hp).1
      have HK : Hid (isEl t p = decide (t[p].kind = 3)) := by unfold isEl Hid; rw [getD_at hp]
      obtain ⟨kd, hkd⟩ : ∃ kd, kd = t[p].kind := ⟨_, rfl⟩
      rw [← hkd] at g1 HK
      obtain ⟨o2, ho2⟩ : ∃ o2, o2 = parJ t p p := ⟨_, rfl⟩
      have HO2 := Lib.hid ho2
      have HUp2 := Lib.hid (anc_up t p)
      have HLt2 : Hid (∀ q, o2 = some q → q < p) := fun q hq => parJ_lt (by rw [← ho2]; exact hq)
      have HWn := Lib.hid hown
      have hsz := hb.size
      clear hc hkd ho2 hlt hown
      by_cases e3 : kd = 3
      · have hz : (kd == 3) = true := by simp [e3]
        have HE : Hid ((acc ++ [p]) ++ elsOf t (upFrom t o2) = elsOf t (anc t i)) := by
          rw [Hid, ← hacc.out, HO2.out, ← HUp2.out]
          show _ = acc ++ elsOf t (p :: anc t p)
          rw [elsOf_cons, if_pos (by rw [HK.out]; simp [e3]), List.append_assoc]
        clear e3
        go_wp2_with (at_builtin; refine wpList_append_own _ rfl _ _ 37 rfl w.heap.size 3 i0 (.int .i64 0) 1 8 Try.underlying37 hinf hz0 hz1 hz2 rfl (by decide) _ _ _ rfl (HWn.out.alloc _) ⟨wr.heap.size, 0, none⟩ 1 1 [.int .i64 (p : Int)] rfl rfl (cell_one_new _ _ _) (by intro u hu; simp at hu; subst hu; rfl) (by unfold maxLen; omega) (by omega) (by simp; omega) ?_)
        intro v' w1 hown' hgrow _
        obtain ⟨a3, c3, hv2⟩ := own_slice hown'
        rw [hv2] at hown' ⊢
        have hb1 : Below w.heap.size w w1 := (hb.alloc hb.size _).grown hgrow (by simp; omega) (fun q hq => (HWn.out.lt q hq).1)
        have HO1 : Hid (w1.ownsRow w.heap.size 3 1 (.slice a3 (acc ++ [p]).length c3) (acc ++ [p]).length (ivs (toI (acc ++ [p])))) := by
          rw [Hid, toI_snoc, ivs_snoc, List.length_append]; exact hown'
        have HC := Lib.hid (HPar.out w1 hb1 p hp)
        rw [← HO2.out] at HC
        have HB1 := Lib.hid hb1
        clear hown' hgrow hv2 hb1 g1
        go_wp2_with fail
        refine HC.out.mono ?_
        rintro e w2 ⟨rfl, rfl⟩
        go_wp2_with fail
        go_roundw
        case rel => exact ⟨o2, acc ++ [p], a3, c3, rfl, fun q hq => by have := HLt2.out q hq; omega, HE, by simp, HO1.out, HB1.out⟩
        case measure =>
          cases o2 with
          | none => simp [intOf, optI]
          | some q => have := HLt2.out q rfl; simp [intOf, optI]; omega
      · have hz : (kd == 3) = false := by simp [e3]
        have HE : Hid (acc ++ elsOf t (upFrom t o2) = elsOf t (anc t i)) := by
          rw [Hid, ← hacc.out, HO2.out, ← HUp2.out]
          show _ = acc ++ elsOf t (p :: anc t p)
          rw [elsOf_cons, if_neg (by rw [HK.out]; simp [e3]), List.nil_append]
        have HC := Lib.hid (HPar.out wr hb p hp)
        rw [← HO2.out] at HC
        clear e3
        go_wp2_with fail
        refine HC.out.mono ?_
        rintro e w2 ⟨rfl, rfl⟩
        go_wp2_with fail
        go_roundw
        case rel => exact ⟨o2, acc, av, cv, rfl, fun q hq => by have := HLt2.out q hq; omega, HE, rfl, HWn.out, hb⟩
        case measure =>
          cases o2 with
          | none => simp [intOf, optI]
          | some q => have := HLt2.out q rfl; simp [intOf, optI]; omega

theorem own_prefix {w : World} {B e n k c : Nat} {a : Option Addr} {xs : List Value} (h : w.ownsRow B e 1 (.slice a n c) n xs) (hk : k ≤ n) : w.ownsRow B e 1 (.slice a k c) k (xs.take k) := by
  obtain ⟨h1, h2⟩ := h
  refine ⟨by rw [List.length_take]; omega, ?_⟩
  rcases h2 with ⟨hv, hn⟩ | ⟨g, cap, cur, hv, hb, hg, q1, q2, q3, q4⟩
  · cases hv
    obtain rfl : k = 0 := by omega
    exact .inl ⟨rfl, rfl⟩
  · cases hv
    exact .inr ⟨g, c, cur, rfl, hb, hg, by omega, q2, q3, by rw [← q4, List.take_take, Nat.min_eq_left (by omega), Nat.mul_one]⟩

theorem till_at {ms l : List Nat} {k : Nat} (h : k < l.length) (hno : ∀ j (hj : j < l.length), j < k → l[j] ∉ ms) (hy : l[k] ∈ ms) : till ms l = l.take k := by
  have hs : l = l.take k ++ l[k] :: l.drop (k + 1) := by rw [← List.drop_eq_getElem_cons h, List.take_append_drop]
  conv => lhs; rw [hs]
  unfold till
  rw [List.takeWhile_append_of_pos, List.takeWhile_cons]
  · simp [hy]
  · intro x hx
    obtain ⟨j, hj, rfl⟩ := List.getElem_of_mem hx
    rw [List.getElem_take]
    simp at hj
    simpa using hno j (by omega) (by omega)
theorem till_end {ms l : List Nat} (hno : ∀ j (hj : j < l.length), l[j] ∉ ms) : till ms l = l := by
  have hall : ∀ x ∈ l, x ∉ ms := by
    intro x hx
    obtain ⟨j, hj, rfl⟩ := List.getElem_of_mem hx
    exact hno j hj
  clear hno
  unfold till
  induction l with
  | nil => rfl
  | cons x l ih =>
    rw [List.takeWhile_cons, ih (fun y hy => hall y (by simp [hy]))]
    simp [hall x (by simp)]

def OwnedPost (B : Nat) (l : List Int) (w : World) (e : Ending) (w' : World) : Prop := ∃ v, e = .returned v ∧ OwnI B l v w' ∧ w = w'

set_option maxRecDepth 100000 in
set_option maxHeartbeats 2000000 in
theorem upTo_any (B : Nat) (v : Value) (l : List Nat) (hl : l.length ≤ 200) (a2 : Option Addr) (c2 : Nat) (ms : List Nat) (hms : ms.length ≤ 100000) (w : World) (ho : OwnI B (toI l) v w) (h2 : RSl w w.heap.size a2 (ivs (toI ms))) :
    Calls Try.prog 127 #[v, .slice a2 ms.length c2] w (OwnedPost B (toI (till ms l)) w) := by
  obtain ⟨a, c, rfl, hown⟩ := ho
  have hrow : RSl w w.heap.size a (ivs (toI l)) := by
    obtain ⟨a3, c3, hv, _, hrs⟩ := RSl.own hown
    cases hv
    exact hrs
  have HRow := Lib.hid hrow
  have HOwn := Lib.hid hown
  have HIn : Hid (∀ x : Nat, Calls Try.prog 89 #[.slice a2 ms.length c2, .int .i64 (x : Int)] w fun e w' => e = .returned (.bool (decide (x ∈ ms))) ∧ w = w') := by
    intro x
    have := in_any a2 c2 (toI ms) (by rw [toI_length]; omega) (x : Int) w h2
    rw [toI_length] at this
    rw [show decide ((x : Int) ∈ toI ms) = decide (x ∈ ms) from by rw [decide_eq_decide]; exact mem_toI] at this
    exact this
  have hcap : l.length ≤ c := by
    rcases hown.2 with ⟨hv, hn⟩ | ⟨g, cap, cur, hv, _, _, hc, _⟩
    · rw [toI_length] at hn; omega
    · simp only [Value.slice.injEq] at hv; rw [toI_length] at hc; omega
  rw [toI_length] at hown
  rw [toI_length]
  clear hrow h2 hown
  go_enter Try.func127, Try.ntmps127
  go_wp2_with fail
  go_loopw [5] (fun x wr => ∃ k : Nat, k ≤ l.length ∧ x = .int .i64 k ∧ Hid (∀ j (hj : j < l.length), j < k → l[j] ∉ ms) ∧ w = wr) (fun x _ => l.length - (intOf x).toNat)
  case atStart => exact ⟨0, by omega, rfl, (fun j _ h => by omega), rfl⟩
  case round =>
    obtain ⟨k, hk, rfl, hno, rfl⟩ := hrel
    by_cases hlt : k < l.length
    · obtain ⟨b, o, rfl, hbB, hc⟩ := HRow.out.at_ (by rw [ivs_length, toI_length]; omega)
      have g1 := hc k (by rw [ivs_length, toI_length]; exact hlt)
      rw [ivs_at (by rw [toI_length]; exact hlt), toI_at hlt] at g1
      have HI := Lib.hid (HIn.out l[k])
      by_cases hm : l[k] ∈ ms
      · have HT : Hid (till ms l = l.take k) := till_at hlt hno.out hm
        rw [decide_eq_true hm] at HI
        obtain ⟨x, hx⟩ : ∃ x, x = l[k] := ⟨_, rfl⟩
        rw [← hx] at g1 HI
        clear hc hm hx
        go_wp2_with fail
        refine HI.out.mono ?_
        rintro e w1 ⟨rfl, rfl⟩
        go_wp2_with fail
        go_ret
        have hkl : (toI (till ms l)).length = k := by rw [HT.out, toI_length, List.length_take, Nat.min_eq_left (by omega)]
        refine ⟨_, rfl, ⟨_, c, by rw [hkl]; rfl, ?_⟩, rfl⟩
        have := own_prefix HOwn.out (k := k) (by rw [toI_length]; omega)
        rw [hkl, HT.out]
        have e : ivs (toI (l.take k)) = (ivs (toI l)).take k := by simp [ivs, toI, List.map_take]
        rw [e]
        exact this
      · have HN : Hid (∀ j (hj : j < l.length), j < k + 1 → l[j] ∉ ms) := by
          intro j hj h
          by_cases e : j = k
          · subst e; exact hm
          · exact hno.out j hj (by omega)
        rw [decide_eq_false hm] at HI
        obtain ⟨x, hx⟩ : ∃ x, x = l[k] := ⟨_, rfl⟩
        rw [← hx] at g1 HI
        clear hc hm hx
        go_wp2_with fail
        refine HI.out.mono ?_
        rintro e w1 ⟨rfl, rfl⟩
        go_wp2_with fail
        go_roundw
        case rel => exact ⟨k + 1, by omega, by go_num, HN, by trivial⟩
        case measure => simp [intOf]; omega
    · have HT : Hid (till ms l = l) := till_end (fun j hj => hno.out j hj (by omega))
      go_wp2_with fail
      go_ret
      refine ⟨_, rfl, ⟨a, c, ?_, ?_⟩, rfl⟩
      · rw [HT.out, toI_length]; rfl
      · rw [HT.out]; exact HOwn.out

set_option maxRecDepth 100000 in
set_option maxHeartbeats 2000000 in
theorem relOf23 (a : Option Addr) (c : Nat) (t : List Nd) (hR : RightP t) (i : Nat) (w : World) (h : NSl w w.heap.size a t) (hi : i < t.length) (a3 : Option Addr) (n3 c3 : Nat) :
    Calls Try.prog 90 #[.slice a t.length c, .int .i64 i, .agg #[.int .i64 23, .string ⟨#[]⟩, .slice a3 n3 c3, .int .i64 0, .int .i64 0]] w (ListPost (toI (elsOf t (anc t i))) w) := by
  have hb0 : Below w.heap.size w (w.alloc (.cells #[.int .i64 23, .string ⟨#[]⟩, .slice a3 n3 c3, .int .i64 0, .int .i64 0] 62)) := (Below.refl _ _).alloc (Nat.le_refl _) _
  have HB0 := Lib.hid hb0
  have HE := Lib.hid (aboveOf_any a c t hR i _ (h.up hb0) hi)
  have hsz := hb0.size
  clear h hb0 hR
  go_enter Try.func90, Try.ntmps90
  go_wp2_with fail
  refine HE.out.mono ?_
  rintro e w1 ⟨v, rfl, hown, hb1⟩
  have HO := Lib.hid (hown.base hsz)
  have HB1 := Lib.hid (bnext HB0.out hb1)
  clear hown hb1
  go_wp2_with fail
  go_ret2
  exact ⟨v, rfl, HO.out, HB1.out⟩
end Go.Proofs.Ytgilbckfkngaiaa
