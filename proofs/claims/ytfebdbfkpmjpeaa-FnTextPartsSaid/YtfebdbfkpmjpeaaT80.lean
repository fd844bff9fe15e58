/- FnTextParts: the walk. -/
import Derived.Test.YtfebdbfkpmjpeaaT79
import Derived.Test.YtfebdbfkpmjpeaaT52
import Derived.Test.YtfebdbfkpmjpeaaT51
namespace Go.Proofs.Ytfebdbfkpmjpeaa
open Go.RowKit
set_option linter.unusedVariables false

theorem ISl.one_at {w : World} {a2 : Option Addr} {l : List Int} (h : ISl w w.heap.size a2 l) {k : Nat} (hk : k < l.length) {b o : Nat} (hao : a2 = some ⟨b, o, none⟩) : ISl w w.heap.size (some ⟨b, o + k, none⟩) [l[k]] := by
  obtain ⟨b1, o1, e1, hbb, hc⟩ := h.at_ (by omega)
  rw [hao] at e1
  cases e1
  refine ⟨.inr ⟨b, o + k, rfl, hbb, fun i hi => ?_⟩, by simp [maxLen], ?_⟩
  · have e : i = 0 := by simp [ivs] at hi; omega
    subst e
    exact hc k hk
  · intro x hx
    rw [List.mem_singleton] at hx
    rw [hx]
    exact h.rng _ (List.getElem_mem hk)
theorem ordP_at {n : Nat} {l : List Int} {ns : List Nat} (h : OrdP n l ns) {k : Nat} (hk : k < ns.length) : ∃ hl : k < l.length, l[k] = ((ns[k] : Nat) : Int) := by
  have hl : k < l.length := by rw [h.length]; exact hk
  refine ⟨hl, ?_⟩
  have e := h.toI
  have e2 : l[k]? = (toI ns)[k]? := by rw [e]
  rw [List.getElem?_eq_getElem hl, List.getElem?_eq_getElem (by rw [toI_length]; exact hk), toI_at hk] at e2
  exact Option.some.inj e2
theorem ordP_one {n i : Nat} (h : i < n) : OrdP n [(i : Int)] [i] := ⟨rfl, fun q hq => by rw [List.mem_singleton] at hq; rw [hq]; exact h, List.pairwise_singleton _ _⟩
theorem ordP_kids {t : List Nd} (hR : RightP t) {i : Nat} (hi : i < t.length) : OrdP t.length (toI (kidsL t i)) (kidsL t i) :=
  ⟨rfl, (kids_facts hR i hi).2.2, kidsL_asc hR hi⟩

def PartsRel (t : List Nd) (ns : List Nat) (W : World) (e n b x : Value) (wr : World) : Prop :=
  ∃ (k : Nat) (X Y : ByteArray), k ≤ ns.length ∧ e = .string X ∧ Hid (X = ⟨((ns.take k).flatMap (txt t)).toArray⟩) ∧ n = .string Y ∧ Hid (Y = ⟨((ns.take k).flatMap (txt t)).toArray⟩) ∧ b = .bool true ∧ x = .int .i64 (k : Nat) ∧ Below W.heap.size W wr

set_option maxRecDepth 100000 in
set_option maxHeartbeats 4000000 in
theorem FnTextParts_walk (ad : Option Addr) (len c : Nat) (t : List Nd) (a2 : Option Addr) (len2 c2 : Nat) (l : List Int) (w : World) (h : NSl w w.heap.size ad t ∧ len = t.length) (hi : ISl w w.heap.size a2 l ∧ len2 = l.length ∧ len2 ≤ c2) :
    Calls Try.prog 11 #[.slice ad len c, .slice a2 len2 c2] w fun e w' => e = .returned (.bool true) ∧ Below w.heap.size w w' := by
  obtain ⟨h, rfl⟩ := h
  obtain ⟨hi, rfl, hc2⟩ := hi
  have HH := Lib.hid h
  have hll := hi.len
  have HI := Lib.hid hi
  unfold maxLen at hll
  clear h hi
  go_enter Try.func11, Try.ntmps11
  go_wp2_with fail
  refine (zzFits1_any _ _ t _ HH.out).mono ?_
  rintro e w1 ⟨rfl, hb1⟩
  have HB1 := Lib.hid hb1
  clear hb1
  cases hf : fits1 t
  · go_wp2_with fail
    go_ret
    exact ⟨rfl, HB1.out⟩
  by_cases k1 : 2147483647 < l.length
  · go_wp2_with fail
    go_ret
    exact ⟨rfl, HB1.out⟩
  go_wp2_with fail
  refine (right_any _ c t w1 (HH.out.up HB1.out) hf).mono ?_
  rintro e w2 ⟨b, rfl, hbR, hb2⟩
  have HB2 := Lib.hid (bnext HB1.out hb2)
  clear hb2
  cases b
  · go_wp2_with fail
    go_ret
    exact ⟨rfl, HB2.out⟩
  have hR := hbR rfl
  have hle := hR.le
  have HR := Lib.hid hR
  have HI2 := Lib.hid (HI.out.up HB2.out)
  clear hbR hR
  go_wp2_with fail
  refine (order_any ad t.length c a2 c2 l hle (by omega) w2 HI2.out).mono ?_
  rintro e w3 ⟨b, q, rfl, hO, rfl⟩
  have HB3 : Hid (Below w.heap.size w (w2.drewN q)) := below_drewN HB2.out q
  cases b
  · clear hO
    go_wp2_with fail
    go_ret
    exact ⟨rfl, HB3.out⟩
  obtain ⟨ns, ho⟩ := hO rfl
  have HO := Lib.hid ho
  have hnl := ho.len
  have hln := ho.length
  have HLN := Lib.hid hln
  have HNL := Lib.hid (show ns.length ≤ 200 by omega)
  have HAll := Lib.hid (textOf_any ad c t HR.out a2 c2 l ns HO.out (by omega) (w2.drewN q) (HH.out.up HB3.out) (HI.out.up HB3.out))
  have HSum := Lib.hid (flat_txt_len HR.out ns HO.out.lt)
  clear hO ho hln
  go_wp2_with fail
  refine HAll.out.mono ?_
  rintro e w4 ⟨rfl, hb4⟩
  have HB4 := Lib.hid (bnext HB3.out hb4)
  clear hb4 HAll
  obtain ⟨A, hA⟩ : ∃ A : ByteArray, A = ⟨(ns.flatMap (txt t)).toArray⟩ := ⟨_, rfl⟩
  have hs : strV (ns.flatMap (txt t)) = .string A := by rw [hA]; rfl
  rw [hs]
  have HA := Lib.hid hA
  clear hs hA
  go_wp2_with fail
  go_loopw [6, 7, 8, 9] (fun b e n x wr => PartsRel t ns w e n b x wr) (fun _ _ _ x _ => ns.length - (intOf x).toNat)
  case atStart => exact ⟨0, ⟨#[]⟩, ⟨#[]⟩, by omega, rfl, rfl, rfl, rfl, rfl, rfl, HB4.out⟩
  case round =>
    obtain ⟨k, X, Y, hk, rfl, HX, rfl, HY, rfl, rfl, hb⟩ := hrel
    have HB := Lib.hid hb
    clear hb
    by_cases hltl : k < l.length
    · have hlt : k < ns.length := by have := HLN.out; omega
      obtain ⟨b, o, hao, hbB, hc⟩ := (HI.out.up HB.out).at_ (by omega)
      obtain ⟨_, hx⟩ := ordP_at HO.out hlt
      have hit := HO.out.lt ns[k] (List.getElem_mem hlt)
      have HOne : Hid (∀ W, Below w.heap.size w W → ∀ n1 cp o', n1 = 1 → o' = o + k → Calls Try.prog 44 #[.slice ad t.length c, .slice (some ⟨b, o', none⟩) n1 cp] W fun e w' => e = .returned (.tuple #[strV ([ns[k]].flatMap (txt t)), .bool true]) ∧ Below W.heap.size W w') := by
        intro W hW n1 cp o' h1 h2
        subst h1 h2
        have hrow := (HI.out.up hW).one_at hltl hao
        rw [hx] at hrow
        exact textOf_any ad c t HR.out _ cp [((ns[k] : Nat) : Int)] [ns[k]] (ordP_one hit) (by simp) W (HH.out.up hW) hrow
      have g1 := hc k hltl
      rw [hx] at g1
      subst hao
      clear hc hx
      go_wp2_with fail
      obtain ⟨P, hP⟩ : ∃ P : ByteArray, P = ⟨(txt t ns[k]).toArray⟩ := ⟨_, rfl⟩
      have hsP : strV ([ns[k]].flatMap (txt t)) = .string P := by rw [hP]; simp [strV]
      have HPl : Hid (P.size ≤ 800000) := by
        have := txt_len HR.out hit
        rw [Hid, hP]; exact this
      have HSt : Hid ((ns.take (k + 1)).flatMap (txt t) = (ns.take k).flatMap (txt t) ++ P.data.toList) := by
        rw [Hid, List.take_succ_eq_append_getElem hlt, hP]
        simp only [List.flatMap_append, List.flatMap_cons, List.flatMap_nil, List.append_nil]
      have HXl : Hid (((ns.take k).flatMap (txt t)).length ≤ 800000 * 200) := by
        have h1 := flat_txt_len HR.out (ns.take k) (fun i hi => HO.out.lt i (List.take_subset _ _ hi))
        have h2 := HNL.out
        rw [List.length_take] at h1
        rw [Hid]; omega
      have hXs : X.size ≤ 160000000 := by rw [HX.out]; exact HXl.out
      have hYs : Y.size ≤ 160000000 := by rw [HY.out]; exact HXl.out
      have hPs := HPl.out
      have hno1 : X.size + P.size ≤ 9223372036854775807 := by omega
      have hno2 : Y.size + P.size ≤ 9223372036854775807 := by omega
      have HX2 : Hid (X ++ P = ⟨((ns.take (k + 1)).flatMap (txt t)).toArray⟩) := by rw [Hid, HX.out, bcat, HSt.out]
      have HY2 : Hid (Y ++ P = ⟨((ns.take (k + 1)).flatMap (txt t)).toArray⟩) := by rw [Hid, HY.out, bcat, HSt.out]
      have HPe : Hid (strV (txt t ns[k]) = .string P) := by rw [Hid, hP]; rfl
      rw [hsP] at HOne
      obtain ⟨i, hii⟩ : ∃ i, i = ns[k] := ⟨_, rfl⟩
      rw [← hii] at g1 hit HPe
      have Hit := Lib.hid hit
      clear hP hsP HSt HXl HPl hii
      refine (HOne.out wr HB.out _ _ _ (by omega) (by omega)).mono ?_
      rintro e w5 ⟨rfl, hb5⟩
      have g5 := (hb5.cell (p := ⟨b, o + k, none⟩) hbB).trans g1
      have HB5 := Lib.hid (bnext HB.out hb5)
      clear hb5 g1
      have HH5 := Lib.hid (HH.out.up HB5.out)
      obtain ⟨bt, ot, had, hbt, hct⟩ := HH5.out.at_ (by omega)
      have f0 : w5.cell? ⟨bt, ot + i * 5, none⟩ = some (.int .i64 (t[i].kind)) := (hct i hit).1
      by_cases hk3 : t[i].kind = 3
      · have HKids := Lib.hid (kids_any ad c t hle i (i : Int) rfl w5 HH5.out hit (HR.out.lam.node_at (Nat.zero_le i) hit) (HR.out.lamK hit).2.2 (HR.out.lamK hit).2.1)
        have HTx := Lib.hid (fun (a3 : Option Addr) (c3 : Nat) (W : World) (hb : Below w.heap.size w W) (hs : ISl W W.heap.size a3 (toI (kidsL t i))) => textOf_any ad c t HR.out a3 c3 (toI (kidsL t i)) (kidsL t i) (ordP_kids HR.out hit) (by rw [toI_length]; have := (kids_facts HR.out i hit).1; omega) W (HH.out.up hb) hs)
        have HKl : Hid ((kidsL t i).length ≤ 200 ∧ ∀ m ∈ kidsL t i, m < t.length) := ⟨(kids_facts HR.out i hit).1, (kids_facts HR.out i hit).2.2⟩
        rw [txt_elem HR.out hit hk3] at HPe
        rw [hk3] at f0
        subst had
        clear hct hk3
        go_wp2_with fail
        refine HKids.out.mono ?_
        rintro e w6 ⟨a6, c6, rfl, hrow6, hb6⟩
        have HB6 := Lib.hid (bnext HB5.out hb6)
        have HI6 : Hid (ISl w6 w6.heap.size a6 (toI (kidsL t i))) := by
          rw [ints_ivs] at hrow6
          refine ⟨hrow6, by rw [toI_length]; have := HKl.out.1; unfold maxLen; omega, fun x hx => ?_⟩
          obtain ⟨m, hm, rfl⟩ := List.mem_map.1 hx
          have := HKl.out.2 m hm
          omega
        have HT6 := Lib.hid (HTx.out a6 c6 w6 HB6.out HI6.out)
        rw [HPe.out, toI_length] at HT6
        clear hb6 hrow6
        go_wp2_with fail
        refine HT6.out.mono ?_
        rintro e w7 ⟨rfl, hb7⟩
        have HB7 := Lib.hid (bnext HB6.out hb7)
        clear hb7
        go_wp2_with fail
        go_roundw
        case rel => exact ⟨k + 1, X ++ P, Y ++ P, by omega, rfl, HX2.out, rfl, HY2.out, rfl, by go_num, HB7.out⟩
        case measure => simp [intOf]; omega
      · have d3 : (t[i].kind == 3) = false := beq_eq_false_iff_ne.2 hk3
        obtain ⟨y, hy⟩ : ∃ y, y = t[i].kind := ⟨_, rfl⟩
        rw [← hy] at f0 d3
        subst had
        clear hct hk3 hy
        go_wp2_with fail
        refine (HOne.out w5 HB5.out _ _ _ (by omega) (by omega)).mono ?_
        rintro e w7 ⟨rfl, hb7⟩
        have HB7 := Lib.hid (bnext HB5.out hb7)
        clear hb7
        go_wp2_with fail
        go_roundw
        case rel => exact ⟨k + 1, X ++ P, Y ++ P, by omega, rfl, HX2.out, rfl, HY2.out, rfl, by go_num, HB7.out⟩
        case measure => simp [intOf]; omega
    · have e : k = ns.length := by have := HLN.out; omega
      rw [e, List.take_length] at HX HY
      have hXA : X = A := by rw [HX.out, HA.out]
      have hYA : Y = A := by rw [HY.out, HA.out]
      subst hXA
      subst hYA
      clear e HX HY HA
      go_wp2_with fail
      go_ret
      exact ⟨by simp, HB.out⟩
end Go.Proofs.Ytfebdbfkpmjpeaa
