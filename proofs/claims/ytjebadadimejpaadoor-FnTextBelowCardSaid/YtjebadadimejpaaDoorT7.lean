/- The reference's look at the whole tree: what it knows of a tree of which it says yes. -/
import Derived.Test.YtjebadadimejpaaDoorT6
namespace Go.Proofs.YtjebadadimejpaaDoor
open Go.RowKit
set_option linter.unusedVariables false

/-- What the reference's 'Right' says of a tree. -/
structure RightP (t : List Nd) : Prop where
  pos : 0 < t.length
  le : t.length ≤ 200
  top : sz t 0 = t.length
  root : (t.getD 0 default).kind = 1
  lam : Lam t 0 t.length
  node : ∀ i (h : i < t.length), NodeP t i t[i]
  text : ∀ i (h : i < t.length), t[i].text.size ≤ 4000
  vals : ∀ i (h : i < t.length), ∀ x ∈ t[i].attrs, x.val.size ≤ 4000

theorem getD_at {t : List Nd} {k : Nat} (hk : k < t.length) : t.getD k default = t[k] := by
  rw [List.getD_eq_getElem?_getD, List.getElem?_eq_getElem hk, Option.getD_some]

/-- What is known of the first k nodes. -/
structure Seen (t : List Nd) (k : Nat) : Prop where
  node : ∀ i (h : i < t.length), i < k → NodeP t i t[i]
  text : ∀ i (h : i < t.length), i < k → t[i].text.size ≤ 4000
  vals : ∀ i (h : i < t.length), i < k → ∀ x ∈ t[i].attrs, x.val.size ≤ 4000

set_option maxRecDepth 100000 in
set_option maxHeartbeats 2000000 in
theorem right_any (a : Option Addr) (c : Nat) (t : List Nd) (w : World) (h : NSl w w.heap.size a t) (hf : fits1 t = true) :
    Calls Tryd.prog 5 #[.slice a t.length c] w (SomeBB (RightP t) w) := by
  have hm : t.length ≤ 2147483647 := by simp only [fits1, Bool.and_eq_true, decide_eq_true_eq] at hf; exact hf.1
  by_cases h0 : t.length = 0
  · have z0 : ((t.length : Int) == 0) = true := beq_iff_eq.2 (by omega)
    clear h0
    go_enter Tryd.func5, Tryd.ntmps5
    go_wp2_with fail
    all_goals (go_ret; exact ⟨false, rfl, by simp, Below.refl _ _⟩)
  · have z0 : ((t.length : Int) == 0) = false := beq_eq_false_iff_ne.2 (by omega)
    have hp : 0 < t.length := by omega
    clear h0
    by_cases h2 : 200 < t.length
    · go_enter Tryd.func5, Tryd.ntmps5
      go_wp2_with fail
      all_goals (go_ret; exact ⟨false, rfl, by simp, Below.refl _ _⟩)
    · have HH := Lib.hid h
      obtain ⟨b, o, rfl, hbB, hc⟩ := h.at_ hp
      have HC := Lib.hid hc
      have f1 := (hc 0 hp).1
      have f5 := (hc 0 hp).2.2.2.2.1
      simp only [Nat.zero_mul, Nat.add_zero] at f1 f5
      clear hc h
      obtain ⟨s, hs⟩ : ∃ s, s = t[0].size := ⟨_, rfl⟩
      obtain ⟨kd, hkd⟩ : ∃ kd, kd = t[0].kind := ⟨_, rfl⟩
      rw [← hs] at f5
      rw [← hkd] at f1
      have HS := Lib.hid hs
      have HK := Lib.hid hkd
      clear hs hkd
      by_cases e1 : s = t.length
      · subst e1
        by_cases e2 : kd = 1
        · subst e2
          go_enter Tryd.func5, Tryd.ntmps5
          go_wp2_with fail
          refine (sized_any _ _ t (by omega) 40 0 t.length _ _ _ _ rfl rfl rfl HH.out hp (by omega) (by omega) (by omega)).mono ?_
          rintro e w1 ⟨r, rfl, hr, rfl⟩
          have HR := Lib.hid hr
          clear hr
          cases r
          · go_wp2_with fail
            all_goals (go_ret; exact ⟨false, rfl, by simp, Below.refl _ _⟩)
          · go_wp2_with fail
            go_loopw [3, 4, 5] (fun x y _ wr => ∃ (B k : Nat), B ≤ 4000 ∧ k ≤ t.length ∧ x = .int .i64 B ∧ y = .int .i64 k ∧ Hid (Seen t k) ∧ Below w.heap.size w wr) (fun _ y _ _ => t.length - (intOf y).toNat)
            case atStart => exact ⟨0, 0, by omega, by omega, rfl, rfl, ⟨fun _ _ h => by omega, fun _ _ h => by omega, fun _ _ h => by omega⟩, Below.refl _ _⟩
            case round =>
              obtain ⟨B, k, hB, hk, rfl, rfl, hseen, hb⟩ := hrel
              by_cases hlt : k < t.length
              · obtain ⟨-, -, g3, g4, -, hok⟩ := HC.out k hlt
                replace g3 := (hb.cell (p := ⟨b, _, none⟩) hbB).trans g3
                replace g4 := (hb.cell (p := ⟨b, _, none⟩) hbB).trans g4
                have hl3 := hok.text
                have hl4 := hok.attrs.1
                have HA := Lib.hid ((hok.attrs.below hb))
                unfold maxLen at hl3 hl4
                clear hok
                obtain ⟨x, hx⟩ : ∃ x, x = t[k] := ⟨_, rfl⟩
                rw [← hx] at g3 g4 hl3 hl4 HA
                have HX := Lib.hid hx
                clear hx
                obtain ⟨wo, rfl⟩ : ∃ wo : World, wo = wr := ⟨_, rfl⟩
                by_cases hx4 : x.text.size ≤ 4000
                · go_wp2_with fail
                  go_loopw [3, 5] (fun p q wr => ∃ (B2 m : Nat), B2 ≤ 8001 ∧ m ≤ x.attrs.length ∧ p = .int .i64 B2 ∧ q = .int .i64 m ∧ Hid (B2 ≤ 4000 → ∀ i (h : i < x.attrs.length), i < m → x.attrs[i].val.size ≤ 4000) ∧ wo = wr) (fun _ q _ => x.attrs.length - (intOf q).toNat)
                  case atStart => exact ⟨B + x.text.size, 0, by omega, by omega, by go_num, rfl, (fun _ i h hi => by omega), rfl⟩
                  case round =>
                    obtain ⟨B2, m, hB2, hm, rfl, rfl, hv, rfl⟩ := hrel
                    by_cases hml : m < x.attrs.length
                    · by_cases hb4 : B2 ≤ 4000
                      · have hcell : ∃ ab ao, x.aa = some ⟨ab, ao, none⟩ ∧ wo.cell? ⟨ab, ao + m * 2 + 1, none⟩ = some (.string (x.attrs[m]).val) ∧ (x.attrs[m]).val.size ≤ maxLen := by
                          obtain ⟨q1, q2, q3⟩ := HA.out
                          rcases q3 with q3 | ⟨ab, ao, q4, q5, q6⟩
                          · rw [q3] at hml; simp at hml
                          · refine ⟨ab, ao, q4, ?_, (q2 _ (List.getElem_mem hml)).2⟩
                            have := (q6 m hml).2
                            rw [List.getD_eq_getElem?_getD, List.getElem?_eq_getElem hml, Option.getD_some] at this
                            exact this
                        obtain ⟨ab, ao, hxa, hcm, hvm⟩ := hcell
                        unfold maxLen at hvm
                        obtain ⟨vs, hvs⟩ : ∃ vs, vs = (x.attrs[m]).val := ⟨_, rfl⟩
                        rw [← hvs] at hcm hvm
                        have HV := Lib.hid hvs
                        clear hvs
                        rw [hxa] at g4
                        have HXA := Lib.hid hxa
                        clear hxa
                        by_cases v1 : vs.size ≤ 4000
                        · go_wp2_with fail
                          go_roundw
                          case rel =>
                            refine ⟨B2 + vs.size, m + 1, by omega, by omega, by go_num, by go_num, (fun h4 i hi him => ?_), by trivial⟩
                            by_cases e : i = m
                            · subst e; rw [← HV.out]; exact v1
                            · exact hv.out hb4 i hi (by omega)
                          case measure => simp [intOf]; omega
                        · by_cases v2 : 4001 < vs.size
                          · go_wp2_with fail
                            go_roundw
                            case rel => exact ⟨B2 + 4001, m + 1, by omega, by omega, by go_num, by go_num, (fun h4 i hi him => by omega), by trivial⟩
                            case measure => simp [intOf]; omega
                          · go_wp2_with fail
                            go_roundw
                            case rel => exact ⟨B2 + vs.size, m + 1, by omega, by omega, by go_num, by go_num, (fun h4 i hi him => by omega), by trivial⟩
                            case measure => simp [intOf]; omega
                      · go_wp2_with fail
                        go_ret
                        exact ⟨false, rfl, by simp, hb⟩
                    · by_cases hb4 : B2 ≤ 4000
                      · go_wp2_with fail
                        refine (rightNode_any _ _ t (by omega) k _ (HH.out.up hb) hlt (by have := (HR.out (by trivial)).lam; have e0 : sz t 0 = t.length := (by unfold sz; rw [getD_at hp, ← HS.out]; simp); rw [e0] at this; simpa using this) (by unfold sz; rw [getD_at hp, ← HS.out]; simp) hf).mono ?_
                        rintro e w1 ⟨r, rfl, hr, hb1⟩
                        have HN := Lib.hid hr
                        clear hr
                        have hb2 := bnext hb hb1
                        cases r
                        · go_wp2_with fail
                          go_ret
                          exact ⟨false, rfl, by simp, hb2⟩
                        · go_wp2_with fail
                          go_roundw
                          case rel =>
                            refine ⟨B2, k + 1, by omega, by omega, rfl, by go_num, ⟨fun i h hik => ?_, fun i h hik => ?_, fun i h hik => ?_⟩, hb2⟩
                            · by_cases e : i = k
                              · subst e; exact HN.out (by trivial)
                              · exact hseen.out.node i h (by omega)
                            · by_cases e : i = k
                              · subst e; rw [← HX.out]; exact hx4
                              · exact hseen.out.text i h (by omega)
                            · by_cases e : i = k
                              · subst e
                                rw [← HX.out]
                                intro y hy
                                obtain ⟨j, hj, rfl⟩ := List.getElem_of_mem hy
                                exact hv.out hb4 j hj (by omega)
                              · exact hseen.out.vals i h (by omega)
                          case measure => simp [intOf]; omega
                      · go_wp2_with fail
                        go_ret
                        exact ⟨false, rfl, by simp, hb⟩
                · by_cases hx5 : 4001 < x.text.size
                  · go_wp2_with fail
                    refine wp_loop_rounds 1 ?_
                    rw [rounds_succ]
                    go_wp2_with fail
                    all_goals (go_ret; exact ⟨false, rfl, by simp, hb⟩)
                  · go_wp2_with fail
                    refine wp_loop_rounds 1 ?_
                    rw [rounds_succ]
                    go_wp2_with fail
                    all_goals (go_ret; exact ⟨false, rfl, by simp, hb⟩)
              · go_wp2_with fail
                go_ret
                have e : k = t.length := by omega
                subst e
                refine ⟨true, rfl, fun _ => ?_, hb⟩
                have hS := HR.out (by trivial)
                have e0 : sz t 0 = t.length := by unfold sz; rw [getD_at hp, ← HS.out]; simp
                refine ⟨hp, by omega, e0, by rw [getD_at hp]; exact HK.out.symm, ?_, fun i h => hseen.out.node i h h, fun i h => hseen.out.text i h h, fun i h => hseen.out.vals i h h⟩
                have := hS.lam
                rw [e0] at this
                simpa using this
        · have z2 : (kd == 1) = false := beq_eq_false_iff_ne.2 e2
          have z2' : (kd != 1) = true := by simp [e2]
          clear e2
          go_enter Tryd.func5, Tryd.ntmps5
          go_wp2_with fail
          all_goals (go_ret; exact ⟨false, rfl, by simp, Below.refl _ _⟩)
      · have z1 : (s == (t.length : Int)) = false := beq_eq_false_iff_ne.2 e1
        have z1' : (s != (t.length : Int)) = true := by simp [e1]
        clear e1
        go_enter Tryd.func5, Tryd.ntmps5
        go_wp2_with fail
        all_goals (go_ret; exact ⟨false, rfl, by simp, Below.refl _ _⟩)
end Go.Proofs.YtjebadadimejpaaDoor
