/- FnSpecificWhole: texts joined (joinf.py) -/
import Derived.Test.YtnibpdmbccfgoaaGreatDoorT406
import Derived.WalkMore
import Derived.ScopeJumps
import Derived.Test.YtnibpdmbccfgoaaGreatDoorJ5
import Derived.Deep.LoopGhost
namespace Go.Proofs.YtnibpdmbccfgoaaGreatDoor
open Go.RowKit
set_option linter.unusedVariables false

/-- What a run may do with the labels of a scope: at a goto it goes on behind the label. -/
structure Via (P : Program) (c : Code) (Q : Exit → Act → World → Prop) (Z : Nat → Exit → Act → World → Prop) : Prop where
  jump : ∀ (n l : Nat) (rest : Code) (a : Act) (w : World), findLabel c l = some rest → rest.wp P (Z n) a w → Z (n + 1) (.goto l) a w
  ret : ∀ (n : Nat) (a : Act) (w : World), Q .ret a w → Z n .ret a w

def Exit.into (P : Program) (c : Code) (Q : Exit → Act → World → Prop) : Nat → Exit → Act → World → Prop
  | 0, .goto _, _, _ => False
  | n + 1, .goto l, a, w => ∃ rest, findLabel c l = some rest ∧ rest.wp P (Exit.into P c Q n) a w
  | _, .normal, a, w => Q .normal a w
  | _, .exit id, a, w => Q (.exit id) a w
  | _, .ret, a, w => Q .ret a w
  | _, .panic ch, a, w => Q (.panic ch) a w
  | _, .outgrown, a, w => Q .outgrown a w

theorem via_into (P : Program) (c : Code) (Q : Exit → Act → World → Prop) : Via P c Q (Exit.into P c Q) where
  jump n l rest a w h1 h2 := ⟨rest, h1, h2⟩
  ret n a w h := by cases n <;> exact h

theorem scope_into {P : Program} {c : Code} {Q : Exit → Act → World → Prop} {b : Frame} {k : List Item} {cs : List Frame} :
    ∀ (n : Nat) (d : Code) (a : Act) (w : World), d.wp P (Exit.into P c Q n) a w →
      ∃ e a' w', Q e a' w' ∧ Arrives P (lone (b.at a (.code d :: .inScope c :: k)) cs w) b k cs e a' w' := by
  intro n
  induction n with
  | zero =>
    intro d a w h
    obtain ⟨e, a₁, w₁, hq, harr⟩ := h b (.inScope c :: k) cs
    cases e with
    | normal => exact ⟨.normal, a₁, w₁, hq, Steps.trans harr (.one step_inScope)⟩
    | exit id => exact ⟨.exit id, a₁, w₁, hq, fun k' hk => harr k' (by simp [exitTo, hk])⟩
    | goto l => exact hq.elim
    | ret => exact ⟨_, a₁, w₁, hq, harr⟩
    | panic ch => exact ⟨_, a₁, w₁, hq, harr⟩
    | outgrown => exact ⟨_, a₁, w₁, hq, harr⟩
  | succ n ih =>
    intro d a w h
    obtain ⟨e, a₁, w₁, hq, harr⟩ := h b (.inScope c :: k) cs
    cases e with
    | normal => exact ⟨.normal, a₁, w₁, hq, Steps.trans harr (.one step_inScope)⟩
    | exit id => exact ⟨.exit id, a₁, w₁, hq, fun k' hk => harr k' (by simp [exitTo, hk])⟩
    | goto l =>
      obtain ⟨rest, hr, hw⟩ := hq
      have hg : gotoIn l (.inScope c :: k) = some (.code rest :: .inScope c :: k) := by simp [gotoIn, hr]
      obtain ⟨e₂, a₂, w₂, hq₂, harr₂⟩ := ih rest a₁ w₁ hw
      exact ⟨e₂, a₂, w₂, hq₂, .of_steps (harr _ hg) harr₂⟩
    | ret => exact ⟨_, a₁, w₁, hq, harr⟩
    | panic ch => exact ⟨_, a₁, w₁, hq, harr⟩
    | outgrown => exact ⟨_, a₁, w₁, hq, harr⟩

theorem wp_scope_via {P : Program} {c : Code} {Q : Exit → Act → World → Prop} {a : Act} {w : World} (n : Nat)
    (h : ∀ Z, Via P c Q Z → c.wp P (Z n) a w) : (Code.scope c).wp P Q a w := by
  intro b k cs
  obtain ⟨e, a₁, w₁, hq, harr⟩ := scope_into (b := b) (k := k) (cs := cs) n c a w (h _ (via_into P c Q))
  cases e with
  | normal => exact ⟨.normal, a₁, w₁, hq, .head step_scope harr⟩
  | exit id => exact ⟨.exit id, a₁, w₁, hq, fun k' hk => .head step_scope (harr k' hk)⟩
  | goto l => exact ⟨.goto l, a₁, w₁, hq, fun k' hk => .head step_scope (harr k' hk)⟩
  | ret => exact ⟨_, a₁, w₁, hq, .of_steps (.one step_scope) harr⟩
  | panic ch => exact ⟨_, a₁, w₁, hq, .of_steps (.one step_scope) harr⟩
  | outgrown => exact ⟨_, a₁, w₁, hq, .of_steps (.one step_scope) harr⟩

/-- parseNth's text inside its scope. -/
def IsNth (c : Code) : Prop := ∃ r, Tryz.f58.body = some (.seq r (.scope c))
theorem isNth_ex : ∃ c, IsNth c := ⟨_, _, rfl⟩

end Go.Proofs.YtnibpdmbccfgoaaGreatDoor

namespace Go.Proofs.YtnibpdmbccfgoaaGreatDoor
open Go.RowKit
set_option linter.unusedVariables false

theorem parse10_digits (s : ByteArray) (k : Nat) : ∀ (d j acc : Nat), k + j + d ≤ s.size → (∀ x, x < j + d → isDg (bAt s (k + x)) = true) → (∀ i, i ≤ j + d → dgV s k i < 100000) → acc = dgV s k j →
    Lib.parseUint10 acc ((s.data.toList.drop (k + j)).take d) = .ok (dgV s k (j + d))
  | 0, j, acc, _, _, _, ha => by
    rw [List.take_zero, ha]; rfl
  | d + 1, j, acc, hle, hd, hv, ha => by
    have hl : s.data.toList.length = s.size := by rw [Array.length_toList]; rfl
    have hlt : k + j < s.size := by omega
    have e1 : s.data.toList.drop (k + j) = s[k + j] :: s.data.toList.drop (k + j + 1) := by
      rw [List.drop_eq_getElem_cons (by omega)]; rfl
    have hdig := (isDg_iff _).1 (hd j (by omega))
    rw [bAt_in hlt] at hdig
    have hval : dgV s k (j + 1) = 10 * acc + (s[k + j].toNat - 48) := by rw [ha]; show 10 * dgV s k j + (bAt s (k + j) - 48) = _; rw [bAt_in hlt]
    have hsm := hv (j + 1) (by omega)
    have ih := parse10_digits s k d (j + 1) (dgV s k (j + 1)) (by omega) (fun x hx => hd x (by omega)) (fun i hi => hv i (by omega)) rfl
    rw [e1, List.take_succ_cons]
    have hlo := hdig.1
    have hhi := hdig.2
    show (if 48 ≤ s[k + j].toNat ∧ s[k + j].toNat ≤ 57 then
      if 1844674407370955162 ≤ acc then Lib.NumEnd.range
      else if 18446744073709551616 ≤ acc * 10 + (s[k + j].toNat - 48) then .range
      else Lib.parseUint10 (acc * 10 + (s[k + j].toNat - 48)) (List.take d (s.data.toList.drop (k + j + 1))) else Lib.NumEnd.syntax) = _
    rw [if_pos ⟨hlo, hhi⟩, if_neg (by omega), if_neg (by omega)]
    have e2 : acc * 10 + (s[k + j].toNat - 48) = dgV s k (j + 1) := by rw [hval]; omega
    have e3 : k + (j + 1) = k + j + 1 := by omega
    have e4 : j + 1 + d = j + (d + 1) := by omega
    rw [e2, ← e3, ih, e4]

theorem dgC_mono (s : ByteArray) (k : Nat) (n : Nat) : dgC s k n ≤ dgC s k (n + 1) := by
  have h := dgC_le s k n
  have h1 : dgC s k (n + 1) = min (10 * dgC s k n + (bAt s (k + n) - 48)) 100000 := rfl
  rw [h1]
  rcases Nat.le_total (10 * dgC s k n + (bAt s (k + n) - 48)) 100000 with q | q
  · rw [Nat.min_eq_left q]; omega
  · rw [Nat.min_eq_right q]; exact h
theorem dgC_mono2 (s : ByteArray) (k : Nat) (n : Nat) : ∀ d, dgC s k n ≤ dgC s k (n + d)
  | 0 => Nat.le_refl _
  | d + 1 => Nat.le_trans (dgC_mono2 s k n d) (dgC_mono s k (n + d))
/-- A number below the cap is small all along. -/
theorem dgV_small {s : ByteArray} {k j : Nat} (h : dgC s k j < 100000) : ∀ i, i ≤ j → dgV s k i < 100000 := fun i hi => by
  have h1 := dgC_mono2 s k i (j - i)
  rw [show i + (j - i) = j by omega] at h1
  have h2 := dgC_eq s k i (by omega)
  omega

/-- What strconv.Atoi makes of digits. -/
theorem atoi_digits (s : ByteArray) (k j : Nat) (h : DgTo s k j) (hj : 0 < j) (hc : dgC s k j < 100000) : Lib.atoiAll (s.extract k (k + j)).data.toList = .ok ((dgV s k j : Nat) : Int) := by
  have hle := h.le
  have hl : s.data.toList.length = s.size := by rw [Array.length_toList]; rfl
  have e0 : (s.extract k (k + j)).data.toList = (s.data.toList.drop k).take j := by
    rw [ByteArray.data_extract, Array.toList_extract]
    rw [List.extract_eq_take_drop]
    rw [show k + j - k = j by omega]
  have hp := parse10_digits s k j 0 0 (by omega) (fun x hx => h.all x (by omega)) (fun i hi => dgV_small hc i (by omega)) rfl
  rw [Nat.add_zero, Nat.zero_add] at hp
  have hlt : k < s.size := by omega
  have e1 : s.data.toList.drop k = s[k] :: s.data.toList.drop (k + 1) := by
    rw [List.drop_eq_getElem_cons (by omega)]; rfl
  obtain ⟨d, rfl⟩ : ∃ d, j = d + 1 := ⟨j - 1, by omega⟩
  have hdig := (isDg_iff _).1 (h.all 0 (by omega))
  rw [Nat.add_zero, bAt_in hlt] at hdig
  rw [e0, e1, List.take_succ_cons, Lib.atoiAll_plain _ _ (by omega) (by omega)]
  rw [e1, List.take_succ_cons] at hp
  unfold Lib.parseMag
  rw [if_neg (by simp), hp]
  have hs := dgV_small hc (d + 1) (Nat.le_refl _)
  show (if 9223372036854775808 ≤ dgV s k (d + 1) then Lib.NumEnd.range else .ok ((dgV s k (d + 1) : Nat) : Int)) = _
  rw [if_neg (by omega)]

/-- Behind the digits. -/
def DgL (s : ByteArray) (k g : Nat) (D P : Value) (B : Nat) (W : World) (v4 : Value) (wx : World) : Prop := ∃ d, v4 = .int .i64 ((k + d : Nat) : Int) ∧ DgTo s k d ∧ PrX s g k D P B W wx
/-- Where (*parser).parseInteger ends. -/
def IntP (s : ByteArray) (k j g : Nat) (D P : Value) (B : Nat) (W : World) (e : Ending) (w' : World) : Prop :=
  (j = 0 ∧ ∃ v, ErrV v ∧ e = .returned (.tuple #[.int .i64 0, v]) ∧ PrX s g k D P B W w') ∨
  (0 < j ∧ e = .returned (.tuple #[.int .i64 ((dgV s k j : Nat) : Int), .nilIface]) ∧ PrX s g (k + j) D P B W w')

set_option maxRecDepth 100000 in
set_option maxHeartbeats 8000000 in
theorem pInteger_any (s : ByteArray) (g k j : Nat) (D P : Value) (B : Nat) (W w : World) (hs : s.size ≤ 100000) (hD : DgTo s k j) (hc : dgC s k j < 100000) (h : PrX s g k D P B W w) :
    Calls Tryz.prog 65 #[.pointer (some ⟨g, 0, none⟩)] w (IntP s k j g D P B W) := by
  have HR := Lib.hid h
  have c0 := h.c0
  have c1 := h.c1
  have hle := hD.le
  have HC := Lib.hid hc
  have HD := Lib.hid hD
  clear h hc hD
  go_enter Tryz.func65, Tryz.ntmps65
  go_upto_block 0 with fail
  obtain ⟨wo, rfl⟩ : ∃ wo : World, wo = w := ⟨_, rfl⟩
  go_cut [4] (fun v4 wx => v4 = .int .i64 ((k + j : Nat) : Int) ∧ wo = wx)
  case first =>
    go_wp2_with fail
    go_loopg [4] (s.size - k) (fun gk v4 wr => ∃ d : Nat, gk = s.size - (k + d) ∧ d ≤ j ∧ v4 = .int .i64 ((k + d : Nat) : Int) ∧ wo = wr)
    case atStart => exact ⟨0, rfl, Nat.zero_le _, rfl, rfl⟩
    case round =>
      obtain ⟨d, rfl, hd, rfl, rfl⟩ := hrel
      by_cases hlt2 : k + d < s.size
      · have hb := bAt_in hlt2
        by_cases hdj : d < j
        · have hdig := (isDg_iff _).1 (HD.out.all d hdj)
          rw [hb] at hdig
          have m1 : decide ((48 : Int) ≤ (s[k + d].toNat : Int)) = true := decide_eq_true (by omega)
          have m2 : decide ((s[k + d].toNat : Int) ≤ (57 : Int)) = true := decide_eq_true (by omega)
          clear hdig
          go_wp2_with fail
          go_roundg (s.size - (k + (d + 1)))
          case measure => omega
          case rel => exact ⟨d + 1, rfl, hdj, by go_num, by trivial⟩
        · have hdj2 : d = j := by omega
          subst hdj2
          have hdig := (isDg_no _).1 HD.out.stop
          rw [hb] at hdig
          by_cases h48 : 48 ≤ s[k + d].toNat
          · have m1 : decide ((48 : Int) ≤ (s[k + d].toNat : Int)) = true := decide_eq_true (by omega)
            have m2 : decide ((s[k + d].toNat : Int) ≤ (57 : Int)) = false := decide_eq_false (by omega)
            clear hdig
            go_wp2_with fail
            go_meet
            exact ⟨rfl, rfl⟩
          · have m1 : decide ((48 : Int) ≤ (s[k + d].toNat : Int)) = false := decide_eq_false (by omega)
            clear hdig
            go_wp2_with fail
            go_meet
            exact ⟨rfl, rfl⟩
      · have hdj2 : d = j := by omega
        subst hdj2
        go_wp2_with fail
        go_meet
        exact ⟨rfl, rfl⟩
  case rest =>
    obtain ⟨rfl, rfl⟩ := hcut
    by_cases h0 : j = 0
    · subst h0
      have m0 : (((k + 0 : Nat) : Int) == (k : Int)) = true := beq_iff_eq.2 (by omega)
      go_wp2_with fail
      refine (errNew_any _ _).mono ?_
      rintro e1 w1 ⟨v, ⟨pp, rfl⟩, rfl, hb⟩
      have HB := Lib.hid hb
      clear hb
      go_wp2_with fail
      go_ret2
      exact .inl ⟨rfl, _, ⟨pp, rfl⟩, rfl, HR.out.next HB.out⟩
    · have m0 : (((k + j : Nat) : Int) == (k : Int)) = false := beq_eq_false_iff_ne.2 (by omega)
      have HA : Hid (∀ U, Calls Tryz.prog 73 #[.string (s.extract k (k + j))] U fun e w' => e = .returned (.tuple #[.int .i64 ((dgV s k j : Nat) : Int), .nilIface]) ∧ (w' = U ∨ ∃ t, w' = Lib.bytesWorld U 5 t)) := fun U =>
        Tryz.strconv_Atoi_ok (s.extract k (k + j)) (by rw [ByteArray.size_extract]; omega) _ (atoi_digits s k j HD.out (by omega) HC.out) U
      have f1 := HR.out.fz 1
      have HS := Lib.hid (HR.out.set (k + j))
      have hpos : 0 < j := by omega
      clear h0
      go_wp2_with fail
      refine (HA.out _).mono ?_
      rintro e1 w1 ⟨rfl, hw⟩
      have HS2 : Hid (PrX s g (k + j) D P B W w1) := by
        rcases hw with rfl | ⟨t, rfl⟩
        · exact HS.out
        · exact HS.out.next (Lib.bytesWorld_below _ _ _)
      clear hw
      go_wp2_with fail
      go_ret2
      exact .inr ⟨hpos, rfl, HS2.out⟩
end Go.Proofs.YtnibpdmbccfgoaaGreatDoor
