/- The reader's escape: (*reader).escape. -/
import Derived.Test.YtkdfdfhejibopaaGreatDoorT404
import Derived.Laws.Cover4
import Derived.Deep.DeepCutAuto
import Derived.Deep.CutBlock
namespace Go.Proofs.YtkdfdfhejibopaaGreatDoor
open Go.RowKit
set_option linter.unusedVariables false

theorem RdW.next {s : ByteArray} {g k : Nat} {u : Bool} {B : Nat} {W w w' : World} (h : RdW s g k u B W w) (hb : Below w.heap.size w w') : RdW s g k u B W w' :=
  ⟨(hb.block g (Array.getElem?_eq_some_iff.1 h.blk).1).trans h.blk, h.old.trans (hb.mono (Nat.le_of_lt (Nat.lt_of_le_of_lt h.base (Array.getElem?_eq_some_iff.1 h.blk).1))), h.base⟩

theorem RdW.setI {s : ByteArray} {g k : Nat} {u : Bool} {B : Nat} {W w : World} (h : RdW s g k u B W w) (k' : Nat) (x : Int) (hx : x = (k' : Int)) : RdW s g k' u B W (w.setCell ⟨g, 1, none⟩ (.int .i64 x)) := by
  rw [hx]; exact h.set k'

theorem wsEnd_crlf {s : ByteArray} {e : Nat} (h : isCrlf s e = true) : wsEnd s e = e + 2 := by
  unfold isCrlf at h
  have h := of_decide_eq_true h
  unfold wsEnd
  rw [if_pos (by omega), if_pos h.2.1, if_pos ⟨h.1, h.2.2⟩]
theorem wsEnd_no {s : ByteArray} {e : Nat} (h : isCrlf s e = false) : wsEnd s e = if isWs (bAt s e) then e + 1 else e := by
  unfold isCrlf at h
  have h := of_decide_eq_false h
  unfold wsEnd isWs
  by_cases h1 : e < s.size
  · rw [if_pos h1]
    by_cases h2 : bAt s e = 13
    · rw [if_pos h2, if_neg (fun q => h ⟨q.1, h2, q.2⟩), if_pos (by simp [h2])]
    · rw [if_neg h2]
      by_cases h3 : bAt s e = 32 ∨ bAt s e = 9 ∨ bAt s e = 10 ∨ bAt s e = 12
      · rw [if_pos h3, if_pos]
        exact decide_eq_true (by omega)
      · rw [if_neg h3, if_neg]
        simp only [decide_eq_true_eq]; omega
  · rw [if_neg h1, bAt_out (by omega)]
    rfl

/-- A number that is no code point, or one that is not sure. -/
def badCp (n : Nat) : Bool := decide (n = 0 ∨ n = 65279 ∨ 1114111 < n ∨ (55296 ≤ n ∧ n < 57344))

/-- What an escape is: k is the backslash's place. -/
def EscIs (s : ByteArray) (k : Nat) (out : ByteArray) (k' : Nat) (u : Bool) : Prop :=
  ∃ j, HxTo s (k + 1) j ∧ (j = 0 → out = s.extract (k + 1) (k + 2) ∧ k' = k + 2 ∧ u = false) ∧
    (0 < j → k' = wsEnd s (k + 1 + j) ∧ u = badCp (hxV s (k + 1) j) ∧ (u = false → out = Utf8.encode ((hxV s (k + 1) j : Nat) : Int)))

def EscRd (s : ByteArray) (g k : Nat) (B : Nat) (W : World) (e : Ending) (w' : World) : Prop :=
  ∃ (out : ByteArray) (k' : Nat) (u : Bool), e = .returned (.string out) ∧ RdW s g k' u B W w' ∧ k' ≤ s.size ∧ EscIs s k out k' u

theorem run_rune_row (P : Program) (w : World) (b : Nat) (n : Int) (src dst e : TypeId) (hs : P.underlying src = some (.slice e)) (he : P.underlying e = some (.int .i32)) (hd : P.underlying dst = some .string) (hc : w.cell? ⟨b, 0, none⟩ = some (.int .i32 n)) (c : Nat) :
    (convert src dst (.slice (some ⟨b, 0, none⟩) 1 c)).run P w = .ok (.string (Utf8.encode n)) w := by
  rw [run_convert_runes_string w src dst e _ _ _ hs he hd]
  have := run_runesToString (P := P) w ⟨b, 0, none⟩ 1 c [n] (by simp [loadCells, loadCellsFrom, Addr.add, hc, Result.andThen])
  rw [this]
  show Result.ok (Value.string (ByteArray.empty ++ Utf8.encode n)) w = _
  rw [ByteArray.empty_append]

set_option maxRecDepth 100000 in
set_option maxHeartbeats 1000000 in
theorem encoded_any (N : Nat) (hN : N < 16777216) (w : World) : Calls Tryz.prog 33 #[.int .i64 (N : Int)] w fun e w' => e = .returned (.string (Utf8.encode (N : Int))) ∧ Below w.heap.size w w' := by
  have hal : Below w.heap.size w (w.alloc (.cells #[.int .i32 (N : Int)] 21)) := (Below.refl _ _).alloc (Nat.le_refl _) _
  have hcv := run_rune_row Tryz.prog (w.alloc (.cells #[.int .i32 (N : Int)] 21)) w.heap.size (N : Int) 117 9 21 Tryz.underlying117 Tryz.underlying21 Tryz.underlying9 ((World.cell?_alloc_mark _ _ _ _ 0).trans rfl) 1
  have HAL := Lib.hid hal
  clear hal
  go_enter Tryz.func33, Tryz.ntmps33
  go_wp2_with fail
  go_ret
  exact ⟨rfl, HAL.out⟩

theorem RdW.c3 {s : ByteArray} {g k : Nat} {u : Bool} {B : Nat} {W w : World} (h : RdW s g k u B W w) : w.cell? ⟨g, 3, none⟩ = some (.bool u) := by rw [cell_of_row w g 3 _ _ _ h.blk]; rfl

/-- Behind the digits. -/
def EscL (s : ByteArray) (g k : Nat) (B : Nat) (W : World) (n m : Value) (wx : World) : Prop :=
  ∃ j : Nat, m = .int .i64 (j : Int) ∧ n = .int .i64 ((hxV s (k + 1) j : Nat) : Int) ∧ HxTo s (k + 1) j ∧ RdW s g (k + 1 + j) false B W wx

/-- Ahead of the white space that is one byte. -/
def EscW (s : ByteArray) (g e : Nat) (B : Nat) (W : World) (c : Value) (wx : World) : Prop :=
  ∃ (b : Bool) (e' : Nat), c = .bool b ∧ RdW s g e' false B W wx ∧ wsEnd s e = (if b = true then e' + 1 else e')

set_option maxRecDepth 100000 in
set_option maxHeartbeats 8000000 in
theorem escape_any (s : ByteArray) (g k : Nat) (B : Nat) (W w : World) (hs : s.size ≤ 2147483647) (hE : escAt s k = true) (hlo : bAt s (k + 1) < 128) (h : RdW s g k false B W w) :
    Calls Tryz.prog 26 #[.pointer (some ⟨g, 0, none⟩)] w (EscRd s g k B W) := by
  rw [escAt_iff] at hE
  obtain ⟨hk2, _, _, _, _⟩ := hE
  have HLo := Lib.hid hlo
  obtain ⟨c0, c1⟩ := h.rd
  have f1 := h.fz 1
  have HR0 := Lib.hid (h.set (k + 1))
  have e2 : IntKind.i64.wrap ((k : Int) + 1) = ((k + 1 : Nat) : Int) := by
    have := IntWalk.i64_in ((k : Int) + 1) ⟨by omega, by omega⟩
    rw [this]; rfl
  clear h hlo
  go_enter Tryz.func26, Tryz.ntmps26
  go_upto_block 0 with fail
  go_cut [3, 4] (fun n m wx => EscL s g k B W n m wx)
  case first =>
    go_wp2_with fail
    go_loopw [3, 4] (fun n m wr => ∃ (j N : Nat), n = .int .i64 (N : Int) ∧ m = .int .i64 (j : Int) ∧ j ≤ 6 ∧ N < 16777216 ∧ k + 1 + j ≤ s.size ∧ Hid (N = hxV s (k + 1) j) ∧ Hid (∀ x, x < j → isHx (bAt s (k + 1 + x)) = true) ∧ Hid (RdW s g (k + 1 + j) false B W wr)) (fun _ m _ => 6 - (intOf m).toNat)
    case atStart => exact ⟨0, 0, rfl, rfl, by omega, by omega, by omega, rfl, fun x hx => absurd hx (Nat.not_lt_zero x), HR0.out⟩
    case round =>
      obtain ⟨j, N, rfl, rfl, hj, hN, hle, HN, HA, HR⟩ := hrel
      clear c0 c1 f1 e2 HR0
      by_cases h6 : j < 6
      · have HNx : Hid (∀ U, RdW s g (k + 1 + j) false B W U → Calls Tryz.prog 18 #[.pointer (some ⟨g, 0, none⟩)] U (RdN (.int .u8 (bAt s (k + 1 + j) : Int)) U)) := fun U h => next_any s g (k + 1 + j) U hs (by omega) h.rd
        have hcl := bAt_lt s (k + 1 + j)
        by_cases hx : k + 1 + j < s.size ∧ isHx (bAt s (k + 1 + j)) = true
        · have hxv : hxI (bAt s (k + 1 + j)) = ((hxD (bAt s (k + 1 + j)) : Nat) : Int) := by unfold hxI; rw [if_pos hx.2]
          have hd16 := hxD_lt hx.2
          have HA2 : Hid (∀ x, x < j + 1 → isHx (bAt s (k + 1 + x)) = true) := fun x hxx => by
            by_cases q : x < j
            · exact HA.out x q
            · have : x = j := by omega
              subst this; exact hx.2
          have HN2 : Hid (16 * N + hxD (bAt s (k + 1 + j)) = hxV s (k + 1) (j + 1)) := by rw [Hid, HN.out]; rfl
          have hN2 : 16 * N + hxD (bAt s (k + 1 + j)) < 16777216 := by
            rw [HN2.out]
            have q1 := hxV_lt (j + 1) HA2.out
            have q2 := pow16_le (n := j + 1) (by omega)
            omega
          have HHx := Lib.hid (fun w => hexadecimal_any (bAt s (k + 1 + j)) hcl w)
          rw [hxv] at HHx
          have hlt := hx.1
          obtain ⟨c, hc⟩ : ∃ c, c = bAt s (k + 1 + j) := ⟨_, rfl⟩
          rw [← hc] at HNx HHx HN2 hN2 hd16
          obtain ⟨d, hd⟩ : ∃ d, d = hxD c := ⟨_, rfl⟩
          rw [← hd] at HHx HN2 hN2 hd16
          obtain ⟨c0, c1⟩ := HR.out.rd
          have f1 := HR.out.fz 1
          clear hx hxv hc hd hcl HA HN
          go_wp2_with fail
          refine (HNx.out _ HR.out).mono ?_
          rintro e w1 ⟨rfl, q1, rfl⟩
          have HR1 := Lib.hid (HR.out.drew q1)
          go_wp2_with fail
          refine (HHx.out _).mono ?_
          rintro e w1 ⟨rfl, rfl⟩
          go_wp2_with fail
          refine (HNx.out _ HR1.out).mono ?_
          rintro e w1 ⟨rfl, q2, rfl⟩
          have HR2 := Lib.hid (HR.out.drew (q1 + q2))
          go_wp2_with fail
          refine (HHx.out _).mono ?_
          rintro e w1 ⟨rfl, rfl⟩
          go_wp2_with fail
          go_roundw
          case rel => exact ⟨j + 1, 16 * N + d, by go_num, by go_num, by omega, hN2, by omega, HN2.out, HA2.out, HR2.out.setI _ _ (by omega)⟩
          case measure => simp [intOf]; omega
        · have hno : isHx (bAt s (k + 1 + j)) = false := by
            by_cases q : k + 1 + j < s.size
            · cases hh : isHx (bAt s (k + 1 + j))
              · rfl
              · exact absurd ⟨q, hh⟩ hx
            · rw [bAt_out (by omega)]; rfl
          have hxv : hxI (bAt s (k + 1 + j)) = -1 := by unfold hxI; rw [hno]; rfl
          have HXT : Hid (HxTo s (k + 1) j) := ⟨hj, hle, HA.out, fun _ _ => hno⟩
          have HHx := Lib.hid (fun w => hexadecimal_any (bAt s (k + 1 + j)) hcl w)
          rw [hxv] at HHx
          obtain ⟨c, hc⟩ : ∃ c, c = bAt s (k + 1 + j) := ⟨_, rfl⟩
          rw [← hc] at HNx HHx
          clear hx hxv hno hc hcl HA
          go_wp2_with fail
          refine (HNx.out _ HR.out).mono ?_
          rintro e w1 ⟨rfl, q1, rfl⟩
          have HR1 := Lib.hid (HR.out.drew q1)
          go_wp2_with fail
          refine (HHx.out _).mono ?_
          rintro e w1 ⟨rfl, rfl⟩
          go_wp2_with fail
          go_meet
          exact ⟨j, rfl, by rw [HN.out], HXT.out, HR1.out⟩
      · have hj6 : j = 6 := by omega
        subst hj6
        have HXT : Hid (HxTo s (k + 1) 6) := ⟨by omega, hle, HA.out, fun h => by omega⟩
        go_wp2_with fail
        go_meet
        exact ⟨6, rfl, by rw [HN.out], HXT.out, HR.out⟩
  case rest =>
    obtain ⟨j, rfl, rfl, hxt, hr⟩ := hcut
    obtain ⟨N, hNe⟩ : ∃ N, N = hxV s (k + 1) j := ⟨_, rfl⟩
    have hN : N < 16777216 := by rw [hNe]; exact hxt.small
    rw [← hNe]
    have HN := Lib.hid hNe
    have HXT := Lib.hid hxt
    have HR := Lib.hid hr
    have hel := hxt.le
    have hj6 := hxt.six
    clear hNe hxt hr c0 c1 f1 e2 HR0
    by_cases h0 : j = 0
    · subst h0
      obtain ⟨c0, c1⟩ := HR.out.rd
      have f1 := HR.out.fz 1
      have hlo : (s[k + 1].toNat : Int) < 128 := by have := HLo.out; rw [bAt_in hk2] at this; omega
      have HP := Lib.hid (fun U => pt2_lo s (k + 1) U hs hk2 hlo)
      have HR2 := Lib.hid (HR.out.set (k + 2))
      obtain ⟨v, hv⟩ : ∃ v : Int, v = s[k + 1].toNat := ⟨_, rfl⟩
      rw [← hv] at HP
      clear hlo hv
      go_wp2_with fail
      go_quiet (first | (go_at_call 10; exact (HP.out _).mono (fun _ _ hh => ⟨hh.1, _, hh.2.symm⟩)))
      have e3 : IntKind.i64.wrap (((k + 1 : Nat) : Int) + 1) = ((k + 2 : Nat) : Int) := by
        have := IntWalk.i64_in (((k + 1 : Nat) : Int) + 1) ⟨by omega, by omega⟩
        rw [this]; rfl
      go_wp2_with fail
      go_quiet (fail)
      go_wp2_with fail
      go_ret
      exact ⟨_, k + 2, false, rfl, HR2.out.drew _ , by omega, 0, HXT.out, fun _ => ⟨rfl, rfl, rfl⟩, fun h => absurd h (by omega)⟩
    · have hz : ((j : Int) == 0) = false := beq_eq_false_iff_ne.2 (by omega)
      have hpos : 0 < j := by omega
      have HTk := Lib.hid (taken_any s g (k + 1 + j) false B W wc hs hel HR.out)
      obtain ⟨e, he⟩ : ∃ e, e = k + 1 + j := ⟨_, rfl⟩
      have hel2 : e ≤ s.size := by omega
      rw [← he] at HTk HR
      have HEe := Lib.hid he
      clear he hel h0
      go_upto_region 12 with fail
      go_cut [83] (fun c wx => EscW s g e B W c wx)
      case first =>
        unfold TkPost at HTk
        cases hcr : isCrlf s e
        · rw [hcr] at HTk
          have HTk2 : Hid (Calls Tryz.prog 31 #[.pointer (some ⟨g, 0, none⟩), .string ⟨#[13, 10]⟩] wc (fun e' w' => e' = .returned (.bool false) ∧ RdW s g e false B W w')) := HTk.out
          clear HTk
          go_wp2_with fail
          refine HTk2.out.mono ?_
          rintro e1 w5 ⟨rfl, hr5⟩
          have HR5 := Lib.hid hr5
          have HNx := Lib.hid (next_any s g e w5 hs (by omega) hr5.rd)
          clear hr5
          go_wp2_with fail
          refine HNx.out.mono ?_
          rintro e1 w6 ⟨rfl, q6, rfl⟩
          have HR6 := Lib.hid (HR5.out.drew q6)
          have HSp := Lib.hid (fun U => isSpace_any (bAt s e) (bAt_lt s _) U)
          have HWs := Lib.hid (wsEnd_no hcr)
          obtain ⟨c, hc⟩ : ∃ c, c = bAt s e := ⟨_, rfl⟩
          rw [← hc] at HSp HWs ⊢
          obtain ⟨bw, hbw⟩ : ∃ bw, bw = isWs c := ⟨_, rfl⟩
          rw [← hbw] at HSp HWs
          clear hc hbw
          go_wp2_with fail
          refine (HSp.out _).mono ?_
          rintro e1 w7 ⟨rfl, rfl⟩
          go_wp2_with fail
          go_meet
          exact ⟨bw, e, rfl, HR6.out, HWs.out⟩
        · rw [hcr] at HTk
          have HTk2 : Hid (Calls Tryz.prog 31 #[.pointer (some ⟨g, 0, none⟩), .string ⟨#[13, 10]⟩] wc (fun e' w' => e' = .returned (.bool true) ∧ RdW s g (e + 2) false B W w')) := HTk.out
          clear HTk
          have HWs := Lib.hid (wsEnd_crlf hcr)
          go_wp2_with fail
          refine HTk2.out.mono ?_
          rintro e1 w5 ⟨rfl, hr5⟩
          have HR5 := Lib.hid hr5
          clear hr5
          go_wp2_with fail
          go_meet
          exact ⟨false, e + 2, rfl, HR5.out, by rw [HWs.out]; rfl⟩
      case rest =>
        clear HTk
        obtain ⟨b, e', rfl, hr, hwe⟩ := hcut
        have HR := Lib.hid hr
        have HWe := Lib.hid hwe
        have hle : wsEnd s e ≤ s.size := wsEnd_le hel2
        have he' : b = true → e' + 1 ≤ s.size := fun h => by rw [hwe, if_pos h] at hle; exact hle
        clear hr hwe
        go_upto_if 83 with fail
        go_cut [] (fun wx => RdW s g (wsEnd s e) false B W wx)
        case first =>
          cases b
          · go_wp2_with fail
            go_meet
            rw [HWe.out]; exact HR.out
          · have he2 := he' rfl
            obtain ⟨c0, c1⟩ := HR.out.rd
            have f1 := HR.out.fz 1
            go_wp2_with fail
            go_meet
            rw [HWe.out]; exact HR.out.setI _ _ (by simp)
        case rest =>
          have HR := Lib.hid hcut
          clear hcut
          obtain ⟨ke, hke⟩ : ∃ ke, ke = wsEnd s e := ⟨_, rfl⟩
          rw [← hke] at HR hle
          have HKe : Hid (ke = wsEnd s (k + 1 + j)) := by rw [Hid, hke, HEe.out]
          clear hke
          go_upto_region 14 with fail
          go_cut [108] (fun c wx => c = .bool (badCp N) ∧ RdW s g ke false B W wx)
          case first =>
            by_cases q0 : N = 0
            · have e0 : ((N : Int) == 0) = true := beq_iff_eq.2 (by omega)
              have HV : Hid (badCp N = true) := decide_eq_true (by omega)
              clear q0
              go_wp2_with fail
              go_meet
              exact ⟨by rw [HV.out], HR.out⟩
            have e0 : ((N : Int) == 0) = false := beq_eq_false_iff_ne.2 (by omega)
            by_cases q1 : N = 65279
            · have e1 : ((N : Int) == 65279) = true := beq_iff_eq.2 (by omega)
              have HV : Hid (badCp N = true) := decide_eq_true (by omega)
              clear q0 q1
              go_wp2_with fail
              go_meet
              exact ⟨by rw [HV.out], HR.out⟩
            have e1 : ((N : Int) == 65279) = false := beq_eq_false_iff_ne.2 (by omega)
            by_cases q2 : 1114111 < N
            · have HV : Hid (badCp N = true) := decide_eq_true (by omega)
              clear q0 q1
              go_wp2_with fail
              go_meet
              exact ⟨by rw [HV.out], HR.out⟩
            by_cases q3 : 55296 ≤ N
            · by_cases q4 : N < 57344
              · have HV : Hid (badCp N = true) := decide_eq_true (by omega)
                clear q0 q1
                go_wp2_with fail
                go_meet
                exact ⟨by rw [HV.out]; congr 1; simp only [Bool.or_eq_true, decide_eq_true_eq]; omega, HR.out⟩
              · have HV : Hid (badCp N = false) := decide_eq_false (by omega)
                clear q0 q1
                go_wp2_with fail
                go_meet
                exact ⟨by rw [HV.out]; congr 1; simp only [Bool.or_eq_false_iff, decide_eq_false_iff_not]; omega, HR.out⟩
            · have HV : Hid (badCp N = false) := decide_eq_false (by omega)
              clear q0 q1
              go_wp2_with fail
              go_meet
              exact ⟨by rw [HV.out]; congr 1; simp only [decide_eq_false_iff_not]; omega, HR.out⟩
          case rest =>
            obtain ⟨rfl, hr⟩ := hcut
            have HR := Lib.hid hr
            clear hr
            have HB : Hid (badCp N = badCp (hxV s (k + 1) j)) := by rw [Hid, HN.out]
            cases hb : badCp N
            · rw [hb] at HB
              go_wp2_with fail
              refine (encoded_any N (by omega) _).mono ?_
              rintro e1 w9 ⟨rfl, hb9⟩
              have HR9 := Lib.hid (HR.out.next hb9)
              clear hb9
              go_wp2_with fail
              go_ret
              exact ⟨_, ke, false, rfl, HR9.out, hle, j, HXT.out, fun h => absurd h (by omega), fun _ => ⟨HKe.out, HB.out, fun _ => by rw [HN.out]⟩⟩
            · rw [hb] at HB
              have f3 := HR.out.fz 3
              have c3 := HR.out.c3
              go_wp2_with fail
              go_ret
              exact ⟨_, ke, true, rfl, HR.out.setU, hle, j, HXT.out, fun h => absurd h (by omega), fun _ => ⟨HKe.out, HB.out, fun h => by cases h⟩⟩
end Go.Proofs.YtkdfdfhejibopaaGreatDoor
