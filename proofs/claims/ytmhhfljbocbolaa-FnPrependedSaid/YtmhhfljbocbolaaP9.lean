/- Nodes put at others: both sides, the walks (joined by join.py) -/
import Derived.Test.YtmhhfljbocbolaaP8
import Derived.Test.YtmhhfljbocbolaaP4
import Derived.Test.YtmhhfljbocbolaaP5
import Derived.Test.YtmhhfljbocbolaaP6
import Derived.Laws.CopyOwn
import Derived.Laws.MakeOwn
import Derived.BigRegion
namespace Go.Proofs.Ytmhhfljbocbolaa
open Go.RowKit
set_option linter.unusedVariables false

def InsertPost (n g fc fb : Nat) (kb : Nat → Nat) (op : Int) (F0 : Fo) (nd0 : Nat → Nd) (xs ws : List Nat) (s0 : FoS) (w : World) (e : Ending) (w' : World) : Prop :=
  ∃ b, e = .returned (.bool b) ∧ (b = true → ws ≠ [] ∧ Apart F0 ws xs ∧ (op ≠ 4 → ∀ x ∈ xs, (nd0 x).kind = 3) ∧ (op = 4 → ∀ x ∈ xs, F0.par x ≠ none) ∧ ∃ kb', RS n g fc fb kb w (insN op s0 xs ws xs.length) kb' w') ∧ Below fb w w'

theorem LApt.up {s : FoS} {kb' : Nat → Nat} {v : Value} {wr w2 : World} (h : LApt s kb' v wr) (hK : ∀ y, y < s.N → kb' y < wr.heap.size) (hb : Below wr.heap.size wr w2) : LApt s kb' v w2 := fun y hy u hu => h y hy u (by rw [hb.cell (p := ⟨kb' y, 7, none⟩) (hK y hy)] at hu; exact hu)

theorem rsl_own {w : World} {base e n : Nat} {a : Option Addr} {c : Nat} {xs : List Value} (h : w.ownsRow base e 1 (.slice a n c) n xs) : RSl w w.heap.size a xs := by
  obtain ⟨_, _, hv, _, hrs⟩ := RSl.own h
  cases hv
  exact hrs

theorem rsl_new (w : World) (kb : Nat → Nat) (r : Nat) (v : Value) (hv : v = .pointer (some ⟨kb r, 0, none⟩)) : RSl (w.alloc (.cells #[v] 77)) (w.alloc (.cells #[v] 77)).heap.size (some ⟨w.heap.size, 0, none⟩) (ptrs kb [r]) := by
  refine .inr ⟨w.heap.size, 0, rfl, by simp, fun q hq => ?_⟩
  have e0 : q = 0 := by simp [ptrs] at hq; omega
  subst e0
  rw [World.cell?_alloc_mark, hv]; rfl

set_option maxRecDepth 100000 in
set_option maxHeartbeats 8000000 in
theorem insert_1 {n : Nat} {F0 : Fo} {h0 : Nat → Nat} {nd0 : Nat → Nd} (o0 : F0.Ok (fun i => i < n) h0) (hn : n ≤ 200) (hnb : ∀ i, i < n → NdB (nd0 i) ∧ (nd0 i).attrs.length ≤ 1000) (hh : ∀ i, i < n → h0 i ≤ 200) {g fc fb : Nat} {kb : Nat → Nat} {w : World} (hR : RS n g fc fb kb w ⟨F0, n, nd0, false⟩ kb w) (hfw : fb ≤ w.heap.size)
    (xs ws : List Nat) (hxs : ∀ x ∈ xs, x < n) (hws : ∀ x ∈ ws, x < n) (hxn : xs.Nodup) (hwn : ws.Nodup) (hx0 : xs ≠ []) {base : Nat} (a : Option Addr) (c : Nat) (ho1 : w.ownsRow base 77 1 (.slice a xs.length c) xs.length (ptrs kb xs)) (a2 : Option Addr) (c2 : Nat) (ho2 : w.ownsRow base 77 1 (.slice a2 ws.length c2) ws.length (ptrs kb ws)) :
    Calls Try.prog 72 #[.pointer (some ⟨fb, 0, none⟩), .int .i64 1, .slice a xs.length c, .slice a2 ws.length c2] w (InsertPost n g fc fb kb 1 F0 nd0 xs ws ⟨F0, n, nd0, false⟩ w) := by
  have hxl : xs.length ≤ 200 := by have := nodup_len hxn hxs; omega
  have hwl : ws.length ≤ 200 := by have := nodup_len hwn hws; omega
  have hkf : ∀ i, i < n → fb ≤ kb i := fun i hi => (hR.kno.node i hi).1
  have hty1 : ∀ i, i < n → (Value.slice a xs.length c).ownBlock ≠ some (kb i) := fun i hi => by
    obtain ⟨_, _, _, _, _, hhn, _, _⟩ := hR.kno.node i hi; exact own_ne ho1 hhn (by decide)
  have hty2 : ∀ i, i < n → (Value.slice a2 ws.length c2).ownBlock ≠ some (kb i) := fun i hi => by
    obtain ⟨_, _, _, _, _, hhn, _, _⟩ := hR.kno.node i hi; exact own_ne ho2 hhn (by decide)
  have HRow1 : Hid (∀ s kb' wr, RS n g fc fb kb w s kb' wr → RSl wr wr.heap.size a (ptrs kb xs)) := fun s kb' wr R => rsl_own (R.kept ho1 hty1 (own_ne ho1 hR.fst (by decide)))
  have HRow2 : Hid (∀ s kb' wr, RS n g fc fb kb w s kb' wr → RSl wr wr.heap.size a2 (ptrs kb ws)) := fun s kb' wr R => rsl_own (R.kept ho2 hty2 (own_ne ho2 hR.fst (by decide)))
  have HBel : Hid (∀ s kb' wr, RS n g fc fb kb w s kb' wr → Below fb w wr) := fun s kb' wr R => R.below hfw hkf
  have HAp := Lib.hid (apart_any o0 (hmax h0 n) ws xs hws hxs (by omega) (by omega) a2 c2 a c w hR.kno (rsl_own ho2) (rsl_own ho1))
  have HGuard : Hid (∀ w1, Below w.heap.size w w1 → Calls Try.prog 74 #[.slice a xs.length c] w1 (fun e w' => ∃ b, e = .returned (.bool b) ∧ (b = true → ∀ x ∈ xs, (nd0 x).kind = 3) ∧ w1 = w')) := fun w1 hb => are_any xs hxs (by omega) a c w1 (hR.kno.up hb) ((rsl_own ho1).up hb)
  have HInv : Hid (Apart F0 ws xs → (∀ x ∈ xs, (nd0 x).kind = 3) → ∀ i, i < xs.length → ∃ h', Inv n F0 h0 nd0 1 xs ws (insN 1 ⟨F0, n, nd0, false⟩ xs ws i) h' ∧ (insN 1 ⟨F0, n, nd0, false⟩ xs ws i).N ≤ 800 + i * ws.length) := fun hA hP => insN_inv (h := h0) (.inl rfl) o0 hn ⟨o0, Nat.le_refl _, fun _ _ _ _ => ⟨rfl, rfl⟩, fun x hx y hy => by
      obtain ⟨i, hi, rfl⟩ := List.getElem_of_mem hx
      obtain ⟨j, hj, rfl⟩ := List.getElem_of_mem hy
      exact hA.2 i j hi hj, fun h => absurd h (by decide), fun y hy => ⟨y, hy, rfl⟩⟩ (fun x hx => ⟨hws x hx, hh x (hws x hx)⟩) hxs (by show n ≤ 800; omega)
  have HR0 := Lib.hid hR
  have HX := Lib.hid hxs
  have HW := Lib.hid hws
  have HWn := Lib.hid hwn
  have HHt : Hid (∀ x ∈ ws, x < n ∧ h0 x ≤ 200) := fun x hx => ⟨hws x hx, hh x (hws x hx)⟩
  have HNb := Lib.hid hnb
  have HO0 := Lib.hid o0
  clear hR ho1 ho2 hty1 hty2 hkf hxs hws hnb hh hx0 o0
  go_enter Try.func72, Try.ntmps72
  go_wp2_with fail
  refine HAp.out.mono ?_
  rintro e w1 ⟨b1, rfl, hA, hb1⟩
  have HR1 := Lib.hid (HR0.out.up hb1)
  have HB1 := Lib.hid (HBel.out _ _ _ HR1.out)
  have HG := Lib.hid (HGuard.out w1 hb1)
  clear hb1
  cases b1
  · clear hA
    go_wp2_with fail
    go_ret
    exact ⟨false, rfl, by simp, HB1.out⟩
  have HA := Lib.hid (hA rfl)
  clear hA
  go_wp2_with fail
  refine HG.out.mono ?_
  rintro e w2 ⟨b2, rfl, hP, rfl⟩
  cases b2
  · clear hP
    go_wp2_with fail
    go_ret
    exact ⟨false, rfl, by simp, HB1.out⟩
  have HP := Lib.hid (hP rfl)
  clear hP HG
  rcases Nat.eq_zero_or_pos ws.length with hz | hz
  · have ez : ((ws.length : Int) == 0) = true := beq_iff_eq.2 (by omega)
    clear hz
    go_wp2_with fail
    go_ret
    exact ⟨false, rfl, by simp, HB1.out⟩
  have ez : ((ws.length : Int) == 0) = false := beq_eq_false_iff_ne.2 (by omega)
  have HNe : Hid (ws ≠ []) := fun e => by rw [e] at hz; simp at hz
  have HIv := Lib.hid (HInv.out HA.out HP.out)
  clear hz HInv HGuard
  go_wp2_with fail
  go_loopw [10, 11, 12, 13] (fun v v11 v12 v13 wr => ∃ (i : Nat) (kb' : Nat → Nat), i ≤ xs.length ∧ v = .int .i64 i ∧ RS n g fc fb kb w (insN 1 ⟨F0, n, nd0, false⟩ xs ws i) kb' wr) (fun v _ _ _ _ => xs.length - (intOf v).toNat)
  case atStart => exact ⟨0, kb, Nat.zero_le _, rfl, HR1.out⟩
  case round =>
    obtain ⟨i, kb2, hi, rfl, hR2⟩ := hrel
    obtain ⟨W2, rfl⟩ : ∃ W2 : World, W2 = wr := ⟨_, rfl⟩
    have HR2 := Lib.hid hR2
    clear hR2
    by_cases hlt : i < xs.length
    · obtain ⟨h2, hI, hbd⟩ := HIv.out i hlt
      have HS1 : Hid (insN 1 ⟨F0, n, nd0, false⟩ xs ws (i + 1) = insOne 1 (decide (i + 1 = xs.length)) (insN 1 ⟨F0, n, nd0, false⟩ xs ws i) xs[i] ws) := by
        show insOne 1 (decide (i + 1 = xs.length)) _ (xs.getD i 0) ws = _
        rw [List.getD_eq_getElem?_getD, List.getElem?_eq_getElem hlt, Option.getD_some]
      obtain ⟨s, hs⟩ : ∃ s, s = insN 1 ⟨F0, n, nd0, false⟩ xs ws i := ⟨_, rfl⟩
      rw [← hs] at hI hbd HR2 HS1
      have hbd2 : s.N ≤ 40800 := by
        have : i * ws.length ≤ 200 * 200 := Nat.mul_le_mul (by omega) hwl
        omega
      have HI := Lib.hid hI
      have hle := hI.le
      clear hs hI hbd
      obtain ⟨last, hlast⟩ : ∃ last, last = decide (i + 1 = xs.length) := ⟨_, rfl⟩
      rw [← hlast] at HS1
      have HLast := Lib.hid hlast
      clear hlast
      go_wp2_with fail
      go_loopw [11, 12, 13] (fun v11 v12 v13 wr => ∃ (j : Nat) (kb' : Nat → Nat) (la : Option Addr) (lc : Nat), j ≤ ws.length ∧ v12 = .int .i64 j ∧ v11 = .slice la j lc ∧ RS n g fc fb kb w (innS last s (ws.take j)) kb' wr ∧ wr.ownsRow w.heap.size 77 1 (.slice la j lc) j (ptrs kb' (innL last s (ws.take j))) ∧ LApt (innS last s (ws.take j)) kb' (.slice la j lc) wr) (fun _ v _ _ => ws.length - (intOf v).toNat)
      case atStart => exact ⟨0, kb2, none, 0, Nat.zero_le _, rfl, rfl, by rw [List.take_zero]; exact HR2.out, by rw [List.take_zero]; cases last <;> exact World.ownsRow_nil _ _ _ _, fun y _ u _ => KApt.nil _ _ _⟩
      case round =>
        obtain ⟨j, kb3, la, lc, hj, rfl, rfl, hR3, hown, hapt⟩ := hrel
        obtain ⟨W3, rfl⟩ : ∃ W3 : World, W3 = wr := ⟨_, rfl⟩
        by_cases hlj : j < ws.length
        · obtain ⟨b, o, rfl, hbB, hc⟩ := (HRow2.out _ _ _ hR3).at_ (by rw [ptrs_length]; omega)
          have g1 := hc j (by rw [ptrs_length]; exact hlj)
          have hwm := HW.out _ (List.getElem_mem hlj)
          have hw2 := HHt.out _ (List.getElem_mem hlj)
          rw [ptrs_at hlj, ← hR3.old _ hwm] at g1
          have HL1 : Hid (innL last s (ws.take (j + 1)) = innL last s (ws.take j) ++ [if last then ws[j] else (innS last s (ws.take j)).N]) := by
            rw [Hid, List.take_succ_eq_append_getElem hlj, innL_snoc]
          have HS2 : Hid (innS last s (ws.take (j + 1)) = if last then (innS last s (ws.take j)).cut ws[j] else cpy 200 (innS last s (ws.take j)) ws[j]) := by
            rw [Hid, List.take_succ_eq_append_getElem hlj, innS_snoc]
          have HLl : Hid ((innL last s (ws.take j)).length = j) := by rw [Hid, innL_length, List.length_take]; omega
          have HR3 := Lib.hid hR3
          have HOw := Lib.hid hown
          have HAp3 := Lib.hid hapt
          have HWm : Hid (∀ m, ws.take m = ws.take m) := fun _ => rfl
          cases last
          · simp only [Bool.false_eq_true, if_false] at HL1 HS2
            obtain ⟨ha, A⟩ := innC HI.out HHt.out j
            have hbN := inn_bound HO0.out hn HI.out HHt.out (c := 40800) (by omega) hbd2 (j + 1)
            rw [HS2.out] at hbN
            have hAle := A.le
            have hwA : ws[j] < (innS false s (ws.take j)).N := by omega
            have HCp := Lib.hid (copied_any 200 A.ok hR3.kno (Nat.le_trans hfw hR3.turn.size) hwA (by rw [A.hold _ (by omega), (HI.out.sub _ (List.getElem_mem hlj) _ .self).2]; exact hw2.2) (fun y hy => if_neg (by omega)) hR3.fst (by omega) (fun y hy => by obtain ⟨z, hz, e⟩ := A.nds y hy; rw [e]; exact HNb.out z hz))
            obtain ⟨hb', E⟩ := cpy_ok 200 _ _ _ A.ok hwA (by rw [A.hold _ (by omega), (HI.out.sub _ (List.getElem_mem hlj) _ .self).2]; exact hw2.2)
            have HE := Lib.hid E
            have HRt : Hid (∀ y ∈ innL false s (ws.take j), y < (innS false s (ws.take j)).N) := fun y hy => (A.root y hy).2.1
            have HnN : Hid (n ≤ (innS false s (ws.take j)).N) := Nat.le_trans hle hAle
            have hnl : (i : Int) < (xs.length : Int) - 1 := by
              have := HLast.out
              have : ¬ (i + 1 = xs.length) := of_decide_eq_false this.symm
              omega
            obtain ⟨x, hx⟩ : ∃ x, x = ws[j] := ⟨_, rfl⟩
            rw [← hx] at g1 HCp HE HS2
            obtain ⟨st, hst⟩ : ∃ st, st = innS false s (ws.take j) := ⟨_, rfl⟩
            rw [← hst] at HCp HE HS2 HR3 HAp3 HRt HnN HL1
            obtain ⟨L, hL⟩ : ∃ L, L = innL false s (ws.take j) := ⟨_, rfl⟩
            rw [← hL] at HL1 HLl HOw HRt
            clear hc hR3 hown hapt hwm hw2 A E hbN hAle hwA hx hst hL HLast HWm
            go_wp2_with fail
            refine HCp.out.mono ?_
            intro e w4 hP
            obtain ⟨kb4, rfl, hR4, ho4, ha4⟩ := HR3.out.copied HnN.out HE.out.lt hP HOw.out HRt.out HAp3.out
            have HCut := Lib.hid (cut_nop hR4.kno st.N HE.out.lt HE.out.root)
            have HR4 := Lib.hid hR4
            have HA4 := Lib.hid ha4
            have HZr : Hid (RSl (w4.alloc (.cells #[.pointer (some ⟨kb4 st.N, 0, none⟩)] 77)) (w4.alloc (.cells #[.pointer (some ⟨kb4 st.N, 0, none⟩)] 77)).heap.size (some ⟨w4.heap.size, 0, none⟩) (ptrs kb4 [st.N])) := rsl_new w4 kb4 st.N _ rfl
            have HZo : Hid ((w4.alloc (.cells #[.pointer (some ⟨kb4 st.N, 0, none⟩)] 77)).ownsRow w.heap.size 77 1 (.slice la j lc) L.length (ptrs kb4 L)) := by rw [HLl.out]; exact ho4.alloc _
            have hb4 : Below w4.heap.size w4 (w4.alloc (.cells #[.pointer (some ⟨kb4 st.N, 0, none⟩)] 77)) := (Below.refl _ _).alloc (Nat.le_refl _) _
            have HZs : Hid (w.heap.size ≤ (w4.alloc (.cells #[.pointer (some ⟨kb4 st.N, 0, none⟩)] 77)).heap.size) := Nat.le_trans hR4.turn.size hb4.size
            have HGr : Hid (∀ w5 v2, (w4.alloc (.cells #[.pointer (some ⟨kb4 st.N, 0, none⟩)] 77)).grownBy w5 (Value.slice la j lc).ownBlock → (v2.ownBlock = (Value.slice la j lc).ownBlock ∨ v2.ownBlock = some (w4.alloc (.cells #[.pointer (some ⟨kb4 st.N, 0, none⟩)] 77)).heap.size) → RS n g fc fb kb w (cpy 200 st x) kb4 w5 ∧ LApt (cpy 200 st x) kb4 v2 w5) := fun w5 v2 hg hat => (HR4.out.up hb4).grow (Nat.le_refl _) HZo.out (HA4.out.up (fun y hy => HR4.out.kno.lt hy) hb4) hg hat
            clear hP hR4 ho4 ha4 hb4 g1
            go_wp2_with fail
            refine HCut.out.mono ?_
            rintro e w5 ⟨rfl, rfl⟩
            go_wp2_with (at_builtin; refine wpList_append_kn _ rfl (.tmp 86) (.tmp 88) rfl kb4 w.heap.size (.slice la j lc) L rfl HZo.out (some ⟨w5.heap.size, 0, none⟩) 1 1 [st.N] rfl rfl HZr.out (by have := HLl.out; simp only [List.length_cons, List.length_nil]; omega) HZs.out ?_)
            intro a5 c5 w6 hown2 hg2 hat2
            obtain ⟨k1, k2⟩ := HGr.out w6 (.slice a5 (L.length + 1) c5) hg2 (by simpa using hat2)
            have hown3 : w6.ownsRow w.heap.size 77 1 (.slice a5 (L.length + 1) c5) (L.length + 1) (ptrs kb4 (L ++ [st.N])) := by simpa using hown2
            rw [HLl.out] at k2 hown3
            have HK1 := Lib.hid k1
            have HK2 := Lib.hid k2
            have HK3 := Lib.hid hown3
            clear hown2 hg2 hat2 k1 k2 hown3
            go_wp2_with fail
            go_roundw
            case rel =>
              refine ⟨j + 1, kb4, a5, c5, by omega, by go_num, by rw [HLl.out], by rw [HS2.out]; exact HK1.out, by rw [HL1.out]; exact HK3.out, by rw [HS2.out]; exact HK2.out⟩
            case measure => simp [intOf]; omega
          · simp only [if_true] at HL1 HS2
            have T := innT HI.out.ok (ws.take j)
            have hwA : ws[j] < (innS true s (ws.take j)).N := by rw [T.N]; omega
            have HCut := Lib.hid (cut2_any T.ok hR3.kno (Nat.le_trans hfw hR3.turn.size) ws[j] hwA (fun p => by have := T.ok.kids_le (fun i hi => hi) p; rw [T.N] at this; omega))
            have hnl : ¬ ((i : Int) < (xs.length : Int) - 1) := by
              have := HLast.out
              have : i + 1 = xs.length := of_decide_eq_true this.symm
              omega
            obtain ⟨x, hx⟩ : ∃ x, x = ws[j] := ⟨_, rfl⟩
            rw [← hx] at g1 HCut HS2 HL1
            obtain ⟨st, hst⟩ : ∃ st, st = innS true s (ws.take j) := ⟨_, rfl⟩
            rw [← hst] at HCut HS2 HR3 HAp3
            obtain ⟨L, hL⟩ : ∃ L, L = innL true s (ws.take j) := ⟨_, rfl⟩
            rw [← hL] at HL1 HLl HOw
            clear hc hR3 hown hapt hwm hw2 T hwA hx hst hL HLast HWm
            go_wp2_with fail
            refine HCut.out.mono ?_
            intro e w4 hP
            obtain ⟨rfl, hR4, ho4, ha4⟩ := HR3.out.cut hP HOw.out HAp3.out
            have HR4 := Lib.hid hR4
            have HA4 := Lib.hid ha4
            have HZr : Hid (RSl (w4.alloc (.cells #[.pointer (some ⟨kb3 x, 0, none⟩)] 77)) (w4.alloc (.cells #[.pointer (some ⟨kb3 x, 0, none⟩)] 77)).heap.size (some ⟨w4.heap.size, 0, none⟩) (ptrs kb3 [x])) := rsl_new w4 kb3 x _ rfl
            have HZo : Hid ((w4.alloc (.cells #[.pointer (some ⟨kb3 x, 0, none⟩)] 77)).ownsRow w.heap.size 77 1 (.slice la j lc) L.length (ptrs kb3 L)) := by rw [HLl.out]; exact ho4.alloc _
            have hb4 : Below w4.heap.size w4 (w4.alloc (.cells #[.pointer (some ⟨kb3 x, 0, none⟩)] 77)) := (Below.refl _ _).alloc (Nat.le_refl _) _
            have HZs : Hid (w.heap.size ≤ (w4.alloc (.cells #[.pointer (some ⟨kb3 x, 0, none⟩)] 77)).heap.size) := Nat.le_trans hR4.turn.size hb4.size
            have HGr : Hid (∀ w5 v2, (w4.alloc (.cells #[.pointer (some ⟨kb3 x, 0, none⟩)] 77)).grownBy w5 (Value.slice la j lc).ownBlock → (v2.ownBlock = (Value.slice la j lc).ownBlock ∨ v2.ownBlock = some (w4.alloc (.cells #[.pointer (some ⟨kb3 x, 0, none⟩)] 77)).heap.size) → RS n g fc fb kb w (st.cut x) kb3 w5 ∧ LApt (st.cut x) kb3 v2 w5) := fun w5 v2 hg hat => (HR4.out.up hb4).grow (Nat.le_refl _) HZo.out (HA4.out.up (fun y hy => HR4.out.kno.lt hy) hb4) hg hat
            clear hP hR4 ho4 ha4 hb4 g1
            go_wp2_with (at_builtin; refine wpList_append_kn _ rfl (.tmp 86) (.tmp 88) rfl kb3 w.heap.size (.slice la j lc) L rfl HZo.out (some ⟨w4.heap.size, 0, none⟩) 1 1 [x] rfl rfl HZr.out (by have := HLl.out; simp only [List.length_cons, List.length_nil]; omega) HZs.out ?_)
            intro a5 c5 w6 hown2 hg2 hat2
            obtain ⟨k1, k2⟩ := HGr.out w6 (.slice a5 (L.length + 1) c5) hg2 (by simpa using hat2)
            have hown3 : w6.ownsRow w.heap.size 77 1 (.slice a5 (L.length + 1) c5) (L.length + 1) (ptrs kb3 (L ++ [x])) := by simpa using hown2
            rw [HLl.out] at k2 hown3
            have HK1 := Lib.hid k1
            have HK2 := Lib.hid k2
            have HK3 := Lib.hid hown3
            clear hown2 hg2 hat2 k1 k2 hown3
            go_wp2_with fail
            go_roundw
            case rel =>
              refine ⟨j + 1, kb3, a5, c5, by omega, by go_num, by rw [HLl.out], by rw [HS2.out]; exact HK1.out, by rw [HL1.out]; exact HK3.out, by rw [HS2.out]; exact HK2.out⟩
            case measure => simp [intOf]; omega
        · have ej : j = ws.length := by omega
          rw [ej, List.take_length] at hR3 hown
          obtain ⟨b, o, rfl, hbB, hc⟩ := (HRow1.out _ _ _ hR3).at_ (by rw [ptrs_length]; omega)
          have g1 := hc i (by rw [ptrs_length]; exact hlt)
          have hxm := HX.out _ (List.getElem_mem hlt)
          rw [ptrs_at hlt, ← hR3.old _ hxm] at g1
          obtain ⟨h3, l1, l2, q1, q2, q3, q4, q5, q6, q7, q8⟩ := ins_ready (.inl rfl) HI.out HWn.out HHt.out HX.out (List.getElem_mem hlt) last
          have hNb : (innS last s ws).N ≤ 81000 := by
            cases last
            · have := inn_bound HO0.out hn HI.out HHt.out (c := 40800) (by omega) hbd2 ws.length
              rw [List.take_length] at this; omega
            · have := (innT HI.out.ok ws).N; omega
          have hkl := q1.kids_le (fun i hi => hi) (kpar 1 (innS last s ws).F xs[i])
          have hLlen := innL_length last s ws
          have HIns : Hid (Calls Try.prog 95 #[.pointer (some ⟨fb, 0, none⟩), .int .i64 1, .pointer (some ⟨kb3 xs[i], 0, none⟩), .slice la ws.length lc] W3 (InsedPost (innS last s ws).F (fun i => i < (innS last s ws).N) (innS last s ws).nd (plN n) fb kb3 (kpar 1 (innS last s ws).F xs[i]) l1.length (innL last s ws) W3)) := by
            have hown' := hown
            rw [← hLlen] at hown' ⊢
            exact inserted_any q1 hR3.kno (Nat.le_trans hfw hR3.turn.size) 1 xs[i] _ l1 l2 q4 q5 q6 q2 (by omega) (innL last s ws) (fun y hy => ⟨(q7 y hy).1, (q7 y hy).2.1, (q7 y hy).2.2.1⟩) q8 (by omega) w.heap.size la lc hown' _
          have HEnd : Hid (∀ e w4, InsedPost (innS last s ws).F (fun i => i < (innS last s ws).N) (innS last s ws).nd (plN n) fb kb3 (kpar 1 (innS last s ws).F xs[i]) l1.length (innL last s ws) W3 e w4 → e = .returned (.tuple #[]) ∧ RS n g fc fb kb w (insN 1 ⟨F0, n, nd0, false⟩ xs ws (i + 1)) kb3 w4) := fun e w4 hP => by
            obtain ⟨z1, z2⟩ := hR3.ins hP
            refine ⟨z1, ?_⟩
            rw [HS1.out]
            rw [q3] at z2
            exact z2
          obtain ⟨x, hx⟩ : ∃ x, x = xs[i] := ⟨_, rfl⟩
          rw [← hx] at g1 HIns HEnd
          subst ej
          clear hc hR3 hown hapt hxm q1 q2 q3 q4 q5 q6 q7 q8 hNb hkl hLlen hx HLast HS1
          go_wp2_with fail
          refine HIns.out.mono ?_
          intro e w4 hP
          obtain ⟨rfl, hR4⟩ := HEnd.out e w4 hP
          have HR4 := Lib.hid hR4
          clear hP hR4 g1
          go_wp2_with fail
          go_roundw
          case rel => exact ⟨i + 1, kb3, by omega, by go_num, HR4.out⟩
          case measure => simp [intOf]; omega
    · have e : i = xs.length := by omega
      subst e
      have HB2 := Lib.hid (HBel.out _ _ _ HR2.out)
      go_wp2_with fail
      go_ret
      exact ⟨true, rfl, fun _ => ⟨HNe.out, HA.out, fun _ => HP.out, fun h => absurd h (by decide), kb2, HR2.out⟩, HB2.out⟩

set_option maxRecDepth 100000 in
set_option maxHeartbeats 8000000 in
theorem insert_2 {n : Nat} {F0 : Fo} {h0 : Nat → Nat} {nd0 : Nat → Nd} (o0 : F0.Ok (fun i => i < n) h0) (hn : n ≤ 200) (hnb : ∀ i, i < n → NdB (nd0 i) ∧ (nd0 i).attrs.length ≤ 1000) (hh : ∀ i, i < n → h0 i ≤ 200) {g fc fb : Nat} {kb : Nat → Nat} {w : World} (hR : RS n g fc fb kb w ⟨F0, n, nd0, false⟩ kb w) (hfw : fb ≤ w.heap.size)
    (xs ws : List Nat) (hxs : ∀ x ∈ xs, x < n) (hws : ∀ x ∈ ws, x < n) (hxn : xs.Nodup) (hwn : ws.Nodup) (hx0 : xs ≠ []) {base : Nat} (a : Option Addr) (c : Nat) (ho1 : w.ownsRow base 77 1 (.slice a xs.length c) xs.length (ptrs kb xs)) (a2 : Option Addr) (c2 : Nat) (ho2 : w.ownsRow base 77 1 (.slice a2 ws.length c2) ws.length (ptrs kb ws)) :
    Calls Try.prog 72 #[.pointer (some ⟨fb, 0, none⟩), .int .i64 2, .slice a xs.length c, .slice a2 ws.length c2] w (InsertPost n g fc fb kb 2 F0 nd0 xs ws ⟨F0, n, nd0, false⟩ w) := by
  have hxl : xs.length ≤ 200 := by have := nodup_len hxn hxs; omega
  have hwl : ws.length ≤ 200 := by have := nodup_len hwn hws; omega
  have hkf : ∀ i, i < n → fb ≤ kb i := fun i hi => (hR.kno.node i hi).1
  have hty1 : ∀ i, i < n → (Value.slice a xs.length c).ownBlock ≠ some (kb i) := fun i hi => by
    obtain ⟨_, _, _, _, _, hhn, _, _⟩ := hR.kno.node i hi; exact own_ne ho1 hhn (by decide)
  have hty2 : ∀ i, i < n → (Value.slice a2 ws.length c2).ownBlock ≠ some (kb i) := fun i hi => by
    obtain ⟨_, _, _, _, _, hhn, _, _⟩ := hR.kno.node i hi; exact own_ne ho2 hhn (by decide)
  have HRow1 : Hid (∀ s kb' wr, RS n g fc fb kb w s kb' wr → RSl wr wr.heap.size a (ptrs kb xs)) := fun s kb' wr R => rsl_own (R.kept ho1 hty1 (own_ne ho1 hR.fst (by decide)))
  have HRow2 : Hid (∀ s kb' wr, RS n g fc fb kb w s kb' wr → RSl wr wr.heap.size a2 (ptrs kb ws)) := fun s kb' wr R => rsl_own (R.kept ho2 hty2 (own_ne ho2 hR.fst (by decide)))
  have HBel : Hid (∀ s kb' wr, RS n g fc fb kb w s kb' wr → Below fb w wr) := fun s kb' wr R => R.below hfw hkf
  have HAp := Lib.hid (apart_any o0 (hmax h0 n) ws xs hws hxs (by omega) (by omega) a2 c2 a c w hR.kno (rsl_own ho2) (rsl_own ho1))
  have HGuard : Hid (∀ w1, Below w.heap.size w w1 → Calls Try.prog 74 #[.slice a xs.length c] w1 (fun e w' => ∃ b, e = .returned (.bool b) ∧ (b = true → ∀ x ∈ xs, (nd0 x).kind = 3) ∧ w1 = w')) := fun w1 hb => are_any xs hxs (by omega) a c w1 (hR.kno.up hb) ((rsl_own ho1).up hb)
  have HInv : Hid (Apart F0 ws xs → (∀ x ∈ xs, (nd0 x).kind = 3) → ∀ i, i < xs.length → ∃ h', Inv n F0 h0 nd0 2 xs ws (insN 2 ⟨F0, n, nd0, false⟩ xs ws i) h' ∧ (insN 2 ⟨F0, n, nd0, false⟩ xs ws i).N ≤ 800 + i * ws.length) := fun hA hP => insN_inv (h := h0) (.inr (.inl rfl)) o0 hn ⟨o0, Nat.le_refl _, fun _ _ _ _ => ⟨rfl, rfl⟩, fun x hx y hy => by
      obtain ⟨i, hi, rfl⟩ := List.getElem_of_mem hx
      obtain ⟨j, hj, rfl⟩ := List.getElem_of_mem hy
      exact hA.2 i j hi hj, fun h => absurd h (by decide), fun y hy => ⟨y, hy, rfl⟩⟩ (fun x hx => ⟨hws x hx, hh x (hws x hx)⟩) hxs (by show n ≤ 800; omega)
  have HR0 := Lib.hid hR
  have HX := Lib.hid hxs
  have HW := Lib.hid hws
  have HWn := Lib.hid hwn
  have HHt : Hid (∀ x ∈ ws, x < n ∧ h0 x ≤ 200) := fun x hx => ⟨hws x hx, hh x (hws x hx)⟩
  have HNb := Lib.hid hnb
  have HO0 := Lib.hid o0
  clear hR ho1 ho2 hty1 hty2 hkf hxs hws hnb hh hx0 o0
  go_enter Try.func72, Try.ntmps72
  go_wp2_with fail
  refine HAp.out.mono ?_
  rintro e w1 ⟨b1, rfl, hA, hb1⟩
  have HR1 := Lib.hid (HR0.out.up hb1)
  have HB1 := Lib.hid (HBel.out _ _ _ HR1.out)
  have HG := Lib.hid (HGuard.out w1 hb1)
  clear hb1
  cases b1
  · clear hA
    go_wp2_with fail
    go_ret
    exact ⟨false, rfl, by simp, HB1.out⟩
  have HA := Lib.hid (hA rfl)
  clear hA
  go_wp2_with fail
  refine HG.out.mono ?_
  rintro e w2 ⟨b2, rfl, hP, rfl⟩
  cases b2
  · clear hP
    go_wp2_with fail
    go_ret
    exact ⟨false, rfl, by simp, HB1.out⟩
  have HP := Lib.hid (hP rfl)
  clear hP HG
  rcases Nat.eq_zero_or_pos ws.length with hz | hz
  · have ez : ((ws.length : Int) == 0) = true := beq_iff_eq.2 (by omega)
    clear hz
    go_wp2_with fail
    go_ret
    exact ⟨false, rfl, by simp, HB1.out⟩
  have ez : ((ws.length : Int) == 0) = false := beq_eq_false_iff_ne.2 (by omega)
  have HNe : Hid (ws ≠ []) := fun e => by rw [e] at hz; simp at hz
  have HIv := Lib.hid (HInv.out HA.out HP.out)
  clear hz HInv HGuard
  go_wp2_with fail
  go_loopw [10, 11, 12, 13] (fun v v11 v12 v13 wr => ∃ (i : Nat) (kb' : Nat → Nat), i ≤ xs.length ∧ v = .int .i64 i ∧ RS n g fc fb kb w (insN 2 ⟨F0, n, nd0, false⟩ xs ws i) kb' wr) (fun v _ _ _ _ => xs.length - (intOf v).toNat)
  case atStart => exact ⟨0, kb, Nat.zero_le _, rfl, HR1.out⟩
  case round =>
    obtain ⟨i, kb2, hi, rfl, hR2⟩ := hrel
    obtain ⟨W2, rfl⟩ : ∃ W2 : World, W2 = wr := ⟨_, rfl⟩
    have HR2 := Lib.hid hR2
    clear hR2
    by_cases hlt : i < xs.length
    · obtain ⟨h2, hI, hbd⟩ := HIv.out i hlt
      have HS1 : Hid (insN 2 ⟨F0, n, nd0, false⟩ xs ws (i + 1) = insOne 2 (decide (i + 1 = xs.length)) (insN 2 ⟨F0, n, nd0, false⟩ xs ws i) xs[i] ws) := by
        show insOne 2 (decide (i + 1 = xs.length)) _ (xs.getD i 0) ws = _
        rw [List.getD_eq_getElem?_getD, List.getElem?_eq_getElem hlt, Option.getD_some]
      obtain ⟨s, hs⟩ : ∃ s, s = insN 2 ⟨F0, n, nd0, false⟩ xs ws i := ⟨_, rfl⟩
      rw [← hs] at hI hbd HR2 HS1
      have hbd2 : s.N ≤ 40800 := by
        have : i * ws.length ≤ 200 * 200 := Nat.mul_le_mul (by omega) hwl
        omega
      have HI := Lib.hid hI
      have hle := hI.le
      clear hs hI hbd
      obtain ⟨last, hlast⟩ : ∃ last, last = decide (i + 1 = xs.length) := ⟨_, rfl⟩
      rw [← hlast] at HS1
      have HLast := Lib.hid hlast
      clear hlast
      go_wp2_with fail
      go_loopw [11, 12, 13] (fun v11 v12 v13 wr => ∃ (j : Nat) (kb' : Nat → Nat) (la : Option Addr) (lc : Nat), j ≤ ws.length ∧ v12 = .int .i64 j ∧ v11 = .slice la j lc ∧ RS n g fc fb kb w (innS last s (ws.take j)) kb' wr ∧ wr.ownsRow w.heap.size 77 1 (.slice la j lc) j (ptrs kb' (innL last s (ws.take j))) ∧ LApt (innS last s (ws.take j)) kb' (.slice la j lc) wr) (fun _ v _ _ => ws.length - (intOf v).toNat)
      case atStart => exact ⟨0, kb2, none, 0, Nat.zero_le _, rfl, rfl, by rw [List.take_zero]; exact HR2.out, by rw [List.take_zero]; cases last <;> exact World.ownsRow_nil _ _ _ _, fun y _ u _ => KApt.nil _ _ _⟩
      case round =>
        obtain ⟨j, kb3, la, lc, hj, rfl, rfl, hR3, hown, hapt⟩ := hrel
        obtain ⟨W3, rfl⟩ : ∃ W3 : World, W3 = wr := ⟨_, rfl⟩
        by_cases hlj : j < ws.length
        · obtain ⟨b, o, rfl, hbB, hc⟩ := (HRow2.out _ _ _ hR3).at_ (by rw [ptrs_length]; omega)
          have g1 := hc j (by rw [ptrs_length]; exact hlj)
          have hwm := HW.out _ (List.getElem_mem hlj)
          have hw2 := HHt.out _ (List.getElem_mem hlj)
          rw [ptrs_at hlj, ← hR3.old _ hwm] at g1
          have HL1 : Hid (innL last s (ws.take (j + 1)) = innL last s (ws.take j) ++ [if last then ws[j] else (innS last s (ws.take j)).N]) := by
            rw [Hid, List.take_succ_eq_append_getElem hlj, innL_snoc]
          have HS2 : Hid (innS last s (ws.take (j + 1)) = if last then (innS last s (ws.take j)).cut ws[j] else cpy 200 (innS last s (ws.take j)) ws[j]) := by
            rw [Hid, List.take_succ_eq_append_getElem hlj, innS_snoc]
          have HLl : Hid ((innL last s (ws.take j)).length = j) := by rw [Hid, innL_length, List.length_take]; omega
          have HR3 := Lib.hid hR3
          have HOw := Lib.hid hown
          have HAp3 := Lib.hid hapt
          have HWm : Hid (∀ m, ws.take m = ws.take m) := fun _ => rfl
          cases last
          · simp only [Bool.false_eq_true, if_false] at HL1 HS2
            obtain ⟨ha, A⟩ := innC HI.out HHt.out j
            have hbN := inn_bound HO0.out hn HI.out HHt.out (c := 40800) (by omega) hbd2 (j + 1)
            rw [HS2.out] at hbN
            have hAle := A.le
            have hwA : ws[j] < (innS false s (ws.take j)).N := by omega
            have HCp := Lib.hid (copied_any 200 A.ok hR3.kno (Nat.le_trans hfw hR3.turn.size) hwA (by rw [A.hold _ (by omega), (HI.out.sub _ (List.getElem_mem hlj) _ .self).2]; exact hw2.2) (fun y hy => if_neg (by omega)) hR3.fst (by omega) (fun y hy => by obtain ⟨z, hz, e⟩ := A.nds y hy; rw [e]; exact HNb.out z hz))
            obtain ⟨hb', E⟩ := cpy_ok 200 _ _ _ A.ok hwA (by rw [A.hold _ (by omega), (HI.out.sub _ (List.getElem_mem hlj) _ .self).2]; exact hw2.2)
            have HE := Lib.hid E
            have HRt : Hid (∀ y ∈ innL false s (ws.take j), y < (innS false s (ws.take j)).N) := fun y hy => (A.root y hy).2.1
            have HnN : Hid (n ≤ (innS false s (ws.take j)).N) := Nat.le_trans hle hAle
            have hnl : (i : Int) < (xs.length : Int) - 1 := by
              have := HLast.out
              have : ¬ (i + 1 = xs.length) := of_decide_eq_false this.symm
              omega
            obtain ⟨x, hx⟩ : ∃ x, x = ws[j] := ⟨_, rfl⟩
            rw [← hx] at g1 HCp HE HS2
            obtain ⟨st, hst⟩ : ∃ st, st = innS false s (ws.take j) := ⟨_, rfl⟩
            rw [← hst] at HCp HE HS2 HR3 HAp3 HRt HnN HL1
            obtain ⟨L, hL⟩ : ∃ L, L = innL false s (ws.take j) := ⟨_, rfl⟩
            rw [← hL] at HL1 HLl HOw HRt
            clear hc hR3 hown hapt hwm hw2 A E hbN hAle hwA hx hst hL HLast HWm
            go_wp2_with fail
            refine HCp.out.mono ?_
            intro e w4 hP
            obtain ⟨kb4, rfl, hR4, ho4, ha4⟩ := HR3.out.copied HnN.out HE.out.lt hP HOw.out HRt.out HAp3.out
            have HCut := Lib.hid (cut_nop hR4.kno st.N HE.out.lt HE.out.root)
            have HR4 := Lib.hid hR4
            have HA4 := Lib.hid ha4
            have HZr : Hid (RSl (w4.alloc (.cells #[.pointer (some ⟨kb4 st.N, 0, none⟩)] 77)) (w4.alloc (.cells #[.pointer (some ⟨kb4 st.N, 0, none⟩)] 77)).heap.size (some ⟨w4.heap.size, 0, none⟩) (ptrs kb4 [st.N])) := rsl_new w4 kb4 st.N _ rfl
            have HZo : Hid ((w4.alloc (.cells #[.pointer (some ⟨kb4 st.N, 0, none⟩)] 77)).ownsRow w.heap.size 77 1 (.slice la j lc) L.length (ptrs kb4 L)) := by rw [HLl.out]; exact ho4.alloc _
            have hb4 : Below w4.heap.size w4 (w4.alloc (.cells #[.pointer (some ⟨kb4 st.N, 0, none⟩)] 77)) := (Below.refl _ _).alloc (Nat.le_refl _) _
            have HZs : Hid (w.heap.size ≤ (w4.alloc (.cells #[.pointer (some ⟨kb4 st.N, 0, none⟩)] 77)).heap.size) := Nat.le_trans hR4.turn.size hb4.size
            have HGr : Hid (∀ w5 v2, (w4.alloc (.cells #[.pointer (some ⟨kb4 st.N, 0, none⟩)] 77)).grownBy w5 (Value.slice la j lc).ownBlock → (v2.ownBlock = (Value.slice la j lc).ownBlock ∨ v2.ownBlock = some (w4.alloc (.cells #[.pointer (some ⟨kb4 st.N, 0, none⟩)] 77)).heap.size) → RS n g fc fb kb w (cpy 200 st x) kb4 w5 ∧ LApt (cpy 200 st x) kb4 v2 w5) := fun w5 v2 hg hat => (HR4.out.up hb4).grow (Nat.le_refl _) HZo.out (HA4.out.up (fun y hy => HR4.out.kno.lt hy) hb4) hg hat
            clear hP hR4 ho4 ha4 hb4 g1
            go_wp2_with fail
            refine HCut.out.mono ?_
            rintro e w5 ⟨rfl, rfl⟩
            go_wp2_with (at_builtin; refine wpList_append_kn _ rfl (.tmp 86) (.tmp 88) rfl kb4 w.heap.size (.slice la j lc) L rfl HZo.out (some ⟨w5.heap.size, 0, none⟩) 1 1 [st.N] rfl rfl HZr.out (by have := HLl.out; simp only [List.length_cons, List.length_nil]; omega) HZs.out ?_)
            intro a5 c5 w6 hown2 hg2 hat2
            obtain ⟨k1, k2⟩ := HGr.out w6 (.slice a5 (L.length + 1) c5) hg2 (by simpa using hat2)
            have hown3 : w6.ownsRow w.heap.size 77 1 (.slice a5 (L.length + 1) c5) (L.length + 1) (ptrs kb4 (L ++ [st.N])) := by simpa using hown2
            rw [HLl.out] at k2 hown3
            have HK1 := Lib.hid k1
            have HK2 := Lib.hid k2
            have HK3 := Lib.hid hown3
            clear hown2 hg2 hat2 k1 k2 hown3
            go_wp2_with fail
            go_roundw
            case rel =>
              refine ⟨j + 1, kb4, a5, c5, by omega, by go_num, by rw [HLl.out], by rw [HS2.out]; exact HK1.out, by rw [HL1.out]; exact HK3.out, by rw [HS2.out]; exact HK2.out⟩
            case measure => simp [intOf]; omega
          · simp only [if_true] at HL1 HS2
            have T := innT HI.out.ok (ws.take j)
            have hwA : ws[j] < (innS true s (ws.take j)).N := by rw [T.N]; omega
            have HCut := Lib.hid (cut2_any T.ok hR3.kno (Nat.le_trans hfw hR3.turn.size) ws[j] hwA (fun p => by have := T.ok.kids_le (fun i hi => hi) p; rw [T.N] at this; omega))
            have hnl : ¬ ((i : Int) < (xs.length : Int) - 1) := by
              have := HLast.out
              have : i + 1 = xs.length := of_decide_eq_true this.symm
              omega
            obtain ⟨x, hx⟩ : ∃ x, x = ws[j] := ⟨_, rfl⟩
            rw [← hx] at g1 HCut HS2 HL1
            obtain ⟨st, hst⟩ : ∃ st, st = innS true s (ws.take j) := ⟨_, rfl⟩
            rw [← hst] at HCut HS2 HR3 HAp3
            obtain ⟨L, hL⟩ : ∃ L, L = innL true s (ws.take j) := ⟨_, rfl⟩
            rw [← hL] at HL1 HLl HOw
            clear hc hR3 hown hapt hwm hw2 T hwA hx hst hL HLast HWm
            go_wp2_with fail
            refine HCut.out.mono ?_
            intro e w4 hP
            obtain ⟨rfl, hR4, ho4, ha4⟩ := HR3.out.cut hP HOw.out HAp3.out
            have HR4 := Lib.hid hR4
            have HA4 := Lib.hid ha4
            have HZr : Hid (RSl (w4.alloc (.cells #[.pointer (some ⟨kb3 x, 0, none⟩)] 77)) (w4.alloc (.cells #[.pointer (some ⟨kb3 x, 0, none⟩)] 77)).heap.size (some ⟨w4.heap.size, 0, none⟩) (ptrs kb3 [x])) := rsl_new w4 kb3 x _ rfl
            have HZo : Hid ((w4.alloc (.cells #[.pointer (some ⟨kb3 x, 0, none⟩)] 77)).ownsRow w.heap.size 77 1 (.slice la j lc) L.length (ptrs kb3 L)) := by rw [HLl.out]; exact ho4.alloc _
            have hb4 : Below w4.heap.size w4 (w4.alloc (.cells #[.pointer (some ⟨kb3 x, 0, none⟩)] 77)) := (Below.refl _ _).alloc (Nat.le_refl _) _
            have HZs : Hid (w.heap.size ≤ (w4.alloc (.cells #[.pointer (some ⟨kb3 x, 0, none⟩)] 77)).heap.size) := Nat.le_trans hR4.turn.size hb4.size
            have HGr : Hid (∀ w5 v2, (w4.alloc (.cells #[.pointer (some ⟨kb3 x, 0, none⟩)] 77)).grownBy w5 (Value.slice la j lc).ownBlock → (v2.ownBlock = (Value.slice la j lc).ownBlock ∨ v2.ownBlock = some (w4.alloc (.cells #[.pointer (some ⟨kb3 x, 0, none⟩)] 77)).heap.size) → RS n g fc fb kb w (st.cut x) kb3 w5 ∧ LApt (st.cut x) kb3 v2 w5) := fun w5 v2 hg hat => (HR4.out.up hb4).grow (Nat.le_refl _) HZo.out (HA4.out.up (fun y hy => HR4.out.kno.lt hy) hb4) hg hat
            clear hP hR4 ho4 ha4 hb4 g1
            go_wp2_with (at_builtin; refine wpList_append_kn _ rfl (.tmp 86) (.tmp 88) rfl kb3 w.heap.size (.slice la j lc) L rfl HZo.out (some ⟨w4.heap.size, 0, none⟩) 1 1 [x] rfl rfl HZr.out (by have := HLl.out; simp only [List.length_cons, List.length_nil]; omega) HZs.out ?_)
            intro a5 c5 w6 hown2 hg2 hat2
            obtain ⟨k1, k2⟩ := HGr.out w6 (.slice a5 (L.length + 1) c5) hg2 (by simpa using hat2)
            have hown3 : w6.ownsRow w.heap.size 77 1 (.slice a5 (L.length + 1) c5) (L.length + 1) (ptrs kb3 (L ++ [x])) := by simpa using hown2
            rw [HLl.out] at k2 hown3
            have HK1 := Lib.hid k1
            have HK2 := Lib.hid k2
            have HK3 := Lib.hid hown3
            clear hown2 hg2 hat2 k1 k2 hown3
            go_wp2_with fail
            go_roundw
            case rel =>
              refine ⟨j + 1, kb3, a5, c5, by omega, by go_num, by rw [HLl.out], by rw [HS2.out]; exact HK1.out, by rw [HL1.out]; exact HK3.out, by rw [HS2.out]; exact HK2.out⟩
            case measure => simp [intOf]; omega
        · have ej : j = ws.length := by omega
          rw [ej, List.take_length] at hR3 hown
          obtain ⟨b, o, rfl, hbB, hc⟩ := (HRow1.out _ _ _ hR3).at_ (by rw [ptrs_length]; omega)
          have g1 := hc i (by rw [ptrs_length]; exact hlt)
          have hxm := HX.out _ (List.getElem_mem hlt)
          rw [ptrs_at hlt, ← hR3.old _ hxm] at g1
          obtain ⟨h3, l1, l2, q1, q2, q3, q4, q5, q6, q7, q8⟩ := ins_ready (.inr (.inl rfl)) HI.out HWn.out HHt.out HX.out (List.getElem_mem hlt) last
          have hNb : (innS last s ws).N ≤ 81000 := by
            cases last
            · have := inn_bound HO0.out hn HI.out HHt.out (c := 40800) (by omega) hbd2 ws.length
              rw [List.take_length] at this; omega
            · have := (innT HI.out.ok ws).N; omega
          have hkl := q1.kids_le (fun i hi => hi) (kpar 2 (innS last s ws).F xs[i])
          have hLlen := innL_length last s ws
          have HIns : Hid (Calls Try.prog 95 #[.pointer (some ⟨fb, 0, none⟩), .int .i64 2, .pointer (some ⟨kb3 xs[i], 0, none⟩), .slice la ws.length lc] W3 (InsedPost (innS last s ws).F (fun i => i < (innS last s ws).N) (innS last s ws).nd (plN n) fb kb3 (kpar 2 (innS last s ws).F xs[i]) l1.length (innL last s ws) W3)) := by
            have hown' := hown
            rw [← hLlen] at hown' ⊢
            exact inserted_any q1 hR3.kno (Nat.le_trans hfw hR3.turn.size) 2 xs[i] _ l1 l2 q4 q5 q6 q2 (by omega) (innL last s ws) (fun y hy => ⟨(q7 y hy).1, (q7 y hy).2.1, (q7 y hy).2.2.1⟩) q8 (by omega) w.heap.size la lc hown' _
          have HEnd : Hid (∀ e w4, InsedPost (innS last s ws).F (fun i => i < (innS last s ws).N) (innS last s ws).nd (plN n) fb kb3 (kpar 2 (innS last s ws).F xs[i]) l1.length (innL last s ws) W3 e w4 → e = .returned (.tuple #[]) ∧ RS n g fc fb kb w (insN 2 ⟨F0, n, nd0, false⟩ xs ws (i + 1)) kb3 w4) := fun e w4 hP => by
            obtain ⟨z1, z2⟩ := hR3.ins hP
            refine ⟨z1, ?_⟩
            rw [HS1.out]
            rw [q3] at z2
            exact z2
          obtain ⟨x, hx⟩ : ∃ x, x = xs[i] := ⟨_, rfl⟩
          rw [← hx] at g1 HIns HEnd
          subst ej
          clear hc hR3 hown hapt hxm q1 q2 q3 q4 q5 q6 q7 q8 hNb hkl hLlen hx HLast HS1
          go_wp2_with fail
          refine HIns.out.mono ?_
          intro e w4 hP
          obtain ⟨rfl, hR4⟩ := HEnd.out e w4 hP
          have HR4 := Lib.hid hR4
          clear hP hR4 g1
          go_wp2_with fail
          go_roundw
          case rel => exact ⟨i + 1, kb3, by omega, by go_num, HR4.out⟩
          case measure => simp [intOf]; omega
    · have e : i = xs.length := by omega
      subst e
      have HB2 := Lib.hid (HBel.out _ _ _ HR2.out)
      go_wp2_with fail
      go_ret
      exact ⟨true, rfl, fun _ => ⟨HNe.out, HA.out, fun _ => HP.out, fun h => absurd h (by decide), kb2, HR2.out⟩, HB2.out⟩

set_option maxRecDepth 100000 in
set_option maxHeartbeats 8000000 in
theorem insert_4 {n : Nat} {F0 : Fo} {h0 : Nat → Nat} {nd0 : Nat → Nd} (o0 : F0.Ok (fun i => i < n) h0) (hn : n ≤ 200) (hnb : ∀ i, i < n → NdB (nd0 i) ∧ (nd0 i).attrs.length ≤ 1000) (hh : ∀ i, i < n → h0 i ≤ 200) {g fc fb : Nat} {kb : Nat → Nat} {w : World} (hR : RS n g fc fb kb w ⟨F0, n, nd0, false⟩ kb w) (hfw : fb ≤ w.heap.size)
    (xs ws : List Nat) (hxs : ∀ x ∈ xs, x < n) (hws : ∀ x ∈ ws, x < n) (hxn : xs.Nodup) (hwn : ws.Nodup) (hx0 : xs ≠ []) {base : Nat} (a : Option Addr) (c : Nat) (ho1 : w.ownsRow base 77 1 (.slice a xs.length c) xs.length (ptrs kb xs)) (a2 : Option Addr) (c2 : Nat) (ho2 : w.ownsRow base 77 1 (.slice a2 ws.length c2) ws.length (ptrs kb ws)) :
    Calls Try.prog 72 #[.pointer (some ⟨fb, 0, none⟩), .int .i64 4, .slice a xs.length c, .slice a2 ws.length c2] w (InsertPost n g fc fb kb 4 F0 nd0 xs ws ⟨F0, n, nd0, false⟩ w) := by
  have hxl : xs.length ≤ 200 := by have := nodup_len hxn hxs; omega
  have hwl : ws.length ≤ 200 := by have := nodup_len hwn hws; omega
  have hkf : ∀ i, i < n → fb ≤ kb i := fun i hi => (hR.kno.node i hi).1
  have hty1 : ∀ i, i < n → (Value.slice a xs.length c).ownBlock ≠ some (kb i) := fun i hi => by
    obtain ⟨_, _, _, _, _, hhn, _, _⟩ := hR.kno.node i hi; exact own_ne ho1 hhn (by decide)
  have hty2 : ∀ i, i < n → (Value.slice a2 ws.length c2).ownBlock ≠ some (kb i) := fun i hi => by
    obtain ⟨_, _, _, _, _, hhn, _, _⟩ := hR.kno.node i hi; exact own_ne ho2 hhn (by decide)
  have HRow1 : Hid (∀ s kb' wr, RS n g fc fb kb w s kb' wr → RSl wr wr.heap.size a (ptrs kb xs)) := fun s kb' wr R => rsl_own (R.kept ho1 hty1 (own_ne ho1 hR.fst (by decide)))
  have HRow2 : Hid (∀ s kb' wr, RS n g fc fb kb w s kb' wr → RSl wr wr.heap.size a2 (ptrs kb ws)) := fun s kb' wr R => rsl_own (R.kept ho2 hty2 (own_ne ho2 hR.fst (by decide)))
  have HBel : Hid (∀ s kb' wr, RS n g fc fb kb w s kb' wr → Below fb w wr) := fun s kb' wr R => R.below hfw hkf
  have HAp := Lib.hid (apart_any o0 (hmax h0 n) ws xs hws hxs (by omega) (by omega) a2 c2 a c w hR.kno (rsl_own ho2) (rsl_own ho1))
  have HGuard : Hid (∀ w1, Below w.heap.size w w1 → Calls Try.prog 93 #[.slice a xs.length c] w1 (fun e w' => ∃ b, e = .returned (.bool b) ∧ (b = true → ∀ x ∈ xs, F0.par x ≠ none) ∧ w1 = w')) := fun w1 hb => stand_any xs hxs (by omega) a c w1 (hR.kno.up hb) ((rsl_own ho1).up hb)
  have HInv : Hid (Apart F0 ws xs → (∀ x ∈ xs, F0.par x ≠ none) → ∀ i, i < xs.length → ∃ h', Inv n F0 h0 nd0 4 xs ws (insN 4 ⟨F0, n, nd0, false⟩ xs ws i) h' ∧ (insN 4 ⟨F0, n, nd0, false⟩ xs ws i).N ≤ 800 + i * ws.length) := fun hA hP => insN_inv (h := h0) (.inr (.inr rfl)) o0 hn ⟨o0, Nat.le_refl _, fun _ _ _ _ => ⟨rfl, rfl⟩, fun x hx y hy => by
      obtain ⟨i, hi, rfl⟩ := List.getElem_of_mem hx
      obtain ⟨j, hj, rfl⟩ := List.getElem_of_mem hy
      exact hA.2 i j hi hj, fun _ => hP, fun y hy => ⟨y, hy, rfl⟩⟩ (fun x hx => ⟨hws x hx, hh x (hws x hx)⟩) hxs (by show n ≤ 800; omega)
  have HR0 := Lib.hid hR
  have HX := Lib.hid hxs
  have HW := Lib.hid hws
  have HWn := Lib.hid hwn
  have HHt : Hid (∀ x ∈ ws, x < n ∧ h0 x ≤ 200) := fun x hx => ⟨hws x hx, hh x (hws x hx)⟩
  have HNb := Lib.hid hnb
  have HO0 := Lib.hid o0
  clear hR ho1 ho2 hty1 hty2 hkf hxs hws hnb hh hx0 o0
  go_enter Try.func72, Try.ntmps72
  go_wp2_with fail
  refine HAp.out.mono ?_
  rintro e w1 ⟨b1, rfl, hA, hb1⟩
  have HR1 := Lib.hid (HR0.out.up hb1)
  have HB1 := Lib.hid (HBel.out _ _ _ HR1.out)
  have HG := Lib.hid (HGuard.out w1 hb1)
  clear hb1
  cases b1
  · clear hA
    go_wp2_with fail
    go_ret
    exact ⟨false, rfl, by simp, HB1.out⟩
  have HA := Lib.hid (hA rfl)
  clear hA
  go_wp2_with fail
  refine HG.out.mono ?_
  rintro e w2 ⟨b2, rfl, hP, rfl⟩
  cases b2
  · clear hP
    go_wp2_with fail
    go_ret
    exact ⟨false, rfl, by simp, HB1.out⟩
  have HP := Lib.hid (hP rfl)
  clear hP HG
  rcases Nat.eq_zero_or_pos ws.length with hz | hz
  · have ez : ((ws.length : Int) == 0) = true := beq_iff_eq.2 (by omega)
    clear hz
    go_wp2_with fail
    go_ret
    exact ⟨false, rfl, by simp, HB1.out⟩
  have ez : ((ws.length : Int) == 0) = false := beq_eq_false_iff_ne.2 (by omega)
  have HNe : Hid (ws ≠ []) := fun e => by rw [e] at hz; simp at hz
  have HIv := Lib.hid (HInv.out HA.out HP.out)
  clear hz HInv HGuard
  go_wp2_with fail
  go_loopw [10, 11, 12, 13] (fun v v11 v12 v13 wr => ∃ (i : Nat) (kb' : Nat → Nat), i ≤ xs.length ∧ v = .int .i64 i ∧ RS n g fc fb kb w (insN 4 ⟨F0, n, nd0, false⟩ xs ws i) kb' wr) (fun v _ _ _ _ => xs.length - (intOf v).toNat)
  case atStart => exact ⟨0, kb, Nat.zero_le _, rfl, HR1.out⟩
  case round =>
    obtain ⟨i, kb2, hi, rfl, hR2⟩ := hrel
    obtain ⟨W2, rfl⟩ : ∃ W2 : World, W2 = wr := ⟨_, rfl⟩
    have HR2 := Lib.hid hR2
    clear hR2
    by_cases hlt : i < xs.length
    · obtain ⟨h2, hI, hbd⟩ := HIv.out i hlt
      have HS1 : Hid (insN 4 ⟨F0, n, nd0, false⟩ xs ws (i + 1) = insOne 4 (decide (i + 1 = xs.length)) (insN 4 ⟨F0, n, nd0, false⟩ xs ws i) xs[i] ws) := by
        show insOne 4 (decide (i + 1 = xs.length)) _ (xs.getD i 0) ws = _
        rw [List.getD_eq_getElem?_getD, List.getElem?_eq_getElem hlt, Option.getD_some]
      obtain ⟨s, hs⟩ : ∃ s, s = insN 4 ⟨F0, n, nd0, false⟩ xs ws i := ⟨_, rfl⟩
      rw [← hs] at hI hbd HR2 HS1
      have hbd2 : s.N ≤ 40800 := by
        have : i * ws.length ≤ 200 * 200 := Nat.mul_le_mul (by omega) hwl
        omega
      have HI := Lib.hid hI
      have hle := hI.le
      clear hs hI hbd
      obtain ⟨last, hlast⟩ : ∃ last, last = decide (i + 1 = xs.length) := ⟨_, rfl⟩
      rw [← hlast] at HS1
      have HLast := Lib.hid hlast
      clear hlast
      go_wp2_with fail
      go_loopw [11, 12, 13] (fun v11 v12 v13 wr => ∃ (j : Nat) (kb' : Nat → Nat) (la : Option Addr) (lc : Nat), j ≤ ws.length ∧ v12 = .int .i64 j ∧ v11 = .slice la j lc ∧ RS n g fc fb kb w (innS last s (ws.take j)) kb' wr ∧ wr.ownsRow w.heap.size 77 1 (.slice la j lc) j (ptrs kb' (innL last s (ws.take j))) ∧ LApt (innS last s (ws.take j)) kb' (.slice la j lc) wr) (fun _ v _ _ => ws.length - (intOf v).toNat)
      case atStart => exact ⟨0, kb2, none, 0, Nat.zero_le _, rfl, rfl, by rw [List.take_zero]; exact HR2.out, by rw [List.take_zero]; cases last <;> exact World.ownsRow_nil _ _ _ _, fun y _ u _ => KApt.nil _ _ _⟩
      case round =>
        obtain ⟨j, kb3, la, lc, hj, rfl, rfl, hR3, hown, hapt⟩ := hrel
        obtain ⟨W3, rfl⟩ : ∃ W3 : World, W3 = wr := ⟨_, rfl⟩
        by_cases hlj : j < ws.length
        · obtain ⟨b, o, rfl, hbB, hc⟩ := (HRow2.out _ _ _ hR3).at_ (by rw [ptrs_length]; omega)
          have g1 := hc j (by rw [ptrs_length]; exact hlj)
          have hwm := HW.out _ (List.getElem_mem hlj)
          have hw2 := HHt.out _ (List.getElem_mem hlj)
          rw [ptrs_at hlj, ← hR3.old _ hwm] at g1
          have HL1 : Hid (innL last s (ws.take (j + 1)) = innL last s (ws.take j) ++ [if last then ws[j] else (innS last s (ws.take j)).N]) := by
            rw [Hid, List.take_succ_eq_append_getElem hlj, innL_snoc]
          have HS2 : Hid (innS last s (ws.take (j + 1)) = if last then (innS last s (ws.take j)).cut ws[j] else cpy 200 (innS last s (ws.take j)) ws[j]) := by
            rw [Hid, List.take_succ_eq_append_getElem hlj, innS_snoc]
          have HLl : Hid ((innL last s (ws.take j)).length = j) := by rw [Hid, innL_length, List.length_take]; omega
          have HR3 := Lib.hid hR3
          have HOw := Lib.hid hown
          have HAp3 := Lib.hid hapt
          have HWm : Hid (∀ m, ws.take m = ws.take m) := fun _ => rfl
          cases last
          · simp only [Bool.false_eq_true, if_false] at HL1 HS2
            obtain ⟨ha, A⟩ := innC HI.out HHt.out j
            have hbN := inn_bound HO0.out hn HI.out HHt.out (c := 40800) (by omega) hbd2 (j + 1)
            rw [HS2.out] at hbN
            have hAle := A.le
            have hwA : ws[j] < (innS false s (ws.take j)).N := by omega
            have HCp := Lib.hid (copied_any 200 A.ok hR3.kno (Nat.le_trans hfw hR3.turn.size) hwA (by rw [A.hold _ (by omega), (HI.out.sub _ (List.getElem_mem hlj) _ .self).2]; exact hw2.2) (fun y hy => if_neg (by omega)) hR3.fst (by omega) (fun y hy => by obtain ⟨z, hz, e⟩ := A.nds y hy; rw [e]; exact HNb.out z hz))
            obtain ⟨hb', E⟩ := cpy_ok 200 _ _ _ A.ok hwA (by rw [A.hold _ (by omega), (HI.out.sub _ (List.getElem_mem hlj) _ .self).2]; exact hw2.2)
            have HE := Lib.hid E
            have HRt : Hid (∀ y ∈ innL false s (ws.take j), y < (innS false s (ws.take j)).N) := fun y hy => (A.root y hy).2.1
            have HnN : Hid (n ≤ (innS false s (ws.take j)).N) := Nat.le_trans hle hAle
            have hnl : (i : Int) < (xs.length : Int) - 1 := by
              have := HLast.out
              have : ¬ (i + 1 = xs.length) := of_decide_eq_false this.symm
              omega
            obtain ⟨x, hx⟩ : ∃ x, x = ws[j] := ⟨_, rfl⟩
            rw [← hx] at g1 HCp HE HS2
            obtain ⟨st, hst⟩ : ∃ st, st = innS false s (ws.take j) := ⟨_, rfl⟩
            rw [← hst] at HCp HE HS2 HR3 HAp3 HRt HnN HL1
            obtain ⟨L, hL⟩ : ∃ L, L = innL false s (ws.take j) := ⟨_, rfl⟩
            rw [← hL] at HL1 HLl HOw HRt
            clear hc hR3 hown hapt hwm hw2 A E hbN hAle hwA hx hst hL HLast HWm
            go_wp2_with fail
            refine HCp.out.mono ?_
            intro e w4 hP
            obtain ⟨kb4, rfl, hR4, ho4, ha4⟩ := HR3.out.copied HnN.out HE.out.lt hP HOw.out HRt.out HAp3.out
            have HCut := Lib.hid (cut_nop hR4.kno st.N HE.out.lt HE.out.root)
            have HR4 := Lib.hid hR4
            have HA4 := Lib.hid ha4
            have HZr : Hid (RSl (w4.alloc (.cells #[.pointer (some ⟨kb4 st.N, 0, none⟩)] 77)) (w4.alloc (.cells #[.pointer (some ⟨kb4 st.N, 0, none⟩)] 77)).heap.size (some ⟨w4.heap.size, 0, none⟩) (ptrs kb4 [st.N])) := rsl_new w4 kb4 st.N _ rfl
            have HZo : Hid ((w4.alloc (.cells #[.pointer (some ⟨kb4 st.N, 0, none⟩)] 77)).ownsRow w.heap.size 77 1 (.slice la j lc) L.length (ptrs kb4 L)) := by rw [HLl.out]; exact ho4.alloc _
            have hb4 : Below w4.heap.size w4 (w4.alloc (.cells #[.pointer (some ⟨kb4 st.N, 0, none⟩)] 77)) := (Below.refl _ _).alloc (Nat.le_refl _) _
            have HZs : Hid (w.heap.size ≤ (w4.alloc (.cells #[.pointer (some ⟨kb4 st.N, 0, none⟩)] 77)).heap.size) := Nat.le_trans hR4.turn.size hb4.size
            have HGr : Hid (∀ w5 v2, (w4.alloc (.cells #[.pointer (some ⟨kb4 st.N, 0, none⟩)] 77)).grownBy w5 (Value.slice la j lc).ownBlock → (v2.ownBlock = (Value.slice la j lc).ownBlock ∨ v2.ownBlock = some (w4.alloc (.cells #[.pointer (some ⟨kb4 st.N, 0, none⟩)] 77)).heap.size) → RS n g fc fb kb w (cpy 200 st x) kb4 w5 ∧ LApt (cpy 200 st x) kb4 v2 w5) := fun w5 v2 hg hat => (HR4.out.up hb4).grow (Nat.le_refl _) HZo.out (HA4.out.up (fun y hy => HR4.out.kno.lt hy) hb4) hg hat
            clear hP hR4 ho4 ha4 hb4 g1
            go_wp2_with fail
            refine HCut.out.mono ?_
            rintro e w5 ⟨rfl, rfl⟩
            go_wp2_with (at_builtin; refine wpList_append_kn _ rfl (.tmp 86) (.tmp 88) rfl kb4 w.heap.size (.slice la j lc) L rfl HZo.out (some ⟨w5.heap.size, 0, none⟩) 1 1 [st.N] rfl rfl HZr.out (by have := HLl.out; simp only [List.length_cons, List.length_nil]; omega) HZs.out ?_)
            intro a5 c5 w6 hown2 hg2 hat2
            obtain ⟨k1, k2⟩ := HGr.out w6 (.slice a5 (L.length + 1) c5) hg2 (by simpa using hat2)
            have hown3 : w6.ownsRow w.heap.size 77 1 (.slice a5 (L.length + 1) c5) (L.length + 1) (ptrs kb4 (L ++ [st.N])) := by simpa using hown2
            rw [HLl.out] at k2 hown3
            have HK1 := Lib.hid k1
            have HK2 := Lib.hid k2
            have HK3 := Lib.hid hown3
            clear hown2 hg2 hat2 k1 k2 hown3
            go_wp2_with fail
            go_roundw
            case rel =>
              refine ⟨j + 1, kb4, a5, c5, by omega, by go_num, by rw [HLl.out], by rw [HS2.out]; exact HK1.out, by rw [HL1.out]; exact HK3.out, by rw [HS2.out]; exact HK2.out⟩
            case measure => simp [intOf]; omega
          · simp only [if_true] at HL1 HS2
            have T := innT HI.out.ok (ws.take j)
            have hwA : ws[j] < (innS true s (ws.take j)).N := by rw [T.N]; omega
            have HCut := Lib.hid (cut2_any T.ok hR3.kno (Nat.le_trans hfw hR3.turn.size) ws[j] hwA (fun p => by have := T.ok.kids_le (fun i hi => hi) p; rw [T.N] at this; omega))
            have hnl : ¬ ((i : Int) < (xs.length : Int) - 1) := by
              have := HLast.out
              have : i + 1 = xs.length := of_decide_eq_true this.symm
              omega
            obtain ⟨x, hx⟩ : ∃ x, x = ws[j] := ⟨_, rfl⟩
            rw [← hx] at g1 HCut HS2 HL1
            obtain ⟨st, hst⟩ : ∃ st, st = innS true s (ws.take j) := ⟨_, rfl⟩
            rw [← hst] at HCut HS2 HR3 HAp3
            obtain ⟨L, hL⟩ : ∃ L, L = innL true s (ws.take j) := ⟨_, rfl⟩
            rw [← hL] at HL1 HLl HOw
            clear hc hR3 hown hapt hwm hw2 T hwA hx hst hL HLast HWm
            go_wp2_with fail
            refine HCut.out.mono ?_
            intro e w4 hP
            obtain ⟨rfl, hR4, ho4, ha4⟩ := HR3.out.cut hP HOw.out HAp3.out
            have HR4 := Lib.hid hR4
            have HA4 := Lib.hid ha4
            have HZr : Hid (RSl (w4.alloc (.cells #[.pointer (some ⟨kb3 x, 0, none⟩)] 77)) (w4.alloc (.cells #[.pointer (some ⟨kb3 x, 0, none⟩)] 77)).heap.size (some ⟨w4.heap.size, 0, none⟩) (ptrs kb3 [x])) := rsl_new w4 kb3 x _ rfl
            have HZo : Hid ((w4.alloc (.cells #[.pointer (some ⟨kb3 x, 0, none⟩)] 77)).ownsRow w.heap.size 77 1 (.slice la j lc) L.length (ptrs kb3 L)) := by rw [HLl.out]; exact ho4.alloc _
            have hb4 : Below w4.heap.size w4 (w4.alloc (.cells #[.pointer (some ⟨kb3 x, 0, none⟩)] 77)) := (Below.refl _ _).alloc (Nat.le_refl _) _
            have HZs : Hid (w.heap.size ≤ (w4.alloc (.cells #[.pointer (some ⟨kb3 x, 0, none⟩)] 77)).heap.size) := Nat.le_trans hR4.turn.size hb4.size
            have HGr : Hid (∀ w5 v2, (w4.alloc (.cells #[.pointer (some ⟨kb3 x, 0, none⟩)] 77)).grownBy w5 (Value.slice la j lc).ownBlock → (v2.ownBlock = (Value.slice la j lc).ownBlock ∨ v2.ownBlock = some (w4.alloc (.cells #[.pointer (some ⟨kb3 x, 0, none⟩)] 77)).heap.size) → RS n g fc fb kb w (st.cut x) kb3 w5 ∧ LApt (st.cut x) kb3 v2 w5) := fun w5 v2 hg hat => (HR4.out.up hb4).grow (Nat.le_refl _) HZo.out (HA4.out.up (fun y hy => HR4.out.kno.lt hy) hb4) hg hat
            clear hP hR4 ho4 ha4 hb4 g1
            go_wp2_with (at_builtin; refine wpList_append_kn _ rfl (.tmp 86) (.tmp 88) rfl kb3 w.heap.size (.slice la j lc) L rfl HZo.out (some ⟨w4.heap.size, 0, none⟩) 1 1 [x] rfl rfl HZr.out (by have := HLl.out; simp only [List.length_cons, List.length_nil]; omega) HZs.out ?_)
            intro a5 c5 w6 hown2 hg2 hat2
            obtain ⟨k1, k2⟩ := HGr.out w6 (.slice a5 (L.length + 1) c5) hg2 (by simpa using hat2)
            have hown3 : w6.ownsRow w.heap.size 77 1 (.slice a5 (L.length + 1) c5) (L.length + 1) (ptrs kb3 (L ++ [x])) := by simpa using hown2
            rw [HLl.out] at k2 hown3
            have HK1 := Lib.hid k1
            have HK2 := Lib.hid k2
            have HK3 := Lib.hid hown3
            clear hown2 hg2 hat2 k1 k2 hown3
            go_wp2_with fail
            go_roundw
            case rel =>
              refine ⟨j + 1, kb3, a5, c5, by omega, by go_num, by rw [HLl.out], by rw [HS2.out]; exact HK1.out, by rw [HL1.out]; exact HK3.out, by rw [HS2.out]; exact HK2.out⟩
            case measure => simp [intOf]; omega
        · have ej : j = ws.length := by omega
          rw [ej, List.take_length] at hR3 hown
          obtain ⟨b, o, rfl, hbB, hc⟩ := (HRow1.out _ _ _ hR3).at_ (by rw [ptrs_length]; omega)
          have g1 := hc i (by rw [ptrs_length]; exact hlt)
          have hxm := HX.out _ (List.getElem_mem hlt)
          rw [ptrs_at hlt, ← hR3.old _ hxm] at g1
          obtain ⟨h3, l1, l2, q1, q2, q3, q4, q5, q6, q7, q8⟩ := ins_ready (.inr (.inr rfl)) HI.out HWn.out HHt.out HX.out (List.getElem_mem hlt) last
          have hNb : (innS last s ws).N ≤ 81000 := by
            cases last
            · have := inn_bound HO0.out hn HI.out HHt.out (c := 40800) (by omega) hbd2 ws.length
              rw [List.take_length] at this; omega
            · have := (innT HI.out.ok ws).N; omega
          have hkl := q1.kids_le (fun i hi => hi) (kpar 4 (innS last s ws).F xs[i])
          have hLlen := innL_length last s ws
          have HIns : Hid (Calls Try.prog 95 #[.pointer (some ⟨fb, 0, none⟩), .int .i64 4, .pointer (some ⟨kb3 xs[i], 0, none⟩), .slice la ws.length lc] W3 (InsedPost (innS last s ws).F (fun i => i < (innS last s ws).N) (innS last s ws).nd (plN n) fb kb3 (kpar 4 (innS last s ws).F xs[i]) l1.length (innL last s ws) W3)) := by
            have hown' := hown
            rw [← hLlen] at hown' ⊢
            exact inserted_any q1 hR3.kno (Nat.le_trans hfw hR3.turn.size) 4 xs[i] _ l1 l2 q4 q5 q6 q2 (by omega) (innL last s ws) (fun y hy => ⟨(q7 y hy).1, (q7 y hy).2.1, (q7 y hy).2.2.1⟩) q8 (by omega) w.heap.size la lc hown' _
          have HEnd : Hid (∀ e w4, InsedPost (innS last s ws).F (fun i => i < (innS last s ws).N) (innS last s ws).nd (plN n) fb kb3 (kpar 4 (innS last s ws).F xs[i]) l1.length (innL last s ws) W3 e w4 → e = .returned (.tuple #[]) ∧ RS n g fc fb kb w (insN 4 ⟨F0, n, nd0, false⟩ xs ws (i + 1)) kb3 w4) := fun e w4 hP => by
            obtain ⟨z1, z2⟩ := hR3.ins hP
            refine ⟨z1, ?_⟩
            rw [HS1.out]
            rw [q3] at z2
            exact z2
          obtain ⟨x, hx⟩ : ∃ x, x = xs[i] := ⟨_, rfl⟩
          rw [← hx] at g1 HIns HEnd
          subst ej
          clear hc hR3 hown hapt hxm q1 q2 q3 q4 q5 q6 q7 q8 hNb hkl hLlen hx HLast HS1
          go_wp2_with fail
          refine HIns.out.mono ?_
          intro e w4 hP
          obtain ⟨rfl, hR4⟩ := HEnd.out e w4 hP
          have HR4 := Lib.hid hR4
          clear hP hR4 g1
          go_wp2_with fail
          go_roundw
          case rel => exact ⟨i + 1, kb3, by omega, by go_num, HR4.out⟩
          case measure => simp [intOf]; omega
    · have e : i = xs.length := by omega
      subst e
      have HB2 := Lib.hid (HBel.out _ _ _ HR2.out)
      go_wp2_with fail
      go_ret
      exact ⟨true, rfl, fun _ => ⟨HNe.out, HA.out, fun h => absurd rfl h, fun _ => HP.out, kb2, HR2.out⟩, HB2.out⟩
end Go.Proofs.Ytmhhfljbocbolaa

namespace Go.Proofs.Ytmhhfljbocbolaa
open Go.RowKit
set_option linter.unusedVariables false

def StepYes (n g fc fb : Nat) (op : Int) (kb : Nat → Nat) (F0 : Fo) (nd0 : Nat → Nd) (l l2 : List Int) (w' : World) : Prop :=
  ∃ xs ws, ChoP n l xs ∧ xs ≠ [] ∧ ChoP n l2 ws ∧ ws ≠ [] ∧ Apart F0 ws xs ∧ (op ≠ 4 → ∀ x ∈ xs, (nd0 x).kind = 3) ∧ (op = 4 → ∀ x ∈ xs, F0.par x ≠ none) ∧ ∃ kb' W, RS n g fc fb kb W (insN op ⟨F0, n, nd0, false⟩ xs ws xs.length) kb' w' ∧ w'.ownsRow fb 77 1 (.slice (some ⟨g, 0, none⟩) n fc) n (ptrs kb' (List.range n))
def StepIns (n g fc fb : Nat) (kb : Nat → Nat) (op : Int) (F0 : Fo) (nd0 : Nat → Nd) (l l2 : List Int) (w : World) (e : Ending) (w' : World) : Prop :=
  ∃ b, e = .returned (.bool b) ∧ (b = true → StepYes n g fc fb op kb F0 nd0 l l2 w') ∧ Below fb w w'

theorem RS.self {n g fc fb : Nat} {kb : Nat → Nat} {w : World} {s : FoS} (R : RS n g fc fb kb w s kb w) (hs : s.N ≤ n) {w2 : World} (hb : Below w.heap.size w w2) : RS n g fc fb kb w2 s kb w2 :=
  ⟨R.kno.up hb, (hb.block _ (Array.getElem?_eq_some_iff.1 R.fst).1).trans R.fst, fun _ _ => rfl, fun y h1 h2 => by omega, KTurn.refl _ _ _⟩

set_option maxRecDepth 100000 in
set_option maxHeartbeats 4000000 in
theorem step_1 {n : Nat} {F0 : Fo} {h0 : Nat → Nat} {nd0 : Nat → Nd} (o0 : F0.Ok (fun i => i < n) h0) (hn : n ≤ 200) (hnb : ∀ i, i < n → NdB (nd0 i) ∧ (nd0 i).attrs.length ≤ 1000) (hh : ∀ i, i < n → h0 i ≤ 200) {g fc fb : Nat} {kb : Nat → Nat} {w : World} (hR : RS n g fc fb kb w ⟨F0, n, nd0, false⟩ kb w) (hfw : fb ≤ w.heap.size)
    (hrow : w.ownsRow fb 77 1 (.slice (some ⟨g, 0, none⟩) n fc) n (ptrs kb (List.range n))) (ad : Option Addr) (c : Nat) (l : List Int) (hl : l.length ≤ 2147483647) (hi : ISl w w.heap.size ad l) (ad2 : Option Addr) (c2 : Nat) (l2 : List Int) (hl2 : l2.length ≤ 2147483647) (hi2 : ISl w w.heap.size ad2 l2) :
    Calls Try.prog 48 #[.pointer (some ⟨fb, 0, none⟩), .agg #[.int .i64 1, .slice ad l.length c, .slice ad2 l2.length c2, .string ⟨#[]⟩, .string ⟨#[]⟩, .slice none 0 0]] w
      (StepIns n g fc fb kb 1 F0 nd0 l l2 w) := by
  have hf : w.cell? ⟨fb, 0, none⟩ = some (.slice (some ⟨g, 0, none⟩) n fc) := by rw [cell_of_row w _ 0 _ _ _ hR.fst]; rfl
  have hel : ∀ j, j < n → w.cell? ⟨g, j, none⟩ = some (.pointer (some ⟨kb j, 0, none⟩)) := fun j hj => by
    have := hrow.cells (g := g) rfl j (.pointer (some ⟨kb j, 0, none⟩)) (by simp [ptrs, hj])
    rw [Addr.add_lit, Nat.zero_add] at this
    exact this
  obtain ⟨W0, hW0⟩ : ∃ W0, W0 = w.alloc (.cells #[.int .i64 1, .slice ad l.length c, .slice ad2 l2.length c2, .string ⟨#[]⟩, .string ⟨#[]⟩, .slice none 0 0] 27) := ⟨_, rfl⟩
  have hb0 : Below w.heap.size w W0 := by rw [hW0]; exact (Below.refl _ _).alloc (Nat.le_refl _) _
  have hx : ∀ {p : Addr} {v : Value}, w.cell? p = some v → ∀ {W : World}, Below w.heap.size w W → W.cell? p = some v := fun hp W hb => (hb.cell (World.block_lt_of_cell? w _ hp)).trans hp
  have HC := Lib.hid (kchosen_any n fb g fc kb hn W0 (hx hf hb0) (fun j hj => hx (hel j hj) hb0) ad c l hl (hi.up hb0))
  have HC2 := Lib.hid (fun W (hb : Below w.heap.size w W) => kchosen_any n fb g fc kb hn W (hx hf hb) (fun j hj => hx (hel j hj) hb) ad2 c2 l2 hl2 (hi2.up hb))
  have HB0 := Lib.hid hb0
  have hs0 : W0.heap.size = w.heap.size + 1 := by rw [hW0]; simp
  have HQ : Hid (∀ W, Below W0.heap.size W0 W → W.cell? ⟨w.heap.size, 0, none⟩ = some (.int .i64 1) ∧ W.cell? ⟨w.heap.size, 1, none⟩ = some (.slice ad l.length c) ∧ W.cell? ⟨w.heap.size, 2, none⟩ = some (.slice ad2 l2.length c2)) := by
    intro W hb
    have : W.heap[w.heap.size]? = some (.cells #[.int .i64 1, .slice ad l.length c, .slice ad2 l2.length c2, .string ⟨#[]⟩, .string ⟨#[]⟩, .slice none 0 0] 27 (0, 0)) := by
      rw [hb.block _ (by omega), hW0]; exact heap_alloc_new w _
    exact ⟨by rw [cell_of_row W _ _ _ _ _ this]; rfl, by rw [cell_of_row W _ _ _ _ _ this]; rfl, by rw [cell_of_row W _ _ _ _ _ this]; rfl⟩
  have HIns : Hid (∀ w2, Below w.heap.size w w2 → ∀ xs ws, ChoP n l xs → ChoP n l2 ws → xs ≠ [] → ∀ a1 c1 a2 c2', w2.ownsRow fb 77 1 (.slice a1 xs.length c1) xs.length (ptrs kb xs) → w2.ownsRow fb 77 1 (.slice a2 ws.length c2') ws.length (ptrs kb ws) →
      Calls Try.prog 72 #[.pointer (some ⟨fb, 0, none⟩), .int .i64 1, .slice a1 xs.length c1, .slice a2 ws.length c2'] w2 (StepIns n g fc fb kb 1 F0 nd0 l l2 w)) := by
    intro w2 hb xs ws hx hw hne a1 c1 a2 c2' q1 q2
    have R2 := hR.self (Nat.le_refl _) hb
    have hrow2 := own_kept hrow (fun b _ h2 => hb.block b h2)
    refine (insert_1 o0 hn hnb hh R2 (Nat.le_trans hfw hb.size) xs ws (fun x h => (hx.rng x h).2) (fun x h => (hw.rng x h).2) hx.nodup hw.nodup hne a1 c1 q1 a2 c2' q2).mono ?_
    rintro e w3 ⟨b, rfl, hy, hb3⟩
    refine ⟨b, rfl, fun e => ?_, (hb.mono hfw).trans hb3⟩
    obtain ⟨y1, y2, y3, y4, kb', R3⟩ := hy e
    refine ⟨xs, ws, hx, hne, hw, y1, y2, y3, y4, kb', w2, R3, ?_⟩
    have k := R3.kept hrow2 (fun i hi => by obtain ⟨_, _, _, _, _, hhn, _, _⟩ := R2.kno.node i hi; exact own_ne hrow2 hhn (by decide)) (own_ne hrow2 R2.fst (by decide))
    rw [ptrs_congr2 (kb := kb) (kb2 := kb') fun y hy => R3.old y (by simpa using hy)]
    exact k
  have HBl : Hid (fb ≤ w.heap.size) := hfw
  clear hb0 hx hf hel hi hi2 hR hrow o0 hnb hh
  go_enter Try.func48, Try.ntmps48
  go_wp2_with fail
  rw [← hW0]
  clear hW0
  refine HC.out.mono ?_
  rintro e w1 ⟨a1, c1, m1, b1, rfl, hyes1, hb1⟩
  obtain ⟨z0, z1, z2⟩ := HQ.out w1 hb1
  have HB1 := Lib.hid hb1
  have HB01 := Lib.hid (bnext HB0.out hb1)
  have HY1 := Lib.hid hyes1
  clear hb1 hyes1
  go_wp2_with fail
  refine (HC2.out w1 HB01.out).mono ?_
  rintro e w2 ⟨a2, c2', m2, b2, rfl, hyes2, hb2⟩
  have HB2 := Lib.hid (bnext HB1.out hb2)
  have HB12 := Lib.hid hb2
  have HB02 := Lib.hid (bnext HB01.out hb2)
  have HBf : Hid (Below fb w w2) := HB02.out.mono HBl.out
  have HY2 := Lib.hid hyes2
  clear hb2 hyes2 z0 z1 z2
  obtain ⟨z0, z1, z2⟩ := HQ.out w2 HB2.out
  cases b1
  · go_wp2_with fail
    go_ret
    exact ⟨false, rfl, by simp, HBf.out⟩
  obtain ⟨xs, hX, rfl, hown1⟩ := HY1.out rfl
  cases b2
  · clear hX hown1
    go_wp2_with fail
    go_ret
    exact ⟨false, rfl, by simp, HBf.out⟩
  obtain ⟨ws, hW, rfl, hown2⟩ := HY2.out rfl
  have hown1' : w2.ownsRow W0.heap.size 77 1 (.slice a1 xs.length c1) xs.length (ptrs kb xs) := own_kept hown1 (fun b _ h2 => HB12.out.block b h2)
  rcases Nat.eq_zero_or_pos xs.length with h0 | h0
  · have ez : ((xs.length : Int) == 0) = true := beq_iff_eq.2 (by omega)
    clear h0 hX hW hown1 hown1' hown2
    go_wp2_with fail
    go_ret
    exact ⟨false, rfl, by simp, HBf.out⟩
  have ez : ((xs.length : Int) == 0) = false := beq_eq_false_iff_ne.2 (by omega)
  have HCall := Lib.hid (HIns.out w2 HB02.out xs ws hX hW (fun e => by rw [e] at h0; simp at h0) a1 c1 a2 c2' (own_base hown1' (by have := HBl.out; have := HB0.out.size; omega)) (own_base hown2 (by have := HBl.out; have := HB01.out.size; omega)))
  clear h0 hX hW hown1 hown1' hown2
  go_wp2_with fail
  refine HCall.out.mono ?_
  rintro e w3 ⟨b, rfl, hy, hb3⟩
  have HY := Lib.hid hy
  have HB3 := Lib.hid hb3
  clear hy hb3
  go_wp2_with fail
  go_ret
  exact ⟨b, rfl, HY.out, HB3.out⟩

set_option maxRecDepth 100000 in
set_option maxHeartbeats 4000000 in
theorem step_2 {n : Nat} {F0 : Fo} {h0 : Nat → Nat} {nd0 : Nat → Nd} (o0 : F0.Ok (fun i => i < n) h0) (hn : n ≤ 200) (hnb : ∀ i, i < n → NdB (nd0 i) ∧ (nd0 i).attrs.length ≤ 1000) (hh : ∀ i, i < n → h0 i ≤ 200) {g fc fb : Nat} {kb : Nat → Nat} {w : World} (hR : RS n g fc fb kb w ⟨F0, n, nd0, false⟩ kb w) (hfw : fb ≤ w.heap.size)
    (hrow : w.ownsRow fb 77 1 (.slice (some ⟨g, 0, none⟩) n fc) n (ptrs kb (List.range n))) (ad : Option Addr) (c : Nat) (l : List Int) (hl : l.length ≤ 2147483647) (hi : ISl w w.heap.size ad l) (ad2 : Option Addr) (c2 : Nat) (l2 : List Int) (hl2 : l2.length ≤ 2147483647) (hi2 : ISl w w.heap.size ad2 l2) :
    Calls Try.prog 48 #[.pointer (some ⟨fb, 0, none⟩), .agg #[.int .i64 2, .slice ad l.length c, .slice ad2 l2.length c2, .string ⟨#[]⟩, .string ⟨#[]⟩, .slice none 0 0]] w
      (StepIns n g fc fb kb 2 F0 nd0 l l2 w) := by
  have hf : w.cell? ⟨fb, 0, none⟩ = some (.slice (some ⟨g, 0, none⟩) n fc) := by rw [cell_of_row w _ 0 _ _ _ hR.fst]; rfl
  have hel : ∀ j, j < n → w.cell? ⟨g, j, none⟩ = some (.pointer (some ⟨kb j, 0, none⟩)) := fun j hj => by
    have := hrow.cells (g := g) rfl j (.pointer (some ⟨kb j, 0, none⟩)) (by simp [ptrs, hj])
    rw [Addr.add_lit, Nat.zero_add] at this
    exact this
  obtain ⟨W0, hW0⟩ : ∃ W0, W0 = w.alloc (.cells #[.int .i64 2, .slice ad l.length c, .slice ad2 l2.length c2, .string ⟨#[]⟩, .string ⟨#[]⟩, .slice none 0 0] 27) := ⟨_, rfl⟩
  have hb0 : Below w.heap.size w W0 := by rw [hW0]; exact (Below.refl _ _).alloc (Nat.le_refl _) _
  have hx : ∀ {p : Addr} {v : Value}, w.cell? p = some v → ∀ {W : World}, Below w.heap.size w W → W.cell? p = some v := fun hp W hb => (hb.cell (World.block_lt_of_cell? w _ hp)).trans hp
  have HC := Lib.hid (kchosen_any n fb g fc kb hn W0 (hx hf hb0) (fun j hj => hx (hel j hj) hb0) ad c l hl (hi.up hb0))
  have HC2 := Lib.hid (fun W (hb : Below w.heap.size w W) => kchosen_any n fb g fc kb hn W (hx hf hb) (fun j hj => hx (hel j hj) hb) ad2 c2 l2 hl2 (hi2.up hb))
  have HB0 := Lib.hid hb0
  have hs0 : W0.heap.size = w.heap.size + 1 := by rw [hW0]; simp
  have HQ : Hid (∀ W, Below W0.heap.size W0 W → W.cell? ⟨w.heap.size, 0, none⟩ = some (.int .i64 2) ∧ W.cell? ⟨w.heap.size, 1, none⟩ = some (.slice ad l.length c) ∧ W.cell? ⟨w.heap.size, 2, none⟩ = some (.slice ad2 l2.length c2)) := by
    intro W hb
    have : W.heap[w.heap.size]? = some (.cells #[.int .i64 2, .slice ad l.length c, .slice ad2 l2.length c2, .string ⟨#[]⟩, .string ⟨#[]⟩, .slice none 0 0] 27 (0, 0)) := by
      rw [hb.block _ (by omega), hW0]; exact heap_alloc_new w _
    exact ⟨by rw [cell_of_row W _ _ _ _ _ this]; rfl, by rw [cell_of_row W _ _ _ _ _ this]; rfl, by rw [cell_of_row W _ _ _ _ _ this]; rfl⟩
  have HIns : Hid (∀ w2, Below w.heap.size w w2 → ∀ xs ws, ChoP n l xs → ChoP n l2 ws → xs ≠ [] → ∀ a1 c1 a2 c2', w2.ownsRow fb 77 1 (.slice a1 xs.length c1) xs.length (ptrs kb xs) → w2.ownsRow fb 77 1 (.slice a2 ws.length c2') ws.length (ptrs kb ws) →
      Calls Try.prog 72 #[.pointer (some ⟨fb, 0, none⟩), .int .i64 2, .slice a1 xs.length c1, .slice a2 ws.length c2'] w2 (StepIns n g fc fb kb 2 F0 nd0 l l2 w)) := by
    intro w2 hb xs ws hx hw hne a1 c1 a2 c2' q1 q2
    have R2 := hR.self (Nat.le_refl _) hb
    have hrow2 := own_kept hrow (fun b _ h2 => hb.block b h2)
    refine (insert_2 o0 hn hnb hh R2 (Nat.le_trans hfw hb.size) xs ws (fun x h => (hx.rng x h).2) (fun x h => (hw.rng x h).2) hx.nodup hw.nodup hne a1 c1 q1 a2 c2' q2).mono ?_
    rintro e w3 ⟨b, rfl, hy, hb3⟩
    refine ⟨b, rfl, fun e => ?_, (hb.mono hfw).trans hb3⟩
    obtain ⟨y1, y2, y3, y4, kb', R3⟩ := hy e
    refine ⟨xs, ws, hx, hne, hw, y1, y2, y3, y4, kb', w2, R3, ?_⟩
    have k := R3.kept hrow2 (fun i hi => by obtain ⟨_, _, _, _, _, hhn, _, _⟩ := R2.kno.node i hi; exact own_ne hrow2 hhn (by decide)) (own_ne hrow2 R2.fst (by decide))
    rw [ptrs_congr2 (kb := kb) (kb2 := kb') fun y hy => R3.old y (by simpa using hy)]
    exact k
  have HBl : Hid (fb ≤ w.heap.size) := hfw
  clear hb0 hx hf hel hi hi2 hR hrow o0 hnb hh
  go_enter Try.func48, Try.ntmps48
  go_wp2_with fail
  rw [← hW0]
  clear hW0
  refine HC.out.mono ?_
  rintro e w1 ⟨a1, c1, m1, b1, rfl, hyes1, hb1⟩
  obtain ⟨z0, z1, z2⟩ := HQ.out w1 hb1
  have HB1 := Lib.hid hb1
  have HB01 := Lib.hid (bnext HB0.out hb1)
  have HY1 := Lib.hid hyes1
  clear hb1 hyes1
  go_wp2_with fail
  refine (HC2.out w1 HB01.out).mono ?_
  rintro e w2 ⟨a2, c2', m2, b2, rfl, hyes2, hb2⟩
  have HB2 := Lib.hid (bnext HB1.out hb2)
  have HB12 := Lib.hid hb2
  have HB02 := Lib.hid (bnext HB01.out hb2)
  have HBf : Hid (Below fb w w2) := HB02.out.mono HBl.out
  have HY2 := Lib.hid hyes2
  clear hb2 hyes2 z0 z1 z2
  obtain ⟨z0, z1, z2⟩ := HQ.out w2 HB2.out
  cases b1
  · go_wp2_with fail
    go_ret
    exact ⟨false, rfl, by simp, HBf.out⟩
  obtain ⟨xs, hX, rfl, hown1⟩ := HY1.out rfl
  cases b2
  · clear hX hown1
    go_wp2_with fail
    go_ret
    exact ⟨false, rfl, by simp, HBf.out⟩
  obtain ⟨ws, hW, rfl, hown2⟩ := HY2.out rfl
  have hown1' : w2.ownsRow W0.heap.size 77 1 (.slice a1 xs.length c1) xs.length (ptrs kb xs) := own_kept hown1 (fun b _ h2 => HB12.out.block b h2)
  rcases Nat.eq_zero_or_pos xs.length with h0 | h0
  · have ez : ((xs.length : Int) == 0) = true := beq_iff_eq.2 (by omega)
    clear h0 hX hW hown1 hown1' hown2
    go_wp2_with fail
    go_ret
    exact ⟨false, rfl, by simp, HBf.out⟩
  have ez : ((xs.length : Int) == 0) = false := beq_eq_false_iff_ne.2 (by omega)
  have HCall := Lib.hid (HIns.out w2 HB02.out xs ws hX hW (fun e => by rw [e] at h0; simp at h0) a1 c1 a2 c2' (own_base hown1' (by have := HBl.out; have := HB0.out.size; omega)) (own_base hown2 (by have := HBl.out; have := HB01.out.size; omega)))
  clear h0 hX hW hown1 hown1' hown2
  go_wp2_with fail
  refine HCall.out.mono ?_
  rintro e w3 ⟨b, rfl, hy, hb3⟩
  have HY := Lib.hid hy
  have HB3 := Lib.hid hb3
  clear hy hb3
  go_wp2_with fail
  go_ret
  exact ⟨b, rfl, HY.out, HB3.out⟩

set_option maxRecDepth 100000 in
set_option maxHeartbeats 4000000 in
theorem step_4 {n : Nat} {F0 : Fo} {h0 : Nat → Nat} {nd0 : Nat → Nd} (o0 : F0.Ok (fun i => i < n) h0) (hn : n ≤ 200) (hnb : ∀ i, i < n → NdB (nd0 i) ∧ (nd0 i).attrs.length ≤ 1000) (hh : ∀ i, i < n → h0 i ≤ 200) {g fc fb : Nat} {kb : Nat → Nat} {w : World} (hR : RS n g fc fb kb w ⟨F0, n, nd0, false⟩ kb w) (hfw : fb ≤ w.heap.size)
    (hrow : w.ownsRow fb 77 1 (.slice (some ⟨g, 0, none⟩) n fc) n (ptrs kb (List.range n))) (ad : Option Addr) (c : Nat) (l : List Int) (hl : l.length ≤ 2147483647) (hi : ISl w w.heap.size ad l) (ad2 : Option Addr) (c2 : Nat) (l2 : List Int) (hl2 : l2.length ≤ 2147483647) (hi2 : ISl w w.heap.size ad2 l2) :
    Calls Try.prog 48 #[.pointer (some ⟨fb, 0, none⟩), .agg #[.int .i64 4, .slice ad l.length c, .slice ad2 l2.length c2, .string ⟨#[]⟩, .string ⟨#[]⟩, .slice none 0 0]] w
      (StepIns n g fc fb kb 4 F0 nd0 l l2 w) := by
  have hf : w.cell? ⟨fb, 0, none⟩ = some (.slice (some ⟨g, 0, none⟩) n fc) := by rw [cell_of_row w _ 0 _ _ _ hR.fst]; rfl
  have hel : ∀ j, j < n → w.cell? ⟨g, j, none⟩ = some (.pointer (some ⟨kb j, 0, none⟩)) := fun j hj => by
    have := hrow.cells (g := g) rfl j (.pointer (some ⟨kb j, 0, none⟩)) (by simp [ptrs, hj])
    rw [Addr.add_lit, Nat.zero_add] at this
    exact this
  obtain ⟨W0, hW0⟩ : ∃ W0, W0 = w.alloc (.cells #[.int .i64 4, .slice ad l.length c, .slice ad2 l2.length c2, .string ⟨#[]⟩, .string ⟨#[]⟩, .slice none 0 0] 27) := ⟨_, rfl⟩
  have hb0 : Below w.heap.size w W0 := by rw [hW0]; exact (Below.refl _ _).alloc (Nat.le_refl _) _
  have hx : ∀ {p : Addr} {v : Value}, w.cell? p = some v → ∀ {W : World}, Below w.heap.size w W → W.cell? p = some v := fun hp W hb => (hb.cell (World.block_lt_of_cell? w _ hp)).trans hp
  have HC := Lib.hid (kchosen_any n fb g fc kb hn W0 (hx hf hb0) (fun j hj => hx (hel j hj) hb0) ad c l hl (hi.up hb0))
  have HC2 := Lib.hid (fun W (hb : Below w.heap.size w W) => kchosen_any n fb g fc kb hn W (hx hf hb) (fun j hj => hx (hel j hj) hb) ad2 c2 l2 hl2 (hi2.up hb))
  have HB0 := Lib.hid hb0
  have hs0 : W0.heap.size = w.heap.size + 1 := by rw [hW0]; simp
  have HQ : Hid (∀ W, Below W0.heap.size W0 W → W.cell? ⟨w.heap.size, 0, none⟩ = some (.int .i64 4) ∧ W.cell? ⟨w.heap.size, 1, none⟩ = some (.slice ad l.length c) ∧ W.cell? ⟨w.heap.size, 2, none⟩ = some (.slice ad2 l2.length c2)) := by
    intro W hb
    have : W.heap[w.heap.size]? = some (.cells #[.int .i64 4, .slice ad l.length c, .slice ad2 l2.length c2, .string ⟨#[]⟩, .string ⟨#[]⟩, .slice none 0 0] 27 (0, 0)) := by
      rw [hb.block _ (by omega), hW0]; exact heap_alloc_new w _
    exact ⟨by rw [cell_of_row W _ _ _ _ _ this]; rfl, by rw [cell_of_row W _ _ _ _ _ this]; rfl, by rw [cell_of_row W _ _ _ _ _ this]; rfl⟩
  have HIns : Hid (∀ w2, Below w.heap.size w w2 → ∀ xs ws, ChoP n l xs → ChoP n l2 ws → xs ≠ [] → ∀ a1 c1 a2 c2', w2.ownsRow fb 77 1 (.slice a1 xs.length c1) xs.length (ptrs kb xs) → w2.ownsRow fb 77 1 (.slice a2 ws.length c2') ws.length (ptrs kb ws) →
      Calls Try.prog 72 #[.pointer (some ⟨fb, 0, none⟩), .int .i64 4, .slice a1 xs.length c1, .slice a2 ws.length c2'] w2 (StepIns n g fc fb kb 4 F0 nd0 l l2 w)) := by
    intro w2 hb xs ws hx hw hne a1 c1 a2 c2' q1 q2
    have R2 := hR.self (Nat.le_refl _) hb
    have hrow2 := own_kept hrow (fun b _ h2 => hb.block b h2)
    refine (insert_4 o0 hn hnb hh R2 (Nat.le_trans hfw hb.size) xs ws (fun x h => (hx.rng x h).2) (fun x h => (hw.rng x h).2) hx.nodup hw.nodup hne a1 c1 q1 a2 c2' q2).mono ?_
    rintro e w3 ⟨b, rfl, hy, hb3⟩
    refine ⟨b, rfl, fun e => ?_, (hb.mono hfw).trans hb3⟩
    obtain ⟨y1, y2, y3, y4, kb', R3⟩ := hy e
    refine ⟨xs, ws, hx, hne, hw, y1, y2, y3, y4, kb', w2, R3, ?_⟩
    have k := R3.kept hrow2 (fun i hi => by obtain ⟨_, _, _, _, _, hhn, _, _⟩ := R2.kno.node i hi; exact own_ne hrow2 hhn (by decide)) (own_ne hrow2 R2.fst (by decide))
    rw [ptrs_congr2 (kb := kb) (kb2 := kb') fun y hy => R3.old y (by simpa using hy)]
    exact k
  have HBl : Hid (fb ≤ w.heap.size) := hfw
  clear hb0 hx hf hel hi hi2 hR hrow o0 hnb hh
  go_enter Try.func48, Try.ntmps48
  go_wp2_with fail
  rw [← hW0]
  clear hW0
  refine HC.out.mono ?_
  rintro e w1 ⟨a1, c1, m1, b1, rfl, hyes1, hb1⟩
  obtain ⟨z0, z1, z2⟩ := HQ.out w1 hb1
  have HB1 := Lib.hid hb1
  have HB01 := Lib.hid (bnext HB0.out hb1)
  have HY1 := Lib.hid hyes1
  clear hb1 hyes1
  go_wp2_with fail
  refine (HC2.out w1 HB01.out).mono ?_
  rintro e w2 ⟨a2, c2', m2, b2, rfl, hyes2, hb2⟩
  have HB2 := Lib.hid (bnext HB1.out hb2)
  have HB12 := Lib.hid hb2
  have HB02 := Lib.hid (bnext HB01.out hb2)
  have HBf : Hid (Below fb w w2) := HB02.out.mono HBl.out
  have HY2 := Lib.hid hyes2
  clear hb2 hyes2 z0 z1 z2
  obtain ⟨z0, z1, z2⟩ := HQ.out w2 HB2.out
  cases b1
  · go_wp2_with fail
    go_ret
    exact ⟨false, rfl, by simp, HBf.out⟩
  obtain ⟨xs, hX, rfl, hown1⟩ := HY1.out rfl
  cases b2
  · clear hX hown1
    go_wp2_with fail
    go_ret
    exact ⟨false, rfl, by simp, HBf.out⟩
  obtain ⟨ws, hW, rfl, hown2⟩ := HY2.out rfl
  have hown1' : w2.ownsRow W0.heap.size 77 1 (.slice a1 xs.length c1) xs.length (ptrs kb xs) := own_kept hown1 (fun b _ h2 => HB12.out.block b h2)
  rcases Nat.eq_zero_or_pos xs.length with h0 | h0
  · have ez : ((xs.length : Int) == 0) = true := beq_iff_eq.2 (by omega)
    clear h0 hX hW hown1 hown1' hown2
    go_wp2_with fail
    go_ret
    exact ⟨false, rfl, by simp, HBf.out⟩
  have ez : ((xs.length : Int) == 0) = false := beq_eq_false_iff_ne.2 (by omega)
  have HCall := Lib.hid (HIns.out w2 HB02.out xs ws hX hW (fun e => by rw [e] at h0; simp at h0) a1 c1 a2 c2' (own_base hown1' (by have := HBl.out; have := HB0.out.size; omega)) (own_base hown2 (by have := HBl.out; have := HB01.out.size; omega)))
  clear h0 hX hW hown1 hown1' hown2
  go_wp2_with fail
  refine HCall.out.mono ?_
  rintro e w3 ⟨b, rfl, hy, hb3⟩
  have HY := Lib.hid hy
  have HB3 := Lib.hid hb3
  clear hy hb3
  go_wp2_with fail
  go_ret
  exact ⟨b, rfl, HY.out, HB3.out⟩
end Go.Proofs.Ytmhhfljbocbolaa

namespace Go.Proofs.Ytmhhfljbocbolaa
open Go.RowKit
set_option linter.unusedVariables false

set_option maxRecDepth 100000 in
set_option maxHeartbeats 4000000 in
theorem changedM_any (ad : Option Addr) (c : Nat) (t : List Nd) (hf : fits1 t = true) (w : World) (h : NSl w w.heap.size ad t) (sb : Nat) (op : Int) (oa : Option Addr) (on oc : Nat) (wa : Option Addr) (wn wc : Nat)
    (hs : w.heap[sb]? = some (.cells #[.int .i64 op, .slice oa on oc, .slice wa wn wc, .string ⟨#[]⟩, .string ⟨#[]⟩, .slice none 0 0] 27 (0, 0)))
    (Good : Fo → (Nat → Prop) → (Nat → Nat) → (Nat → Nd) → Prop)
    (hstep : RightP t → ∀ W kb g fc fb, Below w.heap.size w W → w.heap.size ≤ fb → fb < W.heap.size → KF t.length g fc fb (fo0 t) (fun i => i < t.length) (sz t) (ndT t) kb false W → W.heap[fb]? = some (.cells #[.slice (some ⟨g, 0, none⟩) t.length fc, .int .i64 (t.length : Int), .bool false] 76 (0, 0)) →
      Calls Try.prog 48 #[.pointer (some ⟨fb, 0, none⟩), .agg #[.int .i64 op, .slice oa on oc, .slice wa wn wc, .string ⟨#[]⟩, .string ⟨#[]⟩, .slice none 0 0]] W (StepRes t.length g fc fb Good W)) :
    Calls Try.prog 30 #[.slice ad t.length c, .slice (some ⟨sb, 0, none⟩) 1 1] w (ChangedPost t Good w) := by
  have HH := Lib.hid h
  have HSt := Lib.hid hstep
  have HSb := Lib.hid hs
  have hsl : sb < w.heap.size := (Array.getElem?_eq_some_iff.1 hs).1
  have HQ : Hid (∀ W, Below w.heap.size w W → W.cell? ⟨sb, 0, none⟩ = some (.int .i64 op) ∧ W.cell? ⟨sb, 1, none⟩ = some (.slice oa on oc) ∧ W.cell? ⟨sb, 2, none⟩ = some (.slice wa wn wc) ∧ W.cell? ⟨sb, 3, none⟩ = some (.string ⟨#[]⟩) ∧ W.cell? ⟨sb, 4, none⟩ = some (.string ⟨#[]⟩) ∧ W.cell? ⟨sb, 5, none⟩ = some (.slice none 0 0)) := by
    intro W hb
    have q := (hb.block _ hsl).trans hs
    exact ⟨by rw [cell_of_row W _ _ _ _ _ q]; rfl, by rw [cell_of_row W _ _ _ _ _ q]; rfl, by rw [cell_of_row W _ _ _ _ _ q]; rfl, by rw [cell_of_row W _ _ _ _ _ q]; rfl, by rw [cell_of_row W _ _ _ _ _ q]; rfl, by rw [cell_of_row W _ _ _ _ _ q]; rfl⟩
  clear h hstep hs
  go_enter Try.func30, Try.ntmps30
  go_wp2_with fail
  refine (right_any _ _ t _ HH.out hf).mono ?_
  rintro e w1 ⟨b, rfl, hR, hb1⟩
  have HB1 := Lib.hid hb1
  have HR0 := Lib.hid hR
  clear hb1 hR
  cases b
  · go_wp2_with fail
    go_ret3
    exact ⟨_, _, _, _, _, _, false, rfl, by simp, HB1.out⟩
  have HR := Lib.hid (HR0.out rfl)
  have hle := HR.out.le
  have hpos := HR.out.pos
  clear HR0
  go_wp2_with fail
  refine (kgrown_any _ _ t HR.out _ (HH.out.up HB1.out)).mono ?_
  rintro e w2 ⟨rfl, kb, g, fc, hK, hfst, hrow, hb2⟩
  have hKF : KF t.length g fc w1.heap.size (fo0 t) (fun i => i < t.length) (sz t) (ndT t) kb false w2 := by
    refine ⟨fo0_ok HR.out, ⟨fun i hi => ?_, hK.inj⟩, fun i hi => ?_, fun i hi => hi, ⟨_, hfst⟩, hrow, ?_⟩
    · obtain ⟨hB, aa, ac, ka, kc, h1, h2, h3⟩ := hK.node i hi
      refine ⟨hB, aa, ac, ka, kc, ?_, h2, h3⟩
      have e : (if i < t.length then (i : Int) else -1) = (i : Int) := if_pos hi
      show w2.heap[kb i]? = some (.cells (knCells kb _ _ (if i < t.length then (i : Int) else -1) aa ac _ ka kc) _ _)
      rw [e]; exact h1
    · unfold ndT; rw [getD_at hi]
      exact (HH.out.2.1 _ (List.getElem_mem hi)).ndb
    · rw [fo0_all HR.out _ _ (Nat.le_refl _) hpos, List.length_range', HR.out.top]; omega
  have HB2 := Lib.hid (bnext HB1.out hb2)
  have HS2 := Lib.hid (HSt.out HR.out w2 kb g fc w1.heap.size HB2.out HB1.out.size (Array.getElem?_eq_some_iff.1 hfst).1 hKF hfst)
  have HK0 := Lib.hid hKF
  obtain ⟨z0, z1, z2, z3, z4, z5⟩ := HQ.out w2 HB2.out
  have HW1 := Lib.hid HB1.out.size
  clear hK hfst hrow hb2 hKF
  go_wp2_with fail
  go_loopw [8] (fun x wr => (x = .int .i64 0 ∧ wr = w2) ∨ (x = .int .i64 1 ∧ ∃ F S h nd kb, KF t.length g fc w1.heap.size F S h nd kb false wr ∧ Good F S h nd ∧ Below w.heap.size w wr)) (fun x _ => (1 - intOf x).toNat)
  case atStart => exact .inl ⟨rfl, rfl⟩
  case round =>
    rcases hrel with ⟨rfl, rfl⟩ | ⟨rfl, F, S, h, nd, kb2, hKF, hGood, hbw⟩
    · go_wp2_with fail
      refine HS2.out.mono ?_
      rintro e w3 ⟨b3, rfl, hyes, hb3⟩
      have HB3 : Hid (Below w.heap.size w w3) := HB2.out.trans (hb3.mono HW1.out)
      have HY := Lib.hid hyes
      clear hb3 hyes
      cases b3
      · go_wp2_with fail
        go_ret3
        exact ⟨_, _, _, _, _, _, false, rfl, by simp, HB3.out⟩
      obtain ⟨F, S, h, nd, kb2, op2, hKF, hGood⟩ := HY.out rfl
      obtain ⟨many, hm⟩ := hKF.fst
      have f2 : w3.cell? ⟨w1.heap.size, 2, none⟩ = some (.bool op2) := by rw [cell_of_row w3 _ 2 _ _ _ hm]; rfl
      have HKF := Lib.hid hKF
      have HGd := Lib.hid hGood
      clear hKF hGood hm
      cases op2
      · go_wp2_with fail
        go_roundw
        case rel => exact .inr ⟨by go_num, F, S, h, nd, kb2, HKF.out, HGd.out (by trivial), HB3.out⟩
        case measure => simp [intOf]
      · go_wp2_with fail
        go_ret3
        exact ⟨_, _, _, _, _, _, false, rfl, by simp, HB3.out⟩
    · clear z0 z1 z2 z3 z4 z5
      have hmk := run_make_row' (P := Try.prog) 23 3 (.int .i64 0) 8 Try.underlying23 Try.info3 rfl .i64 .i64 t.length (by omega) (by omega)
      have HKF := Lib.hid hKF
      have HGd := Lib.hid hGood
      have HBw := Lib.hid hbw
      clear hKF hGood hbw
      go_wp2_with fail
      obtain ⟨W0, rfl⟩ : ∃ W0 : World, W0 = wr := ⟨_, rfl⟩
      have HA0 : Hid (AtRow W0.heap.size t.length (fun j => if j < 0 then -1 else 0) (W0.alloc (Obj.cells (madeCells #[Value.int IntKind.i64 0] t.length) 3))) := by
        refine ⟨_, heap_alloc_new _ _, by simp [size_madeCells], fun j hj => ?_⟩
        show _ = some (Value.int .i64 (if j < 0 then -1 else 0))
        rw [if_neg (by omega)]; exact made_get _ _ _ hj
      have HBA : Hid (Below W0.heap.size W0 (W0.alloc (Obj.cells (madeCells #[Value.int IntKind.i64 0] t.length) 3))) := (Below.refl _ _).alloc (Nat.le_refl _) _
      have HSA : (W0.alloc (Obj.cells (madeCells #[Value.int IntKind.i64 0] t.length) 3)).heap.size = W0.heap.size + 1 := by show (Array.push _ _).size = _; rw [Array.size_push]
      have HSA2 := Lib.hid HSA
      clear HSA hmk
      go_loopw [10] (fun x W => ∃ j : Nat, j ≤ t.length ∧ x = .int .i64 j ∧ Hid (Below W0.heap.size W0 W) ∧ Hid (W.heap.size = W0.heap.size + 1) ∧ Hid (AtRow W0.heap.size t.length (fun k => if k < j then -1 else 0) W)) (fun x _ => t.length - (intOf x).toNat)
      case atStart => exact ⟨0, by omega, rfl, HBA, HSA2, HA0⟩
      case round =>
        obtain ⟨j, hj, rfl, HBj, HSj, HAj⟩ := hrel
        by_cases hjn : j < t.length
        · obtain ⟨cur, hc1, hc2, hc3⟩ := HAj.out
          have hcell : wr.cell? ⟨W0.heap.size, j, none⟩ = some (.int .i64 0) := by
            rw [cell_of_row wr _ j _ _ _ hc1, hc3 j hjn]; show some (Value.int .i64 (if j < j then -1 else 0)) = _; rw [if_neg (by omega)]
          have hfz := frozen_of_row wr W0.heap.size j _ _ hc1
          clear hc1 hc2 hc3
          go_wp2_with fail
          go_roundw
          case rel =>
            refine ⟨j + 1, by omega, rfl, HBj.out.setCell (p := ⟨W0.heap.size, j, none⟩) (Nat.le_refl _) _, ?_, ?_⟩
            · have h5 : (wr.setCell ⟨W0.heap.size, j, none⟩ (.int .i64 (-1))).heap.size = W0.heap.size + 1 := by have := HSj.out; simpa [World.setCell] using this
              exact h5
            · obtain ⟨cur, hc1, hc2, hc3⟩ := HAj.out
              refine ⟨cur.setIfInBounds j (.int .i64 (-1)), heap_setCell_same wr _ j _ _ _ hc1, by simpa using hc2, fun k hk => ?_⟩
              by_cases e : k = j
              · subst e
                show _ = some (Value.int .i64 (if k < k + 1 then -1 else 0))
                rw [if_pos (by omega)]
                simp [show k < cur.size by omega]
              · rw [Array.getElem?_setIfInBounds_ne (Ne.symm e), hc3 k hk]
                show some (Value.int .i64 (if k < j then -1 else 0)) = some (Value.int .i64 (if k < j + 1 then -1 else 0))
                by_cases hkj : k < j
                · rw [if_pos hkj, if_pos (by omega)]
                · rw [if_neg hkj, if_neg (by omega)]
          case measure => simp [intOf]; omega
        · have ej : j = t.length := by omega
          subst ej
          obtain ⟨W1, rfl⟩ : ∃ W1 : World, W1 = wr := ⟨_, rfl⟩
          have hKF := HKF.out.up HBj.out
          obtain ⟨kd, hkd, hke⟩ := hKF.kno.data
          obtain ⟨many, hm⟩ := hKF.fst
          have HKe := Lib.hid hke
          have HKF1 := Lib.hid hKF
          have HKD := Lib.hid hkd
          have f0 : W1.cell? ⟨w1.heap.size, 0, none⟩ = some (.slice (some ⟨g, 0, none⟩) t.length fc) := by rw [cell_of_row W1 _ 0 _ _ _ hm]; rfl
          have f1 := hKF.elem hpos
          have HLi := Lib.hid (listed_any hKF.ok t.length W0.heap.size (fun i _ => rfl) (by omega) (h 0 + 1) 0 (.slice none 0 0) [] _ W1 (by omega) (hKF.sub 0 hpos) hkd (Nat.le_of_lt (Array.getElem?_eq_some_iff.1 hm).1) ⟨by simp [flat5], .inl ⟨rfl, rfl⟩⟩ HAj.out (by have := hKF.len; simpa using this) ⟨_, _, rfl⟩)
          clear hKF hkd hke hm
          have HF : Hid (∀ e W2, ListedPost F h kd t.length w1.heap.size W0.heap.size 0 [] (fun k => if k < t.length then -1 else 0) (.slice none 0 0) W1 e W2 → ∃ a m c, e = .returned (.slice a m c) ∧ ChangedPost t Good w (.returned (.tuple #[.slice a m c, .slice (some ⟨W0.heap.size, 0, none⟩) t.length t.length, .bool true])) W2) := by
            rintro e W2 ⟨a', c', rfl, hown, _, hA, hl⟩
            refine ⟨_, _, _, rfl, _, _, _, _, _, _, _, rfl, fun _ => ⟨HR.out, F, S, h, nd, HGd.out, ?_, rfl, ?_⟩, ?_⟩
            · have o := HKF1.out.ok
              have hS : ∀ y, y ∈ F.all h 0 → S y := fun y hy => o.all_mem (HKF1.out.sub 0 hpos) hy
              refine ⟨(F.all h 0).map (entOf F h kd), by simp, nsl_own (by simpa using hown) ?_ ?_, ?_⟩
              · have := HKF1.out.len
                simp [maxLen]; omega
              · intro x hx
                obtain ⟨y, hy, rfl⟩ := List.mem_map.1 hx
                obtain ⟨aa, ac, e⟩ := HKe.out y (hS y hy)
                have b := HKF1.out.ndb y (hS y hy)
                obtain ⟨cur3, hc3, _⟩ := HAj.out
                obtain ⟨_, _, _, _, hA, _⟩ := (HKD.out.lturn (v := .slice none 0 0) (n := 0) (xs := []) hl ⟨by simp, .inl ⟨rfl, rfl⟩⟩ hc3).node y (hS y hy)
                have hal : (F.all h y).length ≤ 100000 := Nat.le_trans (all_sub_len o _ (Nat.le_refl _) hy) HKF1.out.len
                have hat : ASl W2 W2.heap.size (kd y).aa (kd y).attrs := asl_own2 hA (by rw [e]; exact b.len) (by rw [e]; exact b.ats)
                refine ⟨?_, ⟨?_, ?_⟩, ?_, ?_, hat⟩
                · show _ ≤ (kd y).kind ∧ (kd y).kind ≤ _; rw [e]; exact b.kind
                · show _ ≤ ((F.all h y).length : Int); omega
                · show ((F.all h y).length : Int) ≤ _; omega
                · show (kd y).tag.size ≤ _; rw [e]; exact b.tag
                · show (kd y).text.size ≤ _; rw [e]; exact b.text
              · unfold outL
                rw [List.map_map]
                refine List.map_congr_left fun y hy => ?_
                obtain ⟨aa, ac, e⟩ := HKe.out y (hS y hy)
                show strip { kd y with size := _ } = _
                rw [e]; rfl
            · have e1 := atrow_rsl hA
              have e2 : (List.range t.length).map (atF (F.all h 0) ([] : List Nd).length (fun k => if k < t.length then -1 else 0)) = placeL F h t.length := by
                unfold placeL
                refine List.map_congr_left fun j hj => ?_
                unfold atF
                have e4 : (fun k => if k < t.length then (-1 : Int) else 0) j = -1 := if_pos (List.mem_range.1 hj)
                rw [e4]; rfl
              rw [e2] at e1
              exact e1
            · have hb := bnext HBw.out HBj.out
              refine ⟨hl.os.trans hb.os, hl.tape.trans hb.tape, hl.output.trans hb.output, Nat.le_trans hb.size hl.size, fun b h1 => ?_⟩
              have := HBw.out.size
              rw [hl.block b (by have := hb.size; omega) (by simp [Value.ownBlock]) (by omega)]
              exact hb.block b h1
          go_wp2_with fail
          refine HLi.out.mono ?_
          intro e W2 hp
          obtain ⟨a', m', c', rfl, hP⟩ := HF.out e W2 hp
          have HP := Lib.hid hP
          clear hp hP
          go_wp2_with fail
          go_ret3
          exact HP.out
end Go.Proofs.Ytmhhfljbocbolaa

namespace Go.Proofs.Ytmhhfljbocbolaa
open Go.RowKit
set_option linter.unusedVariables false

def InsP (n : Nat) (F0 : Fo) (nd0 : Nat → Nd) (op : Int) (l l2 : List Int) (xs ws : List Nat) : Prop :=
  ChoP n l xs ∧ xs ≠ [] ∧ ChoP n l2 ws ∧ ws ≠ [] ∧ Apart F0 ws xs ∧ (op ≠ 4 → ∀ x ∈ xs, (nd0 x).kind = 3) ∧ (op = 4 → ∀ x ∈ xs, F0.par x ≠ none)

def insE (op : Int) (t : List Nd) (xs ws : List Nat) : FoS := insN op ⟨fo0 t, t.length, ndT t, false⟩ xs ws xs.length

def InsG (t : List Nd) (op : Int) (l l2 : List Int) (F : Fo) (S : Nat → Prop) (h : Nat → Nat) (nd : Nat → Nd) : Prop :=
  ∃ xs ws, InsP t.length (fo0 t) (ndT t) op l l2 xs ws ∧ F = (insE op t xs ws).F ∧ nd = (insE op t xs ws).nd ∧ (insE op t xs ws).op = false ∧ F.Ok (fun i => i < (insE op t xs ws).N) h

theorem sz_le {t : List Nd} (hR : RightP t) {i : Nat} (hi : i < t.length) : sz t i ≤ 200 := by
  have := (hR.lam i (Nat.zero_le _) hi).2.2.1
  have := hR.le; omega

theorem nd_small {t : List Nd} (hR : RightP t) {i : Nat} (hi : i < t.length) : (ndT t i).attrs.length ≤ 1000 := by
  have e : ndT t i = t[i] := getD_at hi
  have n := hR.node i hi
  rw [e]
  by_cases hk : t[i].kind = 3
  · rcases n.kinds with h | h | h | h
    · omega
    · omega
    · have := h.2.len; omega
    · omega
  · have := (n.tag hk).2; omega

theorem ins_inv {t : List Nd} (hR : RightP t) {op : Int} (hop : op = 1 ∨ op = 2 ∨ op = 4) {l l2 : List Int} {xs ws : List Nat} (hP : InsP t.length (fo0 t) (ndT t) op l l2 xs ws) : ∀ i, i < xs.length → ∃ h', Inv t.length (fo0 t) (sz t) (ndT t) op xs ws (insN op ⟨fo0 t, t.length, ndT t, false⟩ xs ws i) h' ∧ (insN op ⟨fo0 t, t.length, ndT t, false⟩ xs ws i).N ≤ 800 + i * ws.length := by
  obtain ⟨hx, hne, hw, hwe, hA, hk, hp⟩ := hP
  have o0 := fo0_ok hR
  refine insN_inv (h := sz t) hop o0 hR.le ⟨o0, Nat.le_refl _, fun _ _ _ _ => ⟨rfl, rfl⟩, fun x hx y hy => ?_, hp, fun y hy => ⟨y, hy, rfl⟩⟩ (fun w h => ⟨(hw.rng w h).2, sz_le hR (hw.rng w h).2⟩) (fun x h => (hx.rng x h).2) (by show t.length ≤ 800; have := hR.le; omega)
  obtain ⟨i, hi, rfl⟩ := List.getElem_of_mem hx
  obtain ⟨j, hj, rfl⟩ := List.getElem_of_mem hy
  exact hA.2 i j hi hj

theorem ins_final {t : List Nd} (hR : RightP t) {op : Int} (hop : op = 1 ∨ op = 2 ∨ op = 4) {l l2 : List Int} {xs ws : List Nat} (hP : InsP t.length (fo0 t) (ndT t) op l l2 xs ws) :
    ∃ h', (insE op t xs ws).F.Ok (fun i => i < (insE op t xs ws).N) h' ∧ t.length ≤ (insE op t xs ws).N ∧ (insE op t xs ws).N ≤ 40800 ∧ ∀ y, y < (insE op t xs ws).N → ∃ z, z < t.length ∧ (insE op t xs ws).nd y = ndT t z := by
  have hl : 0 < xs.length := List.length_pos_iff.2 hP.2.1
  obtain ⟨h', I, hb⟩ := ins_inv hR hop hP (xs.length - 1) (by omega)
  obtain ⟨hx, hne, hw, hwe, hA, hk, hp⟩ := hP
  have hle := hR.le
  have hxl : xs.length ≤ 200 := by have := nodup_len hx.nodup (fun x h => (hx.rng x h).2); omega
  have hwl : ws.length ≤ 200 := by have := nodup_len hw.nodup (fun x h => (hw.rng x h).2); omega
  have e : insE op t xs ws = insOne op true (insN op ⟨fo0 t, t.length, ndT t, false⟩ xs ws (xs.length - 1)) (xs[xs.length - 1]'(by omega)) ws := by
    have e1 : xs.length = (xs.length - 1) + 1 := by omega
    show insN op _ xs ws xs.length = _
    conv => lhs; rw [e1]
    show insOne op (decide (xs.length - 1 + 1 = xs.length)) _ (xs.getD (xs.length - 1) 0) ws = _
    rw [decide_eq_true (by omega : xs.length - 1 + 1 = xs.length), List.getD_eq_getElem?_getD, List.getElem?_eq_getElem (by omega), Option.getD_some]
  obtain ⟨h2, k1, k2, k3, k4⟩ := inv_last hop I hw.nodup (fun w h => (hw.rng w h).2) (fun x h => (hx.rng x h).2) (List.getElem_mem (show xs.length - 1 < xs.length by omega))
  rw [← e] at k1 k2 k3
  have h9 : (xs.length - 1) * ws.length ≤ 200 * 200 := Nat.mul_le_mul (by omega) hwl
  exact ⟨h2, k1, by rw [k2]; exact I.le, by rw [k2]; omega, fun y hy => by rw [k3]; exact I.nds y (by rw [← k2]; exact hy)⟩

theorem step_ins {op : Int} (hop : op = 1 ∨ op = 2 ∨ op = 4) {n : Nat} {F0 : Fo} {h0 : Nat → Nat} {nd0 : Nat → Nd} (o0 : F0.Ok (fun i => i < n) h0) (hn : n ≤ 200) (hnb : ∀ i, i < n → NdB (nd0 i) ∧ (nd0 i).attrs.length ≤ 1000) (hh : ∀ i, i < n → h0 i ≤ 200) {g fc fb : Nat} {kb : Nat → Nat} {w : World} (hR : RS n g fc fb kb w ⟨F0, n, nd0, false⟩ kb w) (hfw : fb ≤ w.heap.size)
    (hrow : w.ownsRow fb 77 1 (.slice (some ⟨g, 0, none⟩) n fc) n (ptrs kb (List.range n))) (ad : Option Addr) (c : Nat) (l : List Int) (hl : l.length ≤ 2147483647) (hi : ISl w w.heap.size ad l) (ad2 : Option Addr) (c2 : Nat) (l2 : List Int) (hl2 : l2.length ≤ 2147483647) (hi2 : ISl w w.heap.size ad2 l2) :
    Calls Try.prog 48 #[.pointer (some ⟨fb, 0, none⟩), .agg #[.int .i64 op, .slice ad l.length c, .slice ad2 l2.length c2, .string ⟨#[]⟩, .string ⟨#[]⟩, .slice none 0 0]] w
      (StepIns n g fc fb kb op F0 nd0 l l2 w) := by
  rcases hop with rfl | rfl | rfl
  · exact step_1 o0 hn hnb hh hR hfw hrow ad c l hl hi ad2 c2 l2 hl2 hi2
  · exact step_2 o0 hn hnb hh hR hfw hrow ad c l hl hi ad2 c2 l2 hl2 hi2
  · exact step_4 o0 hn hnb hh hR hfw hrow ad c l hl hi ad2 c2 l2 hl2 hi2

theorem changedIns_any (op : Int) (hop : op = 1 ∨ op = 2 ∨ op = 4) (ad : Option Addr) (c : Nat) (t : List Nd) (hf : fits1 t = true) (w : World) (h : NSl w w.heap.size ad t) (sb : Nat) (oa : Option Addr) (oc : Nat) (l : List Int) (hl : l.length ≤ 2147483647) (hi : ISl w w.heap.size oa l) (wa : Option Addr) (wc : Nat) (l2 : List Int) (hl2 : l2.length ≤ 2147483647) (hi2 : ISl w w.heap.size wa l2)
    (hs : w.heap[sb]? = some (.cells #[.int .i64 op, .slice oa l.length oc, .slice wa l2.length wc, .string ⟨#[]⟩, .string ⟨#[]⟩, .slice none 0 0] 27 (0, 0))) :
    Calls Try.prog 30 #[.slice ad t.length c, .slice (some ⟨sb, 0, none⟩) 1 1] w (ChangedPost t (InsG t op l l2) w) := by
  refine changedM_any ad c t hf w h sb op oa l.length oc wa l2.length wc hs (InsG t op l l2) ?_
  intro hR W kb g fc fb hb hfb hfb2 hKF hm
  have hRS : RS t.length g fc fb kb W ⟨fo0 t, t.length, ndT t, false⟩ kb W := ⟨hKF.kno, hm, fun _ _ => rfl, fun y h1 h2 => absurd (show y < t.length from h2) (by omega), KTurn.refl _ _ _⟩
  refine (step_ins hop (fo0_ok hR) hR.le (fun i hi => ⟨hKF.ndb i hi, nd_small hR hi⟩) (fun i hi => sz_le hR hi) hRS (Nat.le_of_lt hfb2) hKF.row oa oc l hl (hi.up hb) wa wc l2 hl2 (hi2.up hb)).mono ?_
  rintro e W' ⟨b, rfl, hyes, hk⟩
  refine ⟨b, rfl, fun e => ?_, hk⟩
  obtain ⟨xs, ws, p1, p2, p3, p4, p5, p6, p7, kb', W1, R, hrow⟩ := hyes e
  have hP : InsP t.length (fo0 t) (ndT t) op l l2 xs ws := ⟨p1, p2, p3, p4, p5, p6, p7⟩
  obtain ⟨h', ok, k1, k2, k3⟩ := ins_final hR hop hP
  refine ⟨(insE op t xs ws).F, fun i => i < (insE op t xs ws).N, h', (insE op t xs ws).nd, kb', (insE op t xs ws).op, ⟨ok, R.kno, fun i hi => ?_, fun i hi => by omega, ⟨_, R.fst⟩, hrow, ?_⟩, fun e => ⟨xs, ws, hP, rfl, rfl, e, ok⟩⟩
  · obtain ⟨z, hz, e⟩ := k3 i hi
    rw [e]; exact hKF.ndb z hz
  · have := all_bound ok (n := (insE op t xs ws).N) (x := 0) (fun i hi => hi) (by have := hR.pos; omega)
    omega

theorem insG_det {t : List Nd} {op : Int} {l l2 : List Int} {xs ws : List Nat} (hP : InsP t.length (fo0 t) (ndT t) op l l2 xs ws) {h : Nat → Nat} (ok : (insE op t xs ws).F.Ok (fun i => i < (insE op t xs ws).N) h) : Det t.length (InsG t op l l2) (insE op t xs ws).F h (insE op t xs ws).nd := by
  rintro F' S' h' nd' ⟨xs', ws', hP', rfl, rfl, _, ok'⟩
  have e1 : xs' = xs := toI_inj (hP'.1.eq.symm.trans hP.1.eq)
  have e2 : ws' = ws := toI_inj (hP'.2.2.1.eq.symm.trans hP.2.2.1.eq)
  subst e1 e2
  have e3 : (insE op t xs' ws').F.all h' = (insE op t xs' ws').F.all h := funext fun x => Fo.all_indep ok' ok _ x (Nat.le_refl _)
  constructor
  · unfold outL; rw [e3]
  · unfold placeL; rw [e3]
end Go.Proofs.Ytmhhfljbocbolaa

namespace Go.Proofs.Ytmhhfljbocbolaa
open Go.RowKit
set_option linter.unusedVariables false

theorem run_copy_rowZ (P : Program) (w : World) (dT sT ty elem : TypeId) (z g dLen dCap : Nat) (a : Addr) (sLen sCap n : Nat) (cur : Array Value) (t : TypeId) (cs : List Value)
    (hu : P.underlying dT = some (.slice elem)) (hs : (P.info? elem).map (·.size) = some z)
    (hg : w.heap[g]? = some (.cells cur t (0, 0))) (hn : n = Nat.min sLen dLen) (hcs : cs.length = n * z)
    (hsrc : ∀ j v, cs[j]? = some v → w.cell? (a.add j) = some v) (hfit : cs.length ≤ cur.size) (h1 : ∀ v ∈ cs, v.oneCell' = true) :
    (Builtin.copy_ #[dT, sT] ty #[.slice (some ⟨g, 0, none⟩) dLen dCap, .slice (some a) sLen sCap]).run P w =
      .ok (goInt n) (w.setRow g (cs ++ cur.toList.drop cs.length).toArray) := by
  have hl := run_loadCells_list (P := P) w a cs hsrc
  have hst := run_storeCells_at P g 0 t cs 0 cur w hg (by simpa using hfit) h1
  cases hq : P.info? elem with
  | none => simp [hq] at hs
  | some i =>
    have hi : i.size = z := by simpa [hq] using hs
    rw [hcs] at hl
    simp [Builtin.copy_, run_underlying hu, Builtin.lenOf, Builtin.firstCells, sizeOf, typeInfo, hq, hi, ← hn, hl, hst]

theorem run_copy_empty (P : Program) (w : World) (dT sT ty elem : TypeId) (z : Nat) (dp : Option Addr) (dCap : Nat) (sp : Option Addr) (sCap : Nat)
    (hu : P.underlying dT = some (.slice elem)) (hs : (P.info? elem).map (·.size) = some z) :
    (Builtin.copy_ #[dT, sT] ty #[.slice dp 0 dCap, .slice sp 0 sCap]).run P w = .ok (goInt 0) w := by
  cases hq : P.info? elem with
  | none => simp [hq] at hs
  | some i =>
    have hl := fun a : Addr => run_loadCells_list (P := P) w a [] (fun j v h => by simp at h)
    cases dp <;> cases sp <;> simp [Builtin.copy_, run_underlying hu, Builtin.lenOf, Builtin.firstCells, sizeOf, typeInfo, hq, storeCells]
    all_goals first | rfl | (have := hl ‹Addr›; simp only [List.length_nil] at this; simp [this, storeCells]) 

theorem step_copyZ {P : Program} {ops : Array Oper} {o : Oper} {a : Act} {w w' : World} {K : Act → World → Prop} {Q : Exit → Act → World → Prop} {E : Prop} (hgd : o.guard = none) (d s : Operand) (dT sT : TypeId)
    (ho : o.op = .call { callee := .builtin .copy, args := #[d, s], argTypes := #[dT, sT] }) (dv sv v : Value) (hd : a.eval d = dv) (hs : a.eval s = sv) (hrun : (Builtin.copy_ #[dT, sT] o.type #[dv, sv]).run P w = .ok v w') (h : K (a.put o.dst v) w') :
    if Region.wanted o (yielded ops a.tmps) = true then Oper.wp P o a w K Q else E := by
  have hw : Region.wanted o (yielded ops a.tmps) = true := by simp [Region.wanted, hgd]
  rw [if_pos hw]
  unfold Oper.wp
  simp [execOp, ho, resolve, invoke, builtin, hd, hs, hrun, Result.andThen]
  exact h

theorem oneA (l : List At2) : ∀ u ∈ flatA l, u.oneCell' = true := by
  intro u hu
  obtain ⟨x, _, hx⟩ := List.mem_flatMap.1 hu
  simp only [List.mem_cons, List.not_mem_nil, or_false] at hx
  rcases hx with rfl | rfl | rfl <;> rfl
theorem flatA_length (l : List At2) : (flatA l).length = l.length * 3 := by
  induction l with
  | nil => rfl
  | cons a l ih => simp only [flatA, List.flatMap_cons, List.length_append, List.length_cons, List.length_nil] at ih ⊢; omega

/-- The attributes, copied into a new row. -/
theorem copyA {w : World} {B base g ac : Nat} {aa : Option Addr} {l : List At2} {cur : Array Value} (ty : TypeId) (ho : w.ownsRow B 143 3 (.slice aa l.length ac) l.length (flatA l)) (hg : w.heap[g]? = some (.cells cur 143 (0, 0))) (hc : cur.size = l.length * 3) (hne : (Value.slice aa l.length ac).ownBlock ≠ some g) (hbase : base ≤ g) (hm : l.length ≤ maxLen) :
    ∃ w3, (Builtin.copy_ #[87, 87] ty #[.slice (some ⟨g, 0, none⟩) l.length l.length, .slice aa l.length ac]).run Try.prog w = .ok (goInt l.length) w3 ∧ w3.ownsRow base 143 3 (.slice (some ⟨g, 0, none⟩) l.length l.length) l.length (flatA l) ∧
      w3.os = w.os ∧ w3.tape = w.tape ∧ w3.output = w.output ∧ w3.heap.size = w.heap.size ∧ ∀ b, b ≠ g → w3.heap[b]? = w.heap[b]? := by
  obtain ⟨i0, hinf, hz0, hz1, hz2⟩ := info_parts Try.infoA
  have hs : (Try.prog.info? 143).map (·.size) = some 3 := by rw [hinf]; simp [hz1]
  have hlen := flatA_length l
  rcases ho.2 with ⟨e, e2⟩ | ⟨g', cap, cur', e, _, hh, hcap, _, hsz, htk⟩
  · have hl0 : l = [] := List.eq_nil_of_length_eq_zero e2
    subst hl0
    refine ⟨w, run_copy_empty Try.prog w _ _ ty _ 3 _ _ _ _ Try.underlying87 hs, ⟨by simp [flatA], .inr ⟨g, 0, cur, rfl, hbase, hg, Nat.le_refl _, by simp [maxLen], by rw [hc]; rfl, by simp [flatA]⟩⟩, rfl, rfl, rfl, rfl, fun _ _ => rfl⟩
  · injection e with e1 _ e3
    subst e1
    have hrun := run_copy_rowZ Try.prog w 87 87 ty 143 3 g l.length l.length ⟨g', 0, none⟩ l.length ac l.length cur 143 (flatA l) Try.underlying87 hs hg (by simp) hlen (fun j v hv => ho.cells (g := g') rfl j v hv) (by omega) (oneA l)
    refine ⟨_, hrun, ⟨hlen, .inr ⟨g, l.length, _, rfl, hbase, setRow_heap w g cur _ _ _ hg, Nat.le_refl _, hm, ?_, ?_⟩⟩, rfl, rfl, rfl, by simp [World.setRow], fun b hb => setRow_other w g b _ hb⟩
    · simp only [List.size_toArray, List.length_append, List.length_drop, Array.length_toList]; omega
    · show List.take (l.length * 3) (flatA l ++ cur.toList.drop (flatA l).length) = _
      rw [← hlen, List.take_left]

theorem nextIn_mem {c j : Nat} : ∀ {l : List Nat}, nextIn l c = some j → j ∈ l := by
  intro l
  induction l with
  | nil => intro h; cases h
  | cons a l ih =>
    intro h
    change (if a = c then l.head? else nextIn l c) = some j at h
    split at h
    · exact List.mem_cons_of_mem _ (List.mem_of_head? h)
    · exact List.mem_cons_of_mem _ (ih h)

theorem FitD.kin {F : Fo} {S : Nat → Prop} {ht : Nat → Nat} (o : F.Ok S ht) {i : Nat} {d : Dn} (h : FitD F i d) : (∀ j, d.par = some j → S j) ∧ (∀ j, d.fst = some j → S j) ∧ (∀ j, d.lst = some j → S j) ∧ (∀ j, d.prv = some j → S j) ∧ (∀ j, d.nxt = some j → S j) := by
  have hk : ∀ p j, j ∈ F.kids p → S j := fun p j hj => (o.dom p j ((o.mem p j).1 hj)).2
  refine ⟨fun j hj => ?_, fun j hj => ?_, fun j hj => ?_, fun j hj => ?_, fun j hj => ?_⟩
  · rw [h.par] at hj; exact (o.dom j i hj).1
  · rw [h.fst] at hj; exact hk i j (List.mem_of_head? hj)
  · rw [h.lst] at hj; exact hk i j (List.mem_of_getLast? hj)
  · cases hp : F.par i with
    | none => rw [(h.root hp).1] at hj; cases hj
    | some p => rw [(h.sib p hp).1] at hj; exact hk p j (List.mem_reverse.1 (nextIn_mem hj))
  · cases hp : F.par i with
    | none => rw [(h.root hp).2] at hj; cases hj
    | some p => rw [(h.sib p hp).2] at hj; exact hk p j (nextIn_mem hj)

def freshD (d : Dn) : Dn := ⟨none, none, none, none, none, d.typ, d.dat, d.ats⟩

theorem ptrTo_congr2 {bl bl' : Nat → Nat} {o : Option Nat} (h : ∀ j, o = some j → bl' j = bl j) : ptrTo bl' o = ptrTo bl o := by
  cases o with
  | none => rfl
  | some j => simp [ptrTo, h j rfl]

/-- One node more. -/
theorem Prog.fresh {s : FoS} {h : Nat → Nat} (o : s.F.Ok (fun i => i < s.N) h) {B : Nat} {bl : Nat → Nat} {st : Nat → Dn} {w : World} (hP : Prog s.F (fun i => i < s.N) s.nd B bl st w) {g : Nat} (hg : ∀ y, y < s.N → bl y ≠ g) (hB : B ≤ g) {x : Nat} (hx : x < s.N) {aa : Option Addr} {ac : Nat}
    (hh : w.heap[g]? = some (.cells #[.pointer none, .pointer none, .pointer none, .pointer none, .pointer none, .int .u32 (st x).typ, .int .u32 0, .string (st x).dat, .string ⟨#[]⟩, .slice aa (st x).ats.length ac] 89 (0, 0)))
    (ho : w.ownsRow B 143 3 (.slice aa (st x).ats.length ac) (st x).ats.length (flatA (st x).ats)) :
    Prog (s.fresh x).F (fun i => i < (s.fresh x).N) (s.fresh x).nd B (fun y => if y = s.N then g else bl y) (fun y => if y = s.N then freshD (st x) else st y) w := by
  have hf := fresh_none o (Nat.le_refl s.N)
  refine ⟨⟨fun i hi => ?_, fun i j hi hj e => ?_⟩, fun i hi => ?_, fun i hi => ?_⟩
  · by_cases e : i = s.N
    · subst e
      simp only [if_true]
      exact ⟨hB, aa, ac, hh, ho⟩
    · have hi2 : i < s.N := by have : i < s.N + 1 := hi; omega
      simp only [if_neg e]
      obtain ⟨hb, ba, bc, h1, h2⟩ := hP.dom.node i hi2
      obtain ⟨k1, k2, k3, k4, k5⟩ := (hP.fit i hi2).kin o
      have hc : ∀ {q : Option Nat}, (∀ j, q = some j → j < s.N) → ptrTo (fun y => if y = s.N then g else bl y) q = ptrTo bl q := fun hq => ptrTo_congr2 fun j hj => by have := hq j hj; show (if j = s.N then g else bl j) = bl j; rw [if_neg (by omega)]
      refine ⟨hb, ba, bc, ?_, h2⟩
      rw [h1]
      unfold dnCells
      rw [hc k1, hc k2, hc k3, hc k4, hc k5]
  · have hi2 : i < s.N + 1 := hi
    have hj2 : j < s.N + 1 := hj
    change (if i = s.N then g else bl i) = (if j = s.N then g else bl j) at e
    by_cases e1 : i = s.N
    · by_cases e2 : j = s.N
      · omega
      · rw [if_pos e1, if_neg e2] at e
        exact absurd e.symm (hg j (by omega))
    · by_cases e2 : j = s.N
      · rw [if_neg e1, if_pos e2] at e
        exact absurd e (hg i (by omega))
      · rw [if_neg e1, if_neg e2] at e
        exact hP.dom.inj i j (show i < s.N by omega) (show j < s.N by omega) e
  · by_cases e : i = s.N
    · subst e
      simp only [if_true]
      exact ⟨hf.1.symm, by show none = (s.F.kids s.N).head?; rw [hf.2]; rfl, by show none = (s.F.kids s.N).getLast?; rw [hf.2]; rfl, fun _ => ⟨rfl, rfl⟩, fun p hp => by change s.F.par s.N = some p at hp; rw [hf.1] at hp; cases hp⟩
    · have hi2 : i < s.N := by have : i < s.N + 1 := hi; omega
      simp only [if_neg e]
      exact hP.fit i hi2
  · by_cases e : i = s.N
    · subst e
      simp only [if_true]
      have := hP.self x hx
      show SelfOk (if s.N = s.N then s.nd x else s.nd s.N) _
      rw [if_pos rfl]
      exact ⟨this.typ, this.dat, this.ats⟩
    · have hi2 : i < s.N := by have : i < s.N + 1 := hi; omega
      simp only [if_neg e]
      show SelfOk (if i = s.N then s.nd x else s.nd i) _
      rw [if_neg e]
      exact hP.self i hi2
end Go.Proofs.Ytmhhfljbocbolaa

namespace Go.Proofs.Ytmhhfljbocbolaa
open Go.RowKit
set_option linter.unusedVariables false

def ClonePost (s s' : FoS) (B : Nat) (bl : Nat → Nat) (w : World) (e : Ending) (w' : World) : Prop :=
  ∃ (bl' : Nat → Nat) (st' : Nat → Dn), e = .returned (.pointer (some ⟨bl' s.N, 0, none⟩)) ∧ (∀ y, y < s.N → bl' y = bl y) ∧ Prog s'.F (fun i => i < s'.N) s'.nd B bl' st' w' ∧ (∀ y, s.N ≤ y → y < s'.N → w.heap.size ≤ bl' y) ∧ KTurn (fun i => i < s.N) bl w w'

structure ClL (d : Nat) (s : FoS) (x : Nat) (B : Nat) (bl : Nat → Nat) (w : World) (i : Nat) (bl2 : Nat → Nat) (st2 : Nat → Dn) (wr : World) : Prop where
  prog : Prog (cpK d s x i).F (fun y => y < (cpK d s x i).N) (cpK d s x i).nd B bl2 st2 wr
  old : ∀ y, y < s.N → bl2 y = bl y
  me : bl2 s.N = w.heap.size + 1
  new : ∀ y, s.N ≤ y → y < (cpK d s x i).N → w.heap.size ≤ bl2 y
  turn : KTurn (fun i => i < s.N) bl w wr

theorem kturn_ext {N N2 : Nat} {bl bl2 : Nat → Nat} {w wr w2 : World} (T : KTurn (fun i => i < N) bl w wr) (h : KTurn (fun i => i < N2) bl2 wr w2) (old : ∀ y, y < N → bl2 y = bl y) (new : ∀ y, N ≤ y → y < N2 → w.heap.size ≤ bl2 y) : KTurn (fun i => i < N) bl w w2 := by
  refine ⟨h.os.trans T.os, h.tape.trans T.tape, h.output.trans T.output, Nat.le_trans T.size h.size, fun b hb hn => ?_⟩
  rw [h.block b (Nat.lt_of_lt_of_le hb T.size) (fun i hi e => ?_)]
  · exact T.block b hb hn
  · by_cases hin : i < N
    · exact hn i hin (e.trans (old i hin))
    · have := new i (by omega) hi
      omega

theorem KTurn.of_only {S : Nat → Prop} {bl : Nat → Nat} {a b : World} (h : Only S bl a b) : KTurn S bl a b := ⟨h.os, h.tape, h.output, Nat.le_of_eq h.size.symm, fun q _ h2 => h.block q h2⟩

theorem cpK_op {d : Nat} {s : FoS} {h : Nat → Nat} (o : s.F.Ok (fun i => i < s.N) h) {x : Nat} (hx : x < s.N) (hd : h x ≤ d + 1) {i : Nat} (hi : i < (s.F.kids x).length) (hop : (cpK d s x (i + 1)).op = false) : (cpK d s x i).op = false ∧ (cpy d (cpK d s x i) (s.F.kids x)[i]).op = false := by
  rw [cpK_succ d s x hi] at hop
  have h2 : (cpy d (cpK d s x i) (s.F.kids x)[i]).op = false := hop
  refine ⟨?_, h2⟩
  obtain ⟨⟨h', eA⟩, -, -⟩ := cpK_ok o hx hd i (Nat.le_of_lt hi)
  have h1 := (o.mem x _).1 (List.getElem_mem hi)
  have h3 := o.ht _ _ h1
  have h4 := (o.dom _ _ h1).2
  obtain ⟨hb, eB⟩ := cpy_ok d (cpK d s x i) h' (s.F.kids x)[i] eA.ok (by have := eA.lt; omega) (by rw [eA.hold _ h4]; omega)
  cases e : (cpK d s x i).op with
  | false => rfl
  | true => rw [eB.op e] at h2; cases h2

theorem cpK_ops {d : Nat} {s : FoS} {h : Nat → Nat} (o : s.F.Ok (fun i => i < s.N) h) {x : Nat} (hx : x < s.N) (hd : h x ≤ d + 1) (hop : (cpK d s x (s.F.kids x).length).op = false) : ∀ k i, i + k = (s.F.kids x).length → (cpK d s x i).op = false := by
  intro k
  induction k with
  | zero => intro i hi; have : i = (s.F.kids x).length := by omega
            rw [this]; exact hop
  | succ k ih =>
    intro i hi
    exact (cpK_op o hx hd (by omega) (ih (i + 1) (by omega))).1

/-- One kid's copy is appended. -/
theorem cl_step {d : Nat} {s : FoS} {h : Nat → Nat} (o : s.F.Ok (fun i => i < s.N) h) {x : Nat} (hx : x < s.N) (hd : h x ≤ d + 1) {B : Nat} {bl : Nat → Nat} {w : World} {i : Nat} {bl2 : Nat → Nat} {st2 : Nat → Dn} {wr : World}
    (H : ClL d s x B bl w i bl2 st2 wr) (hi : i < (s.F.kids x).length) {e : Ending} {w2 : World} (P : ClonePost (cpK d s x i) (cpy d (cpK d s x i) (s.F.kids x)[i]) B bl2 wr e w2) :
    ∃ g2, e = .returned (.pointer (some ⟨g2, 0, none⟩)) ∧ Calls Try.prog 60 #[.pointer (some ⟨w.heap.size + 1, 0, none⟩), .pointer (some ⟨g2, 0, none⟩)] w2 (fun e w3 => e = .returned (.tuple #[]) ∧ ∃ bl3 st3, ClL d s x B bl w (i + 1) bl3 st3 w3) := by
  obtain ⟨bl3, st3, rfl, hold, hP, hnew, hT⟩ := P
  obtain ⟨⟨hi', eA⟩, hlen, -⟩ := cpK_ok o hx hd i (Nat.le_of_lt hi)
  have h1 := (o.mem x _).1 (List.getElem_mem hi)
  have h3 := o.ht _ _ h1
  have h4 := (o.dom _ _ h1).2
  have hkA : (s.F.kids x)[i] < (cpK d s x i).N := by have := eA.lt; omega
  obtain ⟨hb', eB⟩ := cpy_ok d (cpK d s x i) hi' _ eA.ok hkA (by rw [eA.hold _ h4]; omega)
  have hsucc := cpK_succ d s x hi
  obtain ⟨b, hb⟩ : ∃ b, b = cpy d (cpK d s x i) (s.F.kids x)[i] := ⟨_, rfl⟩
  rw [← hb] at hP eB hsucc hnew
  have hsa := eA.lt
  have hab := eB.lt
  have hme3 : bl3 s.N = w.heap.size + 1 := (hold _ hsa).trans H.me
  refine ⟨bl3 (cpK d s x i).N, rfl, ?_⟩
  rw [← hme3]
  refine (appendP_any eB.ok w2 B bl3 st3 hP s.N (cpK d s x i).N (show s.N < b.N by omega) (show (cpK d s x i).N < b.N by omega) eB.root (by omega)).mono ?_
  rintro e w3 ⟨rfl, ⟨st4, hP4⟩, hO⟩
  refine ⟨rfl, bl3, st4, ?_⟩
  have hz : s.N ∉ b.F.kids s.N := fun hm => by have := eB.ok.ht _ _ ((eB.ok.mem _ _).1 hm); omega
  have hF : (b.putB s.N s.N (cpK d s x i).N).F = b.F.put s.N (b.F.kids s.N).length (cpK d s x i).N := putB_put b (l1 := b.F.kids s.N) (l2 := []) (by simp) hz (.inl rfl)
  have hN1 : (cpK d s x (i + 1)).N = b.N := by rw [hsucc]; rfl
  have hnd1 : (cpK d s x (i + 1)).nd = b.nd := by rw [hsucc]; rfl
  have hF1 : (cpK d s x (i + 1)).F = b.F.put s.N (b.F.kids s.N).length (cpK d s x i).N := by rw [hsucc]; exact hF
  have hww := H.turn.size
  have hold3 : ∀ y, y < s.N → bl3 y = bl y := fun y hy => (hold y (by omega)).trans (H.old y hy)
  have hnew3 : ∀ y, s.N ≤ y → y < b.N → w.heap.size ≤ bl3 y := fun y h1 h2 => by
    by_cases e : y < (cpK d s x i).N
    · rw [hold y e]; exact H.new y h1 e
    · have := hnew y (by omega) h2; omega
  refine ⟨by rw [hF1, hN1, hnd1]; exact hP4, hold3, hme3, fun y h1 h2 => hnew3 y h1 (by rw [← hN1]; exact h2), ?_⟩
  exact kturn_ext (kturn_ext H.turn hT H.old H.new) (KTurn.of_only hO) hold3 hnew3

theorem clone_start {d : Nat} {s : FoS} {h : Nat → Nat} (o : s.F.Ok (fun i => i < s.N) h) {B : Nat} {bl : Nat → Nat} {st : Nat → Dn} {w : World} (hP : Prog s.F (fun i => i < s.N) s.nd B bl st w) (hBw : B ≤ w.heap.size) {x : Nat} (hx : x < s.N) {W2 w3 : World} (hb : Below w.heap.size w W2) {n : Nat} (hn : n = (st x).ats.length)
    (hh : W2.heap[w.heap.size + 1]? = some (.cells #[.pointer none, .pointer none, .pointer none, .pointer none, .pointer none, .int .u32 (st x).typ, .int .u32 0, .string (st x).dat, .string ⟨#[]⟩, .slice (some ⟨w.heap.size, 0, none⟩) n n] 89 (0, 0)))
    (ho : w3.ownsRow w.heap.size 143 3 (.slice (some ⟨w.heap.size, 0, none⟩) n n) n (flatA (st x).ats)) (c1 : w3.os = W2.os) (c2 : w3.tape = W2.tape) (c3 : w3.output = W2.output) (c4 : w3.heap.size = W2.heap.size) (c5 : ∀ b, b ≠ w.heap.size → w3.heap[b]? = W2.heap[b]?) :
    ∃ bl2 st2, ClL d s x B bl w 0 bl2 st2 w3 := by
  subst hn
  have hb3 : Below w.heap.size w w3 := ⟨c1.trans hb.os, c2.trans hb.tape, c3.trans hb.output, by rw [c4]; exact hb.size, fun k hk => (c5 k (by omega)).trans (hb.block k hk)⟩
  have hP3 := hP.kept hb3
  have hF := Prog.fresh o hP3 (g := w.heap.size + 1) (fun y hy => by have := hP.dom.lt (i := y) hy; omega) (by omega) hx ((c5 _ (by omega)).trans hh) (own_base ho hBw)
  refine ⟨fun y => if y = s.N then w.heap.size + 1 else bl y, fun y => if y = s.N then freshD (st x) else st y, by rw [cpK_zero]; exact hF, fun y hy => if_neg (by omega), if_pos rfl, fun y h1 h2 => ?_, KTurn.of_below hb3⟩
  rw [cpK_zero] at h2
  have e : y = s.N := by have : y < s.N + 1 := h2; omega
  subst e
  show w.heap.size ≤ (if s.N = s.N then w.heap.size + 1 else bl s.N)
  rw [if_pos rfl]; omega

theorem cl_ptr {s : FoS} {h : Nat → Nat} (o : s.F.Ok (fun i => i < s.N) h) {bl bl2 : Nat → Nat} (hold : ∀ y, y < s.N → bl2 y = bl y) (x j : Nat) : ptrTo bl2 ((s.F.kids x)[j]?) = ptrTo bl ((s.F.kids x)[j]?) :=
  ptrTo_congr2 fun y hy => hold y ((o.dom x y ((o.mem x y).1 (List.mem_of_getElem? hy))).2)

theorem cl_first {d : Nat} {s : FoS} {h : Nat → Nat} (o : s.F.Ok (fun i => i < s.N) h) {x : Nat} (hx : x < s.N) (hd : h x ≤ d + 1) {B : Nat} {bl : Nat → Nat} {w : World} {i : Nat} {bl2 : Nat → Nat} {st2 : Nat → Dn} {wr : World} (H : ClL d s x B bl w i bl2 st2 wr) (hi : i ≤ (s.F.kids x).length) : wr.cell? ⟨bl x, 1, none⟩ = some (ptrTo bl ((s.F.kids x)[0]?)) := by
  obtain ⟨⟨h', eA⟩, -, -⟩ := cpK_ok o hx hd i hi
  have hxN : x < (cpK d s x i).N := by have := eA.lt; omega
  obtain ⟨-, -, c1, -⟩ := H.prog.dom.cells (i := x) hxN
  rw [(H.prog.fit x hxN).fst, eA.kids x hx, List.head?_eq_getElem?, cl_ptr o H.old, H.old x hx] at c1
  exact c1

theorem cl_next {d : Nat} {s : FoS} {h : Nat → Nat} (o : s.F.Ok (fun i => i < s.N) h) {x : Nat} (hx : x < s.N) (hd : h x ≤ d + 1) {B : Nat} {bl : Nat → Nat} {w : World} {i : Nat} {bl2 : Nat → Nat} {st2 : Nat → Dn} {wr : World} (H : ClL d s x B bl w i bl2 st2 wr) (hi : i ≤ (s.F.kids x).length) {j : Nat} (hj : j < (s.F.kids x).length) : wr.cell? ⟨bl (s.F.kids x)[j], 4, none⟩ = some (ptrTo bl ((s.F.kids x)[j + 1]?)) := by
  obtain ⟨⟨h', eA⟩, -, -⟩ := cpK_ok o hx hd i hi
  have h1 := (o.mem x _).1 (List.getElem_mem hj)
  have h2 := (o.dom _ _ h1).2
  have hxN : (s.F.kids x)[j] < (cpK d s x i).N := by have := eA.lt; omega
  obtain ⟨-, -, -, -, -, c4, -⟩ := H.prog.dom.cells (i := (s.F.kids x)[j]) hxN
  have e1 := ((H.prog.fit _ hxN).sib x (by rw [eA.par _ h2]; exact h1)).2
  have e2 : s.F.kids x = (s.F.kids x).take j ++ (s.F.kids x)[j] :: (s.F.kids x).drop (j + 1) := by rw [List.getElem_cons_drop, List.take_append_drop]
  have hn := o.nodup x
  rw [e2] at hn
  have e3 := nextIn_split ((s.F.kids x).drop (j + 1)) (s.F.kids x)[j] ((s.F.kids x).take j) (nodup_split hn).1
  rw [← e2, List.head?_drop] at e3
  rw [e1, eA.kids x hx, e3, cl_ptr o H.old, H.old _ h2] at c4
  exact c4

set_option maxRecDepth 100000 in
set_option maxHeartbeats 8000000 in
theorem clone_walk {d : Nat} {s : FoS} {h : Nat → Nat} (o : s.F.Ok (fun i => i < s.N) h) {B : Nat} {bl : Nat → Nat} {st : Nat → Dn} {w : World} (hP : Prog s.F (fun i => i < s.N) s.nd B bl st w) (hBw : B ≤ w.heap.size) {x : Nat} (hx : x < s.N) (hd : h x ≤ d + 1) (hal : (st x).ats.length ≤ 1000)
    (hih : ∀ i (hi : i < (s.F.kids x).length) bl2 st2 wr, ClL d s x B bl w i bl2 st2 wr → Calls Try.prog 65 #[.pointer (some ⟨bl (s.F.kids x)[i], 0, none⟩)] wr (ClonePost (cpK d s x i) (cpy d (cpK d s x i) (s.F.kids x)[i]) B bl2 wr)) :
    Calls Try.prog 65 #[.pointer (some ⟨bl x, 0, none⟩)] w (ClonePost s (cpK d s x (s.F.kids x).length) B bl w) := by
  have hbx := hP.dom.lt (i := x) hx
  obtain ⟨-, -, -, -, -, -, q5, q7, aa, ac, q9, ho⟩ := hP.dom.cells (i := x) hx
  have q6 : w.cell? ⟨bl x, 6, none⟩ = some (.int .u32 0) := by
    obtain ⟨_, ba, bc, hh, _⟩ := hP.dom.node x hx
    rw [cell_of_row w _ 6 _ _ _ hh]; rfl
  have hA : ∀ j, (w.alloc (.cells (madeCells #[.string ⟨#[]⟩, .string ⟨#[]⟩, .string ⟨#[]⟩] ((st x).ats.length * 3)) 143)).cell? ⟨bl x, j, none⟩ = w.cell? ⟨bl x, j, none⟩ := fun j => ((Below.refl w.heap.size w).alloc (Nat.le_refl _) _).cell (p := ⟨bl x, j, none⟩) hbx
  have a5 := (hA 5).trans q5
  have a6 := (hA 6).trans q6
  have a7 := (hA 7).trans q7
  have a9 := (hA 9).trans q9
  have hmk : ∀ W : World, (Instr.makeSlice 87 (.int .i64 ((st x).ats.length : Int)) (.int .i64 ((st x).ats.length : Int))).run Try.prog W = .ok (.slice (some ⟨W.heap.size, 0, none⟩) (st x).ats.length (st x).ats.length) (W.alloc (.cells (madeCells #[.string ⟨#[]⟩, .string ⟨#[]⟩, .string ⟨#[]⟩] ((st x).ats.length * 3)) 143)) := by
    intro W
    obtain ⟨i0, hinf, hz0, hz1, hz2⟩ := info_parts Try.infoA
    have := run_make (P := Try.prog) W 87 143 i0 _ Try.underlying87 hinf hz0 .i64 .i64 ((st x).ats.length : Int) ((st x).ats.length : Int) (by omega) (Int.le_refl _) (by rw [hz2]; omega) (by omega)
    rw [hz1] at this
    simp only [Int.toNat_natCast] at this
    exact this
  obtain ⟨W2, hW2⟩ : ∃ W2, W2 = ((w.alloc (.cells (madeCells #[.string ⟨#[]⟩, .string ⟨#[]⟩, .string ⟨#[]⟩] ((st x).ats.length * 3)) 143)).alloc (.cells #[.pointer none, .pointer none, .pointer none, .pointer none, .pointer none, .int .u32 (st x).typ, .int .u32 0, .string (st x).dat, .string ⟨#[]⟩, .slice (some ⟨w.heap.size, 0, none⟩) (st x).ats.length (st x).ats.length] 89)).drew := ⟨_, rfl⟩
  have hb2 : Below w.heap.size w W2 := by rw [hW2]; exact (((Below.refl _ _).alloc (Nat.le_refl _) _).alloc (by simp) _).drew
  have hh2 : W2.heap[w.heap.size + 1]? = some (.cells #[.pointer none, .pointer none, .pointer none, .pointer none, .pointer none, .int .u32 (st x).typ, .int .u32 0, .string (st x).dat, .string ⟨#[]⟩, .slice (some ⟨w.heap.size, 0, none⟩) (st x).ats.length (st x).ats.length] 89 (0, 0)) := by
    have := heap_alloc_new (w.alloc (.cells (madeCells #[.string ⟨#[]⟩, .string ⟨#[]⟩, .string ⟨#[]⟩] ((st x).ats.length * 3)) 143)) (.cells #[.pointer none, .pointer none, .pointer none, .pointer none, .pointer none, .int .u32 (st x).typ, .int .u32 0, .string (st x).dat, .string ⟨#[]⟩, .slice (some ⟨w.heap.size, 0, none⟩) (st x).ats.length (st x).ats.length] 89)
    rw [World.size_alloc] at this
    rw [hW2]; exact this
  have hc2 : W2.heap[w.heap.size]? = some (.cells (madeCells #[.string ⟨#[]⟩, .string ⟨#[]⟩, .string ⟨#[]⟩] ((st x).ats.length * 3)) 143 (0, 0)) := by
    have e1 := heap_alloc_new w (.cells (madeCells #[.string ⟨#[]⟩, .string ⟨#[]⟩, .string ⟨#[]⟩] ((st x).ats.length * 3)) 143)
    have e2 := ((Below.refl (w.alloc (.cells (madeCells #[.string ⟨#[]⟩, .string ⟨#[]⟩, .string ⟨#[]⟩] ((st x).ats.length * 3)) 143)).heap.size (w.alloc (.cells (madeCells #[.string ⟨#[]⟩, .string ⟨#[]⟩, .string ⟨#[]⟩] ((st x).ats.length * 3)) 143))).alloc (Nat.le_refl _) (.cells #[.pointer none, .pointer none, .pointer none, .pointer none, .pointer none, .int .u32 (st x).typ, .int .u32 0, .string (st x).dat, .string ⟨#[]⟩, .slice (some ⟨w.heap.size, 0, none⟩) (st x).ats.length (st x).ats.length] 89)).block w.heap.size (by simp)
    rw [hW2]; exact e2.trans e1
  have hoD : W2.drew.ownsRow B 143 3 (.slice aa (st x).ats.length ac) (st x).ats.length (flatA (st x).ats) := own_kept ho (fun b _ h2 => (hb2.drew).block b h2)
  obtain ⟨w3, hrun, ho3, t1, t2, t3, t4, t5⟩ := copyA (base := w.heap.size) 3 hoD (g := w.heap.size) hc2 (size_madeCells _ _) (fun e => by have := (ho.lt _ e).2; omega) (Nat.le_refl _) (by unfold maxLen; omega)
  have HCL : Hid (∃ bl2 st2, ClL d s x B bl w 0 bl2 st2 w3) := clone_start o hP hBw hx hb2 rfl hh2 ho3 t1 t2 t3 t4 t5
  have e9 : W2.cell? ⟨w.heap.size + 1, 9, none⟩ = some (.slice (some ⟨w.heap.size, 0, none⟩) (st x).ats.length (st x).ats.length) := by rw [cell_of_row W2 _ 9 _ _ _ hh2]; rfl
  have e9x : W2.cell? ⟨bl x, 9, none⟩ = some (.slice aa (st x).ats.length ac) := (hb2.cell (p := ⟨bl x, 9, none⟩) hbx).trans q9
  have HIH := Lib.hid hih
  have HStep := Lib.hid (fun (i : Nat) (bl2 : Nat → Nat) (st2 : Nat → Dn) (wr : World) (H : ClL d s x B bl w i bl2 st2 wr) (hi : i < (s.F.kids x).length) (e : Ending) (w2 : World) (P : ClonePost (cpK d s x i) (cpy d (cpK d s x i) (s.F.kids x)[i]) B bl2 wr e w2) => cl_step o hx hd H hi P)
  have HRun := Lib.hid hrun
  have HF := Lib.hid (fun i bl2 st2 wr (H : ClL d s x B bl w i bl2 st2 wr) hi => cl_first o hx hd H hi)
  have HNx := Lib.hid (fun i bl2 st2 wr (H : ClL d s x B bl w i bl2 st2 wr) hi j (hj : j < (s.F.kids x).length) => cl_next o hx hd H hi hj)
  have HKid : Hid (∀ i (hi : i < (s.F.kids x).length), (s.F.kids x)[i] < s.N) := fun i hi => (o.dom _ _ ((o.mem x _).1 (List.getElem_mem hi))).2
  have HIdx : Hid (∀ i (hi : i < (s.F.kids x).length), hgt (fun y => y < s.N) bl (fun y => (s.F.kids x).length - (s.F.kids x).idxOf y) (.pointer (some ⟨bl (s.F.kids x)[i], 0, none⟩)) = (s.F.kids x).length - i + 1) := fun i hi => by
    rw [hgt_at (fun a b ha hb e => hP.dom.inj a b ha hb e) _ ((o.dom _ _ ((o.mem x _).1 (List.getElem_mem hi))).2)]
    show (s.F.kids x).length - (s.F.kids x).idxOf (s.F.kids x)[i] + 1 = _
    rw [(o.nodup x).idxOf_getElem i hi]
  have HNil : Hid (hgt (fun y => y < s.N) bl (fun y => (s.F.kids x).length - (s.F.kids x).idxOf y) (.pointer none) = 0) := hgt_nil _ _ _
  clear hih ho o hP hA hb2 hh2 hc2 hoD hrun ho3 t1 t2 t3 t4 t5
  go_enter Try.func65, Try.ntmps65
  go_wp2_with fail
  go_region
  all_goals (go_wp2_with fail)
  rw [← hW2]
  clear hW2 hmk a5 a6 a7 a9 q5 q6 q7 q9
  go_region_law (refine step_copyZ rfl (.tmp 28) (.tmp 32) 87 87 rfl _ _ _ rfl rfl HRun.out ?_)
  all_goals
    obtain ⟨bl0, st0, hcl⟩ := HCL.out
    have HCl := Lib.hid hcl
    have k1 := HF.out 0 bl0 st0 w3 hcl (Nat.zero_le _)
    clear hcl e9 e9x
    go_wp2_with fail
    go_loopw [4] (fun v wr => ∃ (i : Nat) (bl2 : Nat → Nat) (st2 : Nat → Dn), i ≤ (s.F.kids x).length ∧ v = ptrTo bl ((s.F.kids x)[i]?) ∧ ClL d s x B bl w i bl2 st2 wr) (fun v _ => hgt (fun y => y < s.N) bl (fun y => (s.F.kids x).length - (s.F.kids x).idxOf y) v)
    case atStart => exact ⟨0, bl0, st0, Nat.zero_le _, rfl, HCl.out⟩
    case round =>
      obtain ⟨i, bl2, st2, hi, rfl, hC⟩ := hrel
      clear k1
      by_cases hlt : i < (s.F.kids x).length
      · have e1 : (s.F.kids x)[i]? = some (s.F.kids x)[i] := List.getElem?_eq_getElem hlt
        rw [e1]
        simp only [ptrTo, Option.map_some]
        have HCall := Lib.hid (HIH.out i hlt bl2 st2 wr hC)
        have HSt := Lib.hid (fun e w2 => HStep.out i bl2 st2 wr hC hlt e w2)
        have HNx2 := Lib.hid (fun bl3 st3 w4 (H : ClL d s x B bl w (i + 1) bl3 st3 w4) => HNx.out (i + 1) bl3 st3 w4 H hlt i hlt)
        have HM1 := Lib.hid (HIdx.out i hlt)
        have HM2 : Hid (hgt (fun y => y < s.N) bl (fun y => (s.F.kids x).length - (s.F.kids x).idxOf y) (ptrTo bl ((s.F.kids x)[i + 1]?)) < (s.F.kids x).length - i + 1) := by
          by_cases h2 : i + 1 < (s.F.kids x).length
          · have e2 : (s.F.kids x)[i + 1]? = some (s.F.kids x)[i + 1] := List.getElem?_eq_getElem h2
            have := HIdx.out (i + 1) h2
            unfold Hid
            rw [e2]
            simp only [ptrTo, Option.map_some]
            omega
          · have e2 : (s.F.kids x)[i + 1]? = none := List.getElem?_eq_none (by omega)
            have := HNil.out
            unfold Hid
            rw [e2]
            simp only [ptrTo, Option.map_none]
            omega
        obtain ⟨y, hy⟩ : ∃ y, y = bl (s.F.kids x)[i] := ⟨_, rfl⟩
        rw [← hy] at HCall HNx2 HM1 ⊢
        clear hC e1 hy
        go_wp2_with fail
        refine HCall.out.mono ?_
        intro e w4 hP
        obtain ⟨g2, rfl, hApp⟩ := HSt.out e w4 hP
        have HApp := Lib.hid hApp
        clear hP hApp
        go_wp2_with fail
        refine HApp.out.mono ?_
        rintro e w5 ⟨rfl, bl3, st3, hC5⟩
        have n4 := HNx2.out bl3 st3 w5 hC5
        have HC5 := Lib.hid hC5
        clear hC5
        go_wp2_with fail
        go_roundw
        case rel => exact ⟨i + 1, bl3, st3, hlt, rfl, HC5.out⟩
        case measure => have := HM1.out; have := HM2.out; omega
      · have e : i = (s.F.kids x).length := by omega
        have e1 : (s.F.kids x)[i]? = none := List.getElem?_eq_none (by omega)
        rw [e1]
        simp only [ptrTo, Option.map_none]
        have HFin : Hid (ClonePost s (cpK d s x (s.F.kids x).length) B bl w (.returned (.pointer (some ⟨w.heap.size + 1, 0, none⟩))) wr) := by
          rw [← e]
          exact ⟨bl2, st2, by rw [hC.me], hC.old, hC.prog, hC.new, hC.turn⟩
        clear hC e e1
        go_wp2_with fail
        go_ret
        exact HFin.out

theorem clone_any (d : Nat) : ∀ {s : FoS} {h : Nat → Nat} (o : s.F.Ok (fun i => i < s.N) h) {B : Nat} {bl : Nat → Nat} {st : Nat → Dn} {w : World} (hP : Prog s.F (fun i => i < s.N) s.nd B bl st w) (hBw : B ≤ w.heap.size) {x : Nat} (hx : x < s.N) (hd : h x ≤ d) (hop : (cpy d s x).op = false) (hal : ∀ y, y < s.N → (atsOf (s.nd y)).length ≤ 1000),
    Calls Try.prog 65 #[.pointer (some ⟨bl x, 0, none⟩)] w (ClonePost s (cpy d s x) B bl w) := by
  induction d with
  | zero =>
    intro s h o B bl st w hP hBw x hx hd hop hal
    have hax : (st x).ats.length ≤ 1000 := by rw [(hP.self x hx).ats]; exact hal x hx
    have h6 : ¬ 600 ≤ s.N := fun h6 => by
      have e : cpy 0 s x = (s.fresh x).shut := by show (if 600 ≤ s.N then _ else _) = _; rw [if_pos h6]
      rw [e] at hop; cases hop
    have e : cpy 0 s x = s.fresh x := by show (if 600 ≤ s.N then _ else _) = _; rw [if_neg h6]
    have hk : s.F.kids x = [] := List.eq_nil_iff_forall_not_mem.2 fun c hc => by
      have := o.ht _ _ ((o.mem x c).1 hc); omega
    have e2 : cpK 0 s x (s.F.kids x).length = s.fresh x := by rw [hk]; exact cpK_zero 0 s x
    have := clone_walk (d := 0) o hP hBw hx (by omega) hax (fun i hi => by rw [hk] at hi; simp at hi)
    rw [e2] at this
    rw [e]; exact this
  | succ d ih =>
    intro s h o B bl st w hP hBw x hx hd hop hal
    have hax : (st x).ats.length ≤ 1000 := by rw [(hP.self x hx).ats]; exact hal x hx
    have h6 : ¬ 600 ≤ s.N := fun h6 => by
      have e : cpy (d + 1) s x = (s.fresh x).shut := by show (if 600 ≤ s.N then _ else _) = _; rw [if_pos h6]
      rw [e] at hop; cases hop
    have e := cpK_end d s x h6
    rw [← e] at hop ⊢
    refine clone_walk o hP hBw hx hd hax fun i hi bl2 st2 wr H => ?_
    obtain ⟨⟨h', eA⟩, -, -⟩ := cpK_ok o hx hd i (Nat.le_of_lt hi)
    have h1 := (o.mem x _).1 (List.getElem_mem hi)
    have h2 := (o.dom _ _ h1).2
    have h3 := o.ht _ _ h1
    have hlt := eA.lt
    have hoi := (cpK_op o hx hd hi (cpK_ops o hx hd hop ((s.F.kids x).length - (i + 1)) (i + 1) (by omega))).2
    rw [← H.old _ h2]
    refine ih eA.ok H.prog (Nat.le_trans hBw H.turn.size) (by omega) (by rw [eA.hold _ h2]; omega) hoi (fun y hy => ?_)
    by_cases e2 : y < s.N
    · rw [eA.ndo y e2]; exact hal y e2
    · obtain ⟨z, hz, e3⟩ := eA.newn y (by omega) hy
      rw [e3]; exact hal z hz
end Go.Proofs.Ytmhhfljbocbolaa

namespace Go.Proofs.Ytmhhfljbocbolaa
set_option linter.unusedVariables false

def progS (op : Int) (last : Bool) (s : FoS) (x : Nat) (ws : List Nat) : FoS :=
  (innS last s ws).row (kpar op (innS last s ws).F x) (kpos op (innS last s ws).F x (kpar op (innS last s ws).F x)) (innL last s ws)

theorem row_nil (s : FoS) (p k : Nat) : s.row p k [] = s := by
  show { s with F := s.F.putRow p k [] } = s
  rw [putRow_nil]
theorem progS_nil (op : Int) (last : Bool) (s : FoS) (x : Nat) : progS op last s x [] = s := by
  cases last <;> exact row_nil s _ _

theorem Inv.mono {n : Nat} {F0 : Fo} {h0 : Nat → Nat} {nd0 : Nat → Nd} {op : Int} {xs ws ws2 : List Nat} {s : FoS} {h : Nat → Nat} (I : Inv n F0 h0 nd0 op xs ws s h) (hs : ∀ w ∈ ws2, w ∈ ws) : Inv n F0 h0 nd0 op xs ws2 s h :=
  ⟨I.ok, I.le, fun w hw => I.sub w (hs w hw), fun w hw => I.up w (hs w hw), I.par, I.nds⟩

theorem tw_filter {x w : Nat} (hne : w ≠ x) : ∀ K : List Nat, ((K.filter fun c => !decide (c = w)).takeWhile fun c => !decide (c = x)) = (K.takeWhile fun c => !decide (c = x)).filter fun c => !decide (c = w) := by
  intro K
  induction K with
  | nil => rfl
  | cons a K ih =>
    by_cases e : a = w
    · subst e
      rw [List.filter_cons, List.takeWhile_cons]
      simp only [decide_true, Bool.not_true, Bool.false_eq_true, if_false, decide_eq_false hne, Bool.not_false, if_true, List.filter_cons]
      exact ih
    · by_cases e2 : a = x
      · subst e2
        rw [List.filter_cons, List.takeWhile_cons]
        simp [e]
      · rw [List.filter_cons, List.takeWhile_cons]
        simp only [decide_eq_false e, decide_eq_false e2, Bool.not_false, if_true, List.takeWhile_cons, List.filter_cons, ih]

theorem row_cut {F : Fo} {p k : Nat} {L : List Nat} {w : Nat} {l1 l2 : List Nat} (hk : F.kids p = l1 ++ l2) (hl : l1.length = k) (hw : w ∉ L) : (F.putRow p k L).cut w = (F.cut w).putRow p (l1.filter fun c => !decide (c = w)).length L := by
  subst hl
  refine Fo.ext2 (fun i => ?_) (fun q => ?_)
  · show (if i = w then none else if i ∈ L then some p else F.par i) = (if i ∈ L then some p else if i = w then none else F.par i)
    by_cases e : i = w
    · subst e; rw [if_pos rfl, if_neg hw, if_pos rfl]
    · rw [if_neg e, if_neg e]
  · by_cases e : q = p
    · subst e
      have h1 : (F.cut w).kids q = (l1.filter fun c => !decide (c = w)) ++ (l2.filter fun c => !decide (c = w)) := by show (F.kids q).filter _ = _; rw [hk, List.filter_append]
      rw [putRow_kids _ _ h1]
      show ((F.putRow q l1.length L).kids q).filter _ = _
      rw [putRow_kids _ _ hk, List.filter_append, List.filter_append, filter_ne_self hw]
    · show ((F.putRow p l1.length L).kids q).filter _ = ((F.cut w).putRow p _ L).kids q
      have e1 : (F.putRow p l1.length L).kids q = F.kids q := if_neg e
      have e2 : ((F.cut w).putRow p (l1.filter fun c => !decide (c = w)).length L).kids q = (F.cut w).kids q := if_neg e
      rw [e1, e2]; rfl

/-- The middle state of a round: what is put is made ready. -/
def midS (last : Bool) (s : FoS) (w : Nat) : FoS := if last then s.cut w else cpy 200 s w

/-- One round of the program. -/
theorem prog_step {n : Nat} {F0 : Fo} {h0 : Nat → Nat} {nd0 : Nat → Nd} {op : Int} (hop : op = 1 ∨ op = 4) {xs ws : List Nat} {s : FoS} {h : Nat → Nat} (I : Inv n F0 h0 nd0 op xs ws s h) (hn : ws.Nodup) (hh : ∀ w ∈ ws, w < n ∧ h0 w ≤ 200) (hxs : ∀ x ∈ xs, x < n) {x : Nat} (hx : x ∈ xs) (last : Bool) {j : Nat} (hj : j < ws.length) :
    (∃ hP, (progS op last s x (ws.take j)).F.Ok (fun i => i < (progS op last s x (ws.take j)).N) hP ∧ (last = false → hP ws[j] ≤ 200) ∧ ws[j] < (progS op last s x (ws.take j)).N ∧ x < (progS op last s x (ws.take j)).N ∧ n ≤ (progS op last s x (ws.take j)).N ∧ ∀ y, y < (progS op last s x (ws.take j)).N → ∃ z, z < n ∧ (progS op last s x (ws.take j)).nd y = nd0 z) ∧
    ∃ hm p l1 l2, (midS last (progS op last s x (ws.take j)) ws[j]).F.Ok (fun i => i < (midS last (progS op last s x (ws.take j)) ws[j]).N) hm ∧ x < (midS last (progS op last s x (ws.take j)) ws[j]).N ∧ (if last then ws[j] else (progS op last s x (ws.take j)).N) < (midS last (progS op last s x (ws.take j)) ws[j]).N ∧ (midS last (progS op last s x (ws.take j)) ws[j]).F.par (if last then ws[j] else (progS op last s x (ws.take j)).N) = none ∧ p < (midS last (progS op last s x (ws.take j)) ws[j]).N ∧ p ≠ (if last then ws[j] else (progS op last s x (ws.take j)).N) ∧
      (midS last (progS op last s x (ws.take j)) ws[j]).F.kids p = l1 ++ l2 ∧ (op = 1 → p = x ∧ l2 = []) ∧ (op = 4 → (midS last (progS op last s x (ws.take j)) ws[j]).F.par x = some p ∧ l2.head? = some x) ∧
      { midS last (progS op last s x (ws.take j)) ws[j] with F := (midS last (progS op last s x (ws.take j)) ws[j]).F.put p l1.length (if last then ws[j] else (progS op last s x (ws.take j)).N) } = progS op last s x (ws.take (j + 1)) := by
  have hop3 : op = 1 ∨ op = 2 ∨ op = 4 := by rcases hop with h | h <;> simp [h]
  have hsub : ∀ m, ∀ w ∈ ws.take m, w ∈ ws := fun m w hw => List.mem_of_mem_take hw
  have hh' : ∀ m, ∀ w ∈ ws.take m, w < n ∧ h0 w ≤ 200 := fun m w hw => hh w (hsub m w hw)
  have hn' : ∀ m, (ws.take m).Nodup := fun m => hn.sublist (List.take_sublist m ws)
  have hwm := List.getElem_mem hj
  obtain ⟨hw1, hw2⟩ := hh _ hwm
  have hxn := hxs x hx
  have hle := I.le
  have hxN : x < s.N := by omega
  have hwN : ws[j] < s.N := by omega
  have hxw : x ≠ ws[j] := fun e => I.up _ hwm x hx (by rw [e]; exact .self)
  obtain ⟨a, hA⟩ : ∃ a, a = innS last s (ws.take j) := ⟨_, rfl⟩
  obtain ⟨L, hL⟩ : ∃ L, L = innL last s (ws.take j) := ⟨_, rfl⟩
  obtain ⟨b, hB⟩ : ∃ b, b = innS last s (ws.take (j + 1)) := ⟨_, rfl⟩
  have hB2 : b = if last then a.cut ws[j] else cpy 200 a ws[j] := by rw [hB, hA, List.take_succ_eq_append_getElem hj, innS_snoc]
  have hL2 : innL last s (ws.take (j + 1)) = L ++ [if last then ws[j] else a.N] := by rw [hA, hL, List.take_succ_eq_append_getElem hj, innL_snoc]
  -- the states ahead and behind
  obtain ⟨ha, k1, k2, p1, p2, p3, p4, p5, p6, p7, p8⟩ := ins_ready hop3 (I.mono (hsub j)) (hn' j) (hh' j) hxs hx last
  obtain ⟨hb, l1, l2, q1, q2, q3, q4, q5, q6, q7, q8⟩ := ins_ready hop3 (I.mono (hsub (j + 1))) (hn' (j + 1)) (hh' (j + 1)) hxs hx last
  rw [← hA] at p1 p2 p3 p4 p5 p6 p7
  rw [← hL] at p7 p8
  rw [← hB] at q1 q2 q3 q4 q5 q6 q7
  rw [hL2] at q7 q8
  have hPdef : progS op last s x (ws.take j) = a.row (kpar op a.F x) (kpos op a.F x (kpar op a.F x)) L := by rw [hA, hL]; rfl
  have hQdef : progS op last s x (ws.take (j + 1)) = b.row (kpar op b.F x) (kpos op b.F x (kpar op b.F x)) (L ++ [if last then ws[j] else a.N]) := by rw [hB, ← hL2]; rfl
  -- what a is
  have hfa : n ≤ a.N ∧ a.F.par x = s.F.par x ∧ ws[j] < a.N ∧ (last = false → ¬ a.F.Up ws[j] (kpar op a.F x)) ∧ (∀ y, y < a.N → ∃ z, z < n ∧ a.nd y = nd0 z) ∧ ∃ ha2, a.F.Ok (fun i => i < a.N) ha2 ∧ (last = false → ha2 ws[j] ≤ 200) := by
    cases last
    · obtain ⟨ha2, A⟩ := innC I hh j
      rw [← hA] at A
      have hpx : op = 4 → a.F.par x ≠ none := fun e => by rw [A.par x hxN]; exact I.par e x hx
      obtain ⟨hpN, hpU⟩ := kpar_lt A.ok (Nat.lt_of_lt_of_le hxN A.le) hpx
      have hUs := (up_old I.ok A.par hxN).2 hpU
      have hps := hUs.lt_of I.ok hxN
      exact ⟨Nat.le_trans hle A.le, A.par x hxN, Nat.lt_of_lt_of_le hwN A.le, fun _ u => I.up _ hwm x hx (((up_old I.ok A.par hps).2 u).tr hUs), A.nds, ha2, A.ok, fun _ => by rw [A.hold _ hwN, (I.sub _ hwm _ .self).2]; exact hw2⟩
    · have T := innT I.ok (ws.take j)
      rw [← hA] at T
      have hxw2 : x ∉ ws.take j := fun hm => I.up x (hsub j x hm) x hx .self
      exact ⟨by rw [T.N]; exact hle, by rw [T.par, if_neg hxw2], by rw [T.N]; exact hwN, (fun e => by cases e), (fun y hy => by rw [T.nd]; exact I.nds y (by rw [← T.N]; exact hy)), h, T.ok, (fun e => by cases e)⟩
  obtain ⟨f0, f1, f2, f3, f4, ha2, f5, f6⟩ := hfa
  have hpx : op = 4 → a.F.par x ≠ none := fun e => by rw [f1]; exact I.par e x hx
  obtain ⟨p, hp⟩ : ∃ p, p = kpar op a.F x := ⟨_, rfl⟩
  rw [← hp] at p2 p3 p4 p6 p7 f3 hPdef
  -- b beside a
  have hfb : kpar op b.F x = p ∧ (progS op last s x (ws.take j)).N = a.N ∧ midS last (progS op last s x (ws.take j)) ws[j] = b.row p (kpos op b.F x p) L := by
    have hLa : ∀ r ∈ L, r < a.N := fun r hr => (p7 r hr).1
    cases last
    · simp only [Bool.false_eq_true, if_false] at hB2
      obtain ⟨hb', E⟩ := cpy_ok 200 a ha2 ws[j] f5 f2 (f6 rfl)
      rw [← hB2] at E
      have e1 : kpar op b.F x = p := by rw [hp]; unfold kpar; rw [E.par x p5]
      have e2 : kpos op b.F x p = kpos op a.F x p := by unfold kpos; rw [E.kids p p6]
      refine ⟨e1, by rw [hPdef]; rfl, ?_⟩
      rw [e2, hB2, hPdef]
      exact cpy_row 200 a ha2 ws[j] p _ L f5 f2 (f6 rfl) (f3 rfl) p6 hLa
    · simp only [if_true] at hB2
      have e0 : b.F = a.F.cut ws[j] := by rw [hB2]; rfl
      have e1 : kpar op b.F x = p := by rw [hp]; unfold kpar; rw [e0]; show (if op = 4 then (if x = ws[j] then none else a.F.par x).getD 0 else x) = _; rw [if_neg hxw]
      have e2 : op ≠ 2 → (b.F.kids p).takeWhile (fun c => !decide (c = x)) = ((a.F.kids p).takeWhile fun c => !decide (c = x)).filter fun c => !decide (c = ws[j]) := fun _ => by rw [e0]; exact tw_filter (Ne.symm hxw) _
      have hop2 : op ≠ 2 := by rcases hop with h | h <;> simp [h]
      refine ⟨e1, by rw [hPdef]; rfl, ?_⟩
      have hwL : ws[j] ∉ L := fun hm => by
        rw [hL] at hm
        obtain ⟨q, hq, e⟩ := List.getElem_of_mem (show ws[j] ∈ ws.take j from hm)
        rw [List.getElem_take] at e
        have := (List.getElem_inj hn).1 e
        simp only [List.length_take] at hq
        omega
      have e3 : kpos op a.F x p = ((a.F.kids p).takeWhile fun c => !decide (c = x)).length := by unfold kpos; rw [if_neg hop2]
      have e4 : kpos op b.F x p = (((a.F.kids p).takeWhile fun c => !decide (c = x)).filter fun c => !decide (c = ws[j])).length := by unfold kpos; rw [if_neg hop2, e2 hop2]
      have e5 := row_cut (F := a.F) (p := p) (k := kpos op a.F x p) (L := L) (w := ws[j]) (tw_split x (a.F.kids p)) e3.symm hwL
      rw [hPdef, e4, hB2]
      show { a.row p (kpos op a.F x p) L with F := (a.F.putRow p (kpos op a.F x p) L).cut ws[j] } = _
      rw [e5]; rfl
  obtain ⟨g1, g2, g3⟩ := hfb
  rw [g1] at q2 q3 q4 q6 q7 hQdef
  obtain ⟨hP', okP, hhP⟩ := row_ok p1 p2 p6 (L := L) (fun r hr => ⟨(p7 r hr).1, (p7 r hr).2.1, (p7 r hr).2.2.2⟩) p8
  obtain ⟨hP2, okP2, hhP2⟩ := row_ok f5 p2 p6 (L := L) (fun r hr => ⟨(p7 r hr).1, (p7 r hr).2.1, (p7 r hr).2.2.2⟩) p8
  rw [p3] at okP2
  have q8' : L.Nodup := (List.nodup_append.1 q8).1
  obtain ⟨hm, okM, -⟩ := row_ok q1 q2 q6 (L := L) (fun r hr => ⟨(q7 r (List.mem_append_left _ hr)).1, (q7 r (List.mem_append_left _ hr)).2.1, (q7 r (List.mem_append_left _ hr)).2.2.2⟩) q8'
  rw [q3] at okM
  obtain ⟨r, hr⟩ : ∃ r, r = if last then ws[j] else a.N := ⟨_, rfl⟩
  have hr' : (if last then ws[j] else (progS op last s x (ws.take j)).N) = r := by rw [hr, g2]
  rw [hr', g3, hQdef, ← hr]
  rw [← hr] at q7 q8
  have q7r := q7 r (by simp)
  have hrL : r ∉ L := fun hm2 => by
    have := (List.nodup_append.1 q8).2.2 r hm2 r (by simp)
    exact this rfl
  refine ⟨⟨hP2, by rw [hPdef]; exact okP2, fun e => by rw [hhP2 _ (f3 e)]; exact f6 e, by rw [g2]; exact f2, by rw [g2]; exact p5, by rw [g2]; exact f0, fun y hy => by rw [hPdef]; exact f4 y (by rw [← g2]; exact hy)⟩, hm, p, l1 ++ L, l2, okM, q5, q7r.1, ?_, q6, q7r.2.2.1, ?_, ?_, ?_, ?_⟩
  · show (if r ∈ L then some p else b.F.par r) = none
    rw [if_neg hrL]; exact q7r.2.1
  · show (b.F.putRow p (kpos op b.F x p) L).kids p = _
    rw [← q3, putRow_kids _ _ q2]
  · intro e
    rcases q4 with h | h | h
    · exact ⟨h.2.1, h.2.2⟩
    · omega
    · omega
  · intro e
    rcases q4 with h | h | h
    · omega
    · omega
    · refine ⟨?_, h.2.2⟩
      show (if x ∈ L then some p else b.F.par x) = some p
      split
      · rfl
      · exact h.2.1
  · show { b.row p (kpos op b.F x p) L with F := (b.F.putRow p (kpos op b.F x p) L).put p (l1 ++ L).length r } = _
    rw [← q3, putRow_snoc _ _ q2]; rfl
end Go.Proofs.Ytmhhfljbocbolaa

namespace Go.Proofs.Ytmhhfljbocbolaa
open Go.RowKit
set_option linter.unusedVariables false

structure PW (n B : Nat) (bl : Nat → Nat) (w : World) (s : FoS) (bl' : Nat → Nat) (st' : Nat → Dn) (wr : World) : Prop where
  prog : Prog s.F (fun i => i < s.N) s.nd B bl' st' wr
  old : ∀ y, y < n → bl' y = bl y
  new : ∀ y, n ≤ y → y < s.N → w.heap.size ≤ bl' y
  turn : KTurn (fun i => i < n) bl w wr

theorem PW.clone {n B : Nat} {bl : Nat → Nat} {w : World} {s s2 : FoS} {bl' : Nat → Nat} {st' : Nat → Dn} {wr : World} (H : PW n B bl w s bl' st' wr) (hn : n ≤ s.N) {e : Ending} {w2 : World} (P : ClonePost s s2 B bl' wr e w2) : ∃ bl3 st3, e = .returned (.pointer (some ⟨bl3 s.N, 0, none⟩)) ∧ PW n B bl w s2 bl3 st3 w2 := by
  obtain ⟨bl3, st3, rfl, hold, hP, hnew, hT⟩ := P
  refine ⟨bl3, st3, rfl, hP, fun y hy => (hold y (by omega)).trans (H.old y hy), fun y h1 h2 => ?_, kturn_ext H.turn hT H.old H.new⟩
  by_cases e : y < s.N
  · rw [hold y e]; exact H.new y h1 e
  · have := hnew y (by omega) h2
    have := H.turn.size
    omega

theorem PW.put {n B : Nat} {bl : Nat → Nat} {w : World} {s : FoS} {bl' : Nat → Nat} {st' : Nat → Dn} {wr : World} (H : PW n B bl w s bl' st' wr) {F' : Fo} {e : Ending} {w2 : World} (P : TurnPost F' (fun i => i < s.N) s.nd B bl' wr e w2) : e = .returned (.tuple #[]) ∧ ∃ st3, PW n B bl w { s with F := F' } bl' st3 w2 := by
  obtain ⟨rfl, ⟨st3, hP⟩, hO⟩ := P
  exact ⟨rfl, st3, hP, H.old, H.new, kturn_ext H.turn (KTurn.of_only hO) H.old H.new⟩

set_option maxRecDepth 100000 in
set_option maxHeartbeats 1000000 in
theorem app_cl {F : Fo} {S : Nat → Prop} {ht : Nat → Nat} (o : F.Ok S ht) {nd : Nat → Nd} (w : World) (B : Nat) (bl : Nat → Nat) (st : Nat → Dn) (h : Prog F S nd B bl st w) (p c : Nat) (hp : S p) (hc : S c) (hcn : F.par c = none) (hpc : p ≠ c) :
    Calls Try.prog 59 #[.pointer (some ⟨bl p, 0, none⟩), .pointer (some ⟨bl c, 0, none⟩)] w (TurnPost (F.put p (F.kids p).length c) S nd B bl w) := by
  have HA := Lib.hid (appendP_any o w B bl st h p c hp hc hcn hpc)
  clear h o hcn
  go_enter Try.func59, Try.ntmps59
  go_wp2_with fail
  refine HA.out.mono ?_
  rintro e w2 ⟨rfl, h2, h3⟩
  have H2 := Lib.hid h2
  have H3 := Lib.hid h3
  clear h2 h3
  go_wp2_with fail
  go_end0
  exact ⟨rfl, H2.out, H3.out⟩

set_option maxRecDepth 100000 in
set_option maxHeartbeats 1000000 in
theorem bef_cl {F : Fo} {S : Nat → Prop} {ht : Nat → Nat} (o : F.Ok S ht) {nd : Nat → Nd} (w : World) (B : Nat) (bl : Nat → Nat) (st : Nat → Dn) (h : Prog F S nd B bl st w) (x p c : Nat) (hpx : F.par x = some p) (hc : S c) (hcn : F.par c = none) (hpc : p ≠ c) (l1 l2 : List Nat) (hk : F.kids p = l1 ++ l2) (hx : l2.head? = some x) :
    Calls Try.prog 61 #[.pointer (some ⟨bl x, 0, none⟩), .pointer (some ⟨bl c, 0, none⟩)] w (TurnPost (F.put p l1.length c) S nd B bl w) := by
  obtain ⟨hp, hSx⟩ := o.dom p x hpx
  obtain ⟨-, c0, -⟩ := h.dom.cells hSx
  rw [(h.fit x hSx).par, hpx] at c0
  simp only [ptrTo, Option.map_some] at c0
  have hI := insertP_any o w B bl st h p c hp hc hcn hpc l1 l2 hk
  rw [hx] at hI
  simp only [ptrTo, Option.map_some] at hI
  have HI := Lib.hid hI
  clear h o hcn hI
  go_enter Try.func61, Try.ntmps61
  go_wp2_with fail
  refine HI.out.mono ?_
  rintro e w2 ⟨rfl, h2, h3⟩
  have H2 := Lib.hid h2
  have H3 := Lib.hid h3
  clear h2 h3
  go_wp2_with fail
  go_end0
  exact ⟨rfl, H2.out, H3.out⟩

set_option maxRecDepth 100000 in
set_option maxHeartbeats 1000000 in
theorem size_sel (g : Nat) (a : Option Addr) (n c : Nat) (w : World) (c0 : w.cell? ⟨g, 0, none⟩ = some (.slice a n c)) : Calls Try.prog 64 #[.pointer (some ⟨g, 0, none⟩)] w fun e w' => e = .returned (.int .i64 n) ∧ w' = w := by
  have hL : Calls Try.prog 87 #[.pointer (some ⟨g, 0, none⟩)] w fun e w' => e = .returned (.int .i64 n) ∧ w' = w := by
    go_enter Try.func87, Try.ntmps87
    go_wp2_with fail
    go_ret
    exact ⟨rfl, rfl⟩
  have HL := Lib.hid hL
  clear hL
  go_enter Try.func64, Try.ntmps64
  go_wp2_with fail
  refine HL.out.mono ?_
  rintro e w2 ⟨rfl, rfl⟩
  go_wp2_with fail
  go_ret
  exact ⟨rfl, rfl⟩

/-- Nothing is shut at the end: so nothing was. -/
theorem inn_op {n : Nat} {F0 : Fo} {h0 : Nat → Nat} {nd0 : Nat → Nd} {op : Int} {xs ws : List Nat} {s : FoS} {h : Nat → Nat} (I : Inv n F0 h0 nd0 op xs ws s h) (hh : ∀ w ∈ ws, w < n ∧ h0 w ≤ 200) (last : Bool) (hop : (innS last s ws).op = false) : ∀ k j, j + k = ws.length → (innS last s (ws.take j)).op = false := by
  intro k
  induction k with
  | zero => intro j hj; rw [List.take_of_length_le (by omega)]; exact hop
  | succ k ih =>
    intro j hj
    have hlt : j < ws.length := by omega
    have h1 := ih (j + 1) (by omega)
    rw [List.take_succ_eq_append_getElem hlt, innS_snoc] at h1
    cases last
    · simp only [Bool.false_eq_true, if_false] at h1
      obtain ⟨ha, A⟩ := innC I hh j
      have hwm := List.getElem_mem hlt
      obtain ⟨hw1, hw2⟩ := hh _ hwm
      have hle := I.le
      obtain ⟨hb, E⟩ := cpy_ok 200 (innS false s (ws.take j)) ha ws[j] A.ok (by have := A.le; omega) (by rw [A.hold _ (by omega), (I.sub _ hwm _ .self).2]; exact hw2)
      cases e : (innS false s (ws.take j)).op with
      | false => rfl
      | true => rw [E.op e] at h1; cases h1
    · simp only [if_true] at h1
      exact h1

theorem insN_op {n : Nat} {F0 : Fo} {h0 : Nat → Nat} {nd0 : Nat → Nd} {op : Int} {xs ws : List Nat} {s0 : FoS} (hI : ∀ i, i < xs.length → ∃ h, Inv n F0 h0 nd0 op xs ws (insN op s0 xs ws i) h) (hh : ∀ w ∈ ws, w < n ∧ h0 w ≤ 200) (hop : (insN op s0 xs ws xs.length).op = false) : ∀ k i, i + k = xs.length → (insN op s0 xs ws i).op = false := by
  intro k
  induction k with
  | zero => intro i hi; have : i = xs.length := by omega
            rw [this]; exact hop
  | succ k ih =>
    intro i hi
    obtain ⟨h, I⟩ := hI i (by omega)
    have h1 := ih (i + 1) (by omega)
    have h2 : (innS (decide (i + 1 = xs.length)) (insN op s0 xs ws i) ws).op = false := h1
    have := inn_op I hh _ h2 ws.length 0 (by omega)
    rw [List.take_zero] at this
    exact this
end Go.Proofs.Ytmhhfljbocbolaa

namespace Go.Proofs.Ytmhhfljbocbolaa
open Go.RowKit
set_option linter.unusedVariables false

def ManPost (n B : Nat) (bl : Nat → Nat) (g : Nat) (s : FoS) (w : World) (e : Ending) (w' : World) : Prop :=
  e = .returned (.pointer (some ⟨g, 0, none⟩)) ∧ ∃ bl' st', PW n B bl w s bl' st' w'

set_option maxRecDepth 100000 in
set_option maxHeartbeats 8000000 in
theorem man_1 {n : Nat} {F0 : Fo} {h0 : Nat → Nat} {nd0 : Nat → Nd} (hh : ∀ i, i < n → h0 i ≤ 200) (hal : ∀ i, i < n → (atsOf (nd0 i)).length ≤ 1000) (hn : n ≤ 200) {xs ws : List Nat} (hxs : ∀ x ∈ xs, x < n) (hws : ∀ x ∈ ws, x < n) (hxn : xs.Nodup) (hwn : ws.Nodup) (hx0 : xs ≠ [])
    (hI : ∀ i, i < xs.length → ∃ h, Inv n F0 h0 nd0 1 xs ws (insN 1 ⟨F0, n, nd0, false⟩ xs ws i) h) (hop : (insN 1 ⟨F0, n, nd0, false⟩ xs ws xs.length).op = false) {B : Nat} {bl : Nat → Nat} {st : Nat → Dn} {w : World} (hP : Prog F0 (fun i => i < n) nd0 B bl st w) (hBw : B ≤ w.heap.size)
    (C g : Nat) (doc : Option Addr) (hsel : SelOf bl xs C g doc w) {C2 : Nat} (a : Option Addr) (c : Nat) (ho2 : w.ownsRow C2 69 1 (.slice a ws.length c) ws.length (ptrs bl ws)) :
    Calls Try.prog 58 #[.pointer (some ⟨g, 0, none⟩), .slice a ws.length c, .bool false, .func (.func 59) #[] #[]] w (ManPost n B bl g (insN 1 ⟨F0, n, nd0, false⟩ xs ws xs.length) w) := by
  obtain ⟨a1, c1, prev, hsb, hCg, hown, -⟩ := hsel
  obtain ⟨z0, -, -⟩ := hsb.cells
  have hgl := hsb.lt
  have hxl : xs.length ≤ 200 := by have := nodup_len hxn hxs; omega
  have hwl : ws.length ≤ 200 := by have := nodup_len hwn hws; omega
  have hxp : 0 < xs.length := List.length_pos_iff.2 hx0
  have hrow : ∀ {C3 : Nat} {b3 : Option Addr} {k c3 : Nat} {l : List Nat}, w.ownsRow C3 69 1 (.slice b3 k c3) k (ptrs bl l) → ∀ s bl' st' wr, PW n B bl w s bl' st' wr → RSl wr wr.heap.size b3 (ptrs bl l) := fun ho s bl' st' wr H => by
    obtain ⟨_, _, hv, _, hrs⟩ := RSl.own (KTurn.own H.turn ho (fun i hi => by obtain ⟨_, _, _, hhn, _⟩ := hP.dom.node i hi; exact own_ne ho hhn (by decide)))
    cases hv
    exact hrs
  have HRow1 := Lib.hid (hrow hown)
  have HRow2 := Lib.hid (hrow ho2)
  have HSz := Lib.hid (size_sel g a1 xs.length c1 w z0)
  have HPW0 : Hid (PW n B bl w ⟨F0, n, nd0, false⟩ bl st w) := ⟨hP, fun _ _ => rfl, fun y h1 h2 => absurd (show y < n from h2) (by omega), KTurn.refl _ _ _⟩
  have HI := Lib.hid hI
  have HX := Lib.hid hxs
  have HW := Lib.hid hws
  have HWn := Lib.hid hwn
  have HAl := Lib.hid hal
  have HHt : Hid (∀ x ∈ ws, x < n ∧ h0 x ≤ 200) := fun x hx => ⟨hws x hx, hh x (hws x hx)⟩
  have HOp := Lib.hid (insN_op hI (fun x hx => ⟨hws x hx, hh x (hws x hx)⟩) hop)
  clear hsb hown ho2 hP hI hxs hws hrow hal hh hx0 hop
  go_enter Try.func58, Try.ntmps58
  go_wp2_with fail
  refine HSz.out.mono ?_
  rintro e w1 ⟨rfl, rfl⟩
  go_wp2_with fail
  go_loopw [49] (fun v wr => ∃ (i : Nat) (bl' : Nat → Nat) (st' : Nat → Dn), i ≤ xs.length ∧ v = .int .i64 i ∧ PW n B bl w1 (insN 1 ⟨F0, n, nd0, false⟩ xs ws i) bl' st' wr) (fun v _ => xs.length - (intOf v).toNat)
  case atStart => exact ⟨0, bl, st, Nat.zero_le _, rfl, HPW0.out⟩
  case round =>
    clear z0
    obtain ⟨i, bl2, st2, hi, rfl, hH⟩ := hrel
    obtain ⟨W2, rfl⟩ : ∃ W2 : World, W2 = wr := ⟨_, rfl⟩
    by_cases hlt : i < xs.length
    · obtain ⟨h2, hIv⟩ := HI.out i hlt
      have HS1 : Hid (insN 1 ⟨F0, n, nd0, false⟩ xs ws (i + 1) = insOne 1 (decide (i + 1 = xs.length)) (insN 1 ⟨F0, n, nd0, false⟩ xs ws i) xs[i] ws) := by
        show insOne 1 (decide (i + 1 = xs.length)) _ (xs.getD i 0) ws = _
        rw [List.getD_eq_getElem?_getD, List.getElem?_eq_getElem hlt, Option.getD_some]
      have HOp2 : Hid ((insN 1 ⟨F0, n, nd0, false⟩ xs ws (i + 1)).op = false) := HOp.out (xs.length - (i + 1)) (i + 1) (by omega)
      obtain ⟨b, o, rfl, hbB, hc⟩ := (HRow1.out _ _ _ _ hH).at_ (by rw [ptrs_length]; omega)
      have g1 := hc i (by rw [ptrs_length]; exact hlt)
      rw [ptrs_at hlt] at g1
      obtain ⟨s, hs⟩ : ∃ s, s = insN 1 ⟨F0, n, nd0, false⟩ xs ws i := ⟨_, rfl⟩
      rw [← hs] at hIv hH HS1
      obtain ⟨last, hlast⟩ : ∃ last, last = decide (i + 1 = xs.length) := ⟨_, rfl⟩
      rw [← hlast] at HS1
      have HLast := Lib.hid hlast
      have hxm := List.getElem_mem hlt
      have HPS : Hid (∀ j (hj : j < ws.length), _) := fun j hj => prog_step (.inl rfl) hIv HWn.out HHt.out HX.out hxm last hj
      have HOp3 : Hid (∀ j, j ≤ ws.length → (innS last s (ws.take j)).op = false) := fun j hj => inn_op hIv HHt.out last (by have := HOp2.out; rw [HS1.out] at this; exact this) (ws.length - j) j (by omega)
      have hxn2 : xs[i] < n := HX.out _ hxm
      have HLe : Hid (n ≤ s.N) := hIv.le
      obtain ⟨x, hx⟩ : ∃ x, x = xs[i] := ⟨_, rfl⟩
      rw [← hx] at g1 HS1 HPS hxn2
      have HH := Lib.hid hH
      clear hc hs hIv hlast hH hxm hx
      go_wp2_with fail
      go_loopw [56] (fun v wr => ∃ (j : Nat) (bl' : Nat → Nat) (st' : Nat → Dn), j ≤ ws.length ∧ v = .int .i64 j ∧ PW n B bl w1 (progS 1 last s x (ws.take j)) bl' st' wr) (fun v _ => ws.length - (intOf v).toNat)
      case atStart => exact ⟨0, bl2, st2, Nat.zero_le _, rfl, by rw [List.take_zero, progS_nil]; exact HH.out⟩
      case round =>
        clear g1
        obtain ⟨j, bl3, st3, hj, rfl, hH3⟩ := hrel
        obtain ⟨W3, rfl⟩ : ∃ W3 : World, W3 = wr := ⟨_, rfl⟩
        by_cases hlj : j < ws.length
        · obtain ⟨b2, o2, rfl, hbB2, hc2⟩ := (HRow2.out _ _ _ _ hH3).at_ (by rw [ptrs_length]; omega)
          have g2 := hc2 j (by rw [ptrs_length]; exact hlj)
          have hwm := HW.out _ (List.getElem_mem hlj)
          rw [ptrs_at hlj, ← hH3.old _ hwm] at g2
          obtain ⟨⟨hP', okP, hP2, wP, xP, nP, ndP⟩, hm, p, l1, l2, okM, m1, m2, m3, m4, m5, m6, m7, m8, m9⟩ := HPS.out j hlj
          have hpo : (progS 1 last s x (ws.take (j + 1))).op = false := HOp3.out (j + 1) hlj
          have HClo : Hid (∀ bl4 st4 w4, PW n B bl w1 (midS last (progS 1 last s x (ws.take j)) ws[j]) bl4 st4 w4 → Calls Try.prog 59 #[.pointer (some ⟨bl x, 0, none⟩), .pointer (some ⟨bl4 (if last then ws[j] else (progS 1 last s x (ws.take j)).N), 0, none⟩)] w4 (fun e w5 => e = .returned (.tuple #[]) ∧ ∃ st5, PW n B bl w1 (progS 1 last s x (ws.take (j + 1))) bl4 st5 w5)) := by
            intro bl4 st4 w4 H4
            rw [← H4.old x hxn2]
            refine (app_cl okM w4 B bl4 st4 H4.prog x _ m1 m2 m3 (by rw [← (m7 (by trivial)).1]; exact m5)).mono ?_
            intro e w5 hp5
            obtain ⟨e1, st5, H5⟩ := H4.put hp5
            refine ⟨e1, st5, ?_⟩
            obtain ⟨ex, el⟩ := m7 (by trivial)
            subst ex el
            rw [← m9]
            rw [m6, List.append_nil] at H5
            exact H5
          have hmop : (midS last (progS 1 last s x (ws.take j)) ws[j]).op = false := by
            have := congrArg FoS.op m9
            exact (show (midS last (progS 1 last s x (ws.take j)) ws[j]).op = _ from this).trans hpo
          cases last
          · have HCl := Lib.hid (clone_any 200 okP hH3.prog (Nat.le_trans hBw hH3.turn.size) wP (hP2 rfl) hmop (fun y hy => by obtain ⟨z, hz, e⟩ := ndP y hy; rw [e]; exact HAl.out z hz))
            have HPc : Hid (∀ e w4, ClonePost (progS 1 false s x (ws.take j)) (cpy 200 (progS 1 false s x (ws.take j)) ws[j]) B bl3 W3 e w4 → ∃ bl4 st4, e = .returned (.pointer (some ⟨bl4 (progS 1 false s x (ws.take j)).N, 0, none⟩)) ∧ PW n B bl w1 (midS false (progS 1 false s x (ws.take j)) ws[j]) bl4 st4 w4) := fun e w4 hp => hH3.clone nP hp
            have hne : ((i : Int) != (xs.length : Int) - 1) = true := by
              have := HLast.out
              have : ¬ (i + 1 = xs.length) := of_decide_eq_false this.symm
              simp; omega
            simp only [Bool.false_eq_true, if_false] at HClo
            obtain ⟨y, hy⟩ : ∃ y, y = bl3 ws[j] := ⟨_, rfl⟩
            rw [← hy] at g2 HCl
            clear hc2 hH3 hwm hy okP hP2 wP xP nP ndP okM m1 m2 m3 m4 m5 m6 m7 m8 m9 hpo hmop hm HLast HPS HOp3
            go_wp2_with fail
            refine HCl.out.mono ?_
            intro e w4 hp4
            obtain ⟨bl4, st4, rfl, hH4⟩ := HPc.out e w4 hp4
            have HC4 := Lib.hid (HClo.out bl4 st4 w4 hH4)
            clear hp4 hH4 g2
            go_wp2_with fail
            refine HC4.out.mono ?_
            rintro e w5 ⟨rfl, st5, hH5⟩
            have HH5 := Lib.hid hH5
            clear hH5
            go_wp2_with fail
            go_roundw
            case rel => exact ⟨j + 1, bl4, st5, hlj, by go_num, HH5.out⟩
            case measure => simp [intOf]; omega
          · have hne : ((i : Int) != (xs.length : Int) - 1) = false := by
              have := HLast.out
              have : i + 1 = xs.length := of_decide_eq_true this.symm
              simp; omega
            simp only [if_true] at HClo
            obtain ⟨-, c0, -⟩ := hH3.prog.dom.cells wP
            rw [(hH3.prog.fit _ wP).par] at c0
            cases hp0 : (progS 1 true s x (ws.take j)).F.par ws[j] with
            | none =>
              rw [hp0] at c0
              simp only [ptrTo, Option.map_none] at c0
              have hH4 : PW n B bl w1 (midS true (progS 1 true s x (ws.take j)) ws[j]) bl3 st3 W3 := by
                have e : midS true (progS 1 true s x (ws.take j)) ws[j] = progS 1 true s x (ws.take j) := by
                  show { progS 1 true s x (ws.take j) with F := (progS 1 true s x (ws.take j)).F.cut ws[j] } = _
                  rw [Fo.cut_none okP hp0]
                rw [e]; exact hH3
              have HC4 := Lib.hid (HClo.out bl3 st3 W3 hH4)
              obtain ⟨y, hy⟩ : ∃ y, y = bl3 ws[j] := ⟨_, rfl⟩
              rw [← hy] at g2 HC4 c0
              clear hc2 hH3 hwm hy okP hP2 wP xP nP ndP okM m1 m2 m3 m4 m5 m6 m7 m8 m9 hpo hmop hm HLast HPS HOp3 hH4 hp0
              go_wp2_with fail
              refine HC4.out.mono ?_
              rintro e w5 ⟨rfl, st5, hH5⟩
              have HH5 := Lib.hid hH5
              clear hH5
              go_wp2_with fail
              go_roundw
              case rel => exact ⟨j + 1, bl3, st5, hlj, by go_num, HH5.out⟩
              case measure => simp [intOf]; omega
            | some q =>
              rw [hp0] at c0
              simp only [ptrTo, Option.map_some] at c0
              have HRem := Lib.hid (removeP_any okP W3 B bl3 st3 hH3.prog q ws[j] hp0)
              have HPut : Hid (∀ e w4, TurnPost ((progS 1 true s x (ws.take j)).F.cut ws[j]) (fun i => i < (progS 1 true s x (ws.take j)).N) (progS 1 true s x (ws.take j)).nd B bl3 W3 e w4 → e = .returned (.tuple #[]) ∧ ∃ st4, PW n B bl w1 (midS true (progS 1 true s x (ws.take j)) ws[j]) bl3 st4 w4) := fun e w4 hp => hH3.put hp
              obtain ⟨y, hy⟩ : ∃ y, y = bl3 ws[j] := ⟨_, rfl⟩
              have HClo2 : Hid (∀ st4 w4, PW n B bl w1 (midS true (progS 1 true s x (ws.take j)) ws[j]) bl3 st4 w4 → Calls Try.prog 59 #[.pointer (some ⟨bl x, 0, none⟩), .pointer (some ⟨y, 0, none⟩)] w4 (fun e w5 => e = .returned (.tuple #[]) ∧ ∃ st5, PW n B bl w1 (progS 1 true s x (ws.take (j + 1))) bl3 st5 w5)) := fun st4 w4 H4 => by rw [hy]; exact HClo.out bl3 st4 w4 H4
              rw [← hy] at g2 HRem c0
              clear hc2 hH3 hwm hy okP hP2 wP xP nP ndP okM m1 m2 m3 m4 m5 m6 m7 m8 m9 hpo hmop hm HLast HPS HOp3 hp0 HClo
              go_wp2_with fail
              refine HRem.out.mono ?_
              intro e w4 hp4
              obtain ⟨rfl, st4, hH4⟩ := HPut.out e w4 hp4
              have HC4 := Lib.hid (HClo2.out st4 w4 hH4)
              clear hp4 hH4 g2 c0
              go_wp2_with fail
              refine HC4.out.mono ?_
              rintro e w5 ⟨rfl, st5, hH5⟩
              have HH5 := Lib.hid hH5
              clear hH5
              go_wp2_with fail
              go_roundw
              case rel => exact ⟨j + 1, bl3, st5, hlj, by go_num, HH5.out⟩
              case measure => simp [intOf]; omega
        · have ej : j = ws.length := by omega
          rw [ej, List.take_length] at hH3
          have HH4 : Hid (PW n B bl w1 (insN 1 ⟨F0, n, nd0, false⟩ xs ws (i + 1)) bl3 st3 W3) := by rw [Hid, HS1.out]; exact hH3
          clear hH3 ej HPS HOp3
          go_wp2_with fail
          go_roundw
          case rel => exact ⟨i + 1, bl3, st3, hlt, by go_num, HH4.out⟩
          case measure => simp [intOf]; omega
    · have e : i = xs.length := by omega
      rw [e] at hH
      have HH := Lib.hid hH
      clear hH
      go_wp2_with fail
      go_ret
      exact ⟨rfl, bl2, st2, HH.out⟩

set_option maxRecDepth 100000 in
set_option maxHeartbeats 8000000 in
theorem man_4 {n : Nat} {F0 : Fo} {h0 : Nat → Nat} {nd0 : Nat → Nd} (hh : ∀ i, i < n → h0 i ≤ 200) (hal : ∀ i, i < n → (atsOf (nd0 i)).length ≤ 1000) (hn : n ≤ 200) {xs ws : List Nat} (hxs : ∀ x ∈ xs, x < n) (hws : ∀ x ∈ ws, x < n) (hxn : xs.Nodup) (hwn : ws.Nodup) (hx0 : xs ≠ [])
    (hI : ∀ i, i < xs.length → ∃ h, Inv n F0 h0 nd0 4 xs ws (insN 4 ⟨F0, n, nd0, false⟩ xs ws i) h) (hop : (insN 4 ⟨F0, n, nd0, false⟩ xs ws xs.length).op = false) {B : Nat} {bl : Nat → Nat} {st : Nat → Dn} {w : World} (hP : Prog F0 (fun i => i < n) nd0 B bl st w) (hBw : B ≤ w.heap.size)
    (C g : Nat) (doc : Option Addr) (hsel : SelOf bl xs C g doc w) {C2 : Nat} (a : Option Addr) (c : Nat) (ho2 : w.ownsRow C2 69 1 (.slice a ws.length c) ws.length (ptrs bl ws)) :
    Calls Try.prog 58 #[.pointer (some ⟨g, 0, none⟩), .slice a ws.length c, .bool false, .func (.func 61) #[] #[]] w (ManPost n B bl g (insN 4 ⟨F0, n, nd0, false⟩ xs ws xs.length) w) := by
  obtain ⟨a1, c1, prev, hsb, hCg, hown, -⟩ := hsel
  obtain ⟨z0, -, -⟩ := hsb.cells
  have hgl := hsb.lt
  have hxl : xs.length ≤ 200 := by have := nodup_len hxn hxs; omega
  have hwl : ws.length ≤ 200 := by have := nodup_len hwn hws; omega
  have hxp : 0 < xs.length := List.length_pos_iff.2 hx0
  have hrow : ∀ {C3 : Nat} {b3 : Option Addr} {k c3 : Nat} {l : List Nat}, w.ownsRow C3 69 1 (.slice b3 k c3) k (ptrs bl l) → ∀ s bl' st' wr, PW n B bl w s bl' st' wr → RSl wr wr.heap.size b3 (ptrs bl l) := fun ho s bl' st' wr H => by
    obtain ⟨_, _, hv, _, hrs⟩ := RSl.own (KTurn.own H.turn ho (fun i hi => by obtain ⟨_, _, _, hhn, _⟩ := hP.dom.node i hi; exact own_ne ho hhn (by decide)))
    cases hv
    exact hrs
  have HRow1 := Lib.hid (hrow hown)
  have HRow2 := Lib.hid (hrow ho2)
  have HSz := Lib.hid (size_sel g a1 xs.length c1 w z0)
  have HPW0 : Hid (PW n B bl w ⟨F0, n, nd0, false⟩ bl st w) := ⟨hP, fun _ _ => rfl, fun y h1 h2 => absurd (show y < n from h2) (by omega), KTurn.refl _ _ _⟩
  have HI := Lib.hid hI
  have HX := Lib.hid hxs
  have HW := Lib.hid hws
  have HWn := Lib.hid hwn
  have HAl := Lib.hid hal
  have HHt : Hid (∀ x ∈ ws, x < n ∧ h0 x ≤ 200) := fun x hx => ⟨hws x hx, hh x (hws x hx)⟩
  have HOp := Lib.hid (insN_op hI (fun x hx => ⟨hws x hx, hh x (hws x hx)⟩) hop)
  clear hsb hown ho2 hP hI hxs hws hrow hal hh hx0 hop
  go_enter Try.func58, Try.ntmps58
  go_wp2_with fail
  refine HSz.out.mono ?_
  rintro e w1 ⟨rfl, rfl⟩
  go_wp2_with fail
  go_loopw [49] (fun v wr => ∃ (i : Nat) (bl' : Nat → Nat) (st' : Nat → Dn), i ≤ xs.length ∧ v = .int .i64 i ∧ PW n B bl w1 (insN 4 ⟨F0, n, nd0, false⟩ xs ws i) bl' st' wr) (fun v _ => xs.length - (intOf v).toNat)
  case atStart => exact ⟨0, bl, st, Nat.zero_le _, rfl, HPW0.out⟩
  case round =>
    clear z0
    obtain ⟨i, bl2, st2, hi, rfl, hH⟩ := hrel
    obtain ⟨W2, rfl⟩ : ∃ W2 : World, W2 = wr := ⟨_, rfl⟩
    by_cases hlt : i < xs.length
    · obtain ⟨h2, hIv⟩ := HI.out i hlt
      have HS1 : Hid (insN 4 ⟨F0, n, nd0, false⟩ xs ws (i + 1) = insOne 4 (decide (i + 1 = xs.length)) (insN 4 ⟨F0, n, nd0, false⟩ xs ws i) xs[i] ws) := by
        show insOne 4 (decide (i + 1 = xs.length)) _ (xs.getD i 0) ws = _
        rw [List.getD_eq_getElem?_getD, List.getElem?_eq_getElem hlt, Option.getD_some]
      have HOp2 : Hid ((insN 4 ⟨F0, n, nd0, false⟩ xs ws (i + 1)).op = false) := HOp.out (xs.length - (i + 1)) (i + 1) (by omega)
      obtain ⟨b, o, rfl, hbB, hc⟩ := (HRow1.out _ _ _ _ hH).at_ (by rw [ptrs_length]; omega)
      have g1 := hc i (by rw [ptrs_length]; exact hlt)
      rw [ptrs_at hlt] at g1
      obtain ⟨s, hs⟩ : ∃ s, s = insN 4 ⟨F0, n, nd0, false⟩ xs ws i := ⟨_, rfl⟩
      rw [← hs] at hIv hH HS1
      obtain ⟨last, hlast⟩ : ∃ last, last = decide (i + 1 = xs.length) := ⟨_, rfl⟩
      rw [← hlast] at HS1
      have HLast := Lib.hid hlast
      have hxm := List.getElem_mem hlt
      have HPS : Hid (∀ j (hj : j < ws.length), _) := fun j hj => prog_step (.inr rfl) hIv HWn.out HHt.out HX.out hxm last hj
      have HOp3 : Hid (∀ j, j ≤ ws.length → (innS last s (ws.take j)).op = false) := fun j hj => inn_op hIv HHt.out last (by have := HOp2.out; rw [HS1.out] at this; exact this) (ws.length - j) j (by omega)
      have hxn2 : xs[i] < n := HX.out _ hxm
      have HLe : Hid (n ≤ s.N) := hIv.le
      obtain ⟨x, hx⟩ : ∃ x, x = xs[i] := ⟨_, rfl⟩
      rw [← hx] at g1 HS1 HPS hxn2
      have HH := Lib.hid hH
      clear hc hs hIv hlast hH hxm hx
      go_wp2_with fail
      go_loopw [56] (fun v wr => ∃ (j : Nat) (bl' : Nat → Nat) (st' : Nat → Dn), j ≤ ws.length ∧ v = .int .i64 j ∧ PW n B bl w1 (progS 4 last s x (ws.take j)) bl' st' wr) (fun v _ => ws.length - (intOf v).toNat)
      case atStart => exact ⟨0, bl2, st2, Nat.zero_le _, rfl, by rw [List.take_zero, progS_nil]; exact HH.out⟩
      case round =>
        clear g1
        obtain ⟨j, bl3, st3, hj, rfl, hH3⟩ := hrel
        obtain ⟨W3, rfl⟩ : ∃ W3 : World, W3 = wr := ⟨_, rfl⟩
        by_cases hlj : j < ws.length
        · obtain ⟨b2, o2, rfl, hbB2, hc2⟩ := (HRow2.out _ _ _ _ hH3).at_ (by rw [ptrs_length]; omega)
          have g2 := hc2 j (by rw [ptrs_length]; exact hlj)
          have hwm := HW.out _ (List.getElem_mem hlj)
          rw [ptrs_at hlj, ← hH3.old _ hwm] at g2
          obtain ⟨⟨hP', okP, hP2, wP, xP, nP, ndP⟩, hm, p, l1, l2, okM, m1, m2, m3, m4, m5, m6, m7, m8, m9⟩ := HPS.out j hlj
          have hpo : (progS 4 last s x (ws.take (j + 1))).op = false := HOp3.out (j + 1) hlj
          have HClo : Hid (∀ bl4 st4 w4, PW n B bl w1 (midS last (progS 4 last s x (ws.take j)) ws[j]) bl4 st4 w4 → Calls Try.prog 61 #[.pointer (some ⟨bl x, 0, none⟩), .pointer (some ⟨bl4 (if last then ws[j] else (progS 4 last s x (ws.take j)).N), 0, none⟩)] w4 (fun e w5 => e = .returned (.tuple #[]) ∧ ∃ st5, PW n B bl w1 (progS 4 last s x (ws.take (j + 1))) bl4 st5 w5)) := by
            intro bl4 st4 w4 H4
            rw [← H4.old x hxn2]
            refine (bef_cl okM w4 B bl4 st4 H4.prog x p _ (m8 (by trivial)).1 m2 m3 m5 l1 l2 m6 (m8 (by trivial)).2).mono ?_
            intro e w5 hp5
            obtain ⟨e1, st5, H5⟩ := H4.put hp5
            refine ⟨e1, st5, ?_⟩
            rw [← m9]
            exact H5
          have hmop : (midS last (progS 4 last s x (ws.take j)) ws[j]).op = false := by
            have := congrArg FoS.op m9
            exact (show (midS last (progS 4 last s x (ws.take j)) ws[j]).op = _ from this).trans hpo
          cases last
          · have HCl := Lib.hid (clone_any 200 okP hH3.prog (Nat.le_trans hBw hH3.turn.size) wP (hP2 rfl) hmop (fun y hy => by obtain ⟨z, hz, e⟩ := ndP y hy; rw [e]; exact HAl.out z hz))
            have HPc : Hid (∀ e w4, ClonePost (progS 4 false s x (ws.take j)) (cpy 200 (progS 4 false s x (ws.take j)) ws[j]) B bl3 W3 e w4 → ∃ bl4 st4, e = .returned (.pointer (some ⟨bl4 (progS 4 false s x (ws.take j)).N, 0, none⟩)) ∧ PW n B bl w1 (midS false (progS 4 false s x (ws.take j)) ws[j]) bl4 st4 w4) := fun e w4 hp => hH3.clone nP hp
            have hne : ((i : Int) != (xs.length : Int) - 1) = true := by
              have := HLast.out
              have : ¬ (i + 1 = xs.length) := of_decide_eq_false this.symm
              simp; omega
            simp only [Bool.false_eq_true, if_false] at HClo
            obtain ⟨y, hy⟩ : ∃ y, y = bl3 ws[j] := ⟨_, rfl⟩
            rw [← hy] at g2 HCl
            clear hc2 hH3 hwm hy okP hP2 wP xP nP ndP okM m1 m2 m3 m4 m5 m6 m7 m8 m9 hpo hmop hm HLast HPS HOp3
            go_wp2_with fail
            refine HCl.out.mono ?_
            intro e w4 hp4
            obtain ⟨bl4, st4, rfl, hH4⟩ := HPc.out e w4 hp4
            have HC4 := Lib.hid (HClo.out bl4 st4 w4 hH4)
            clear hp4 hH4 g2
            go_wp2_with fail
            refine HC4.out.mono ?_
            rintro e w5 ⟨rfl, st5, hH5⟩
            have HH5 := Lib.hid hH5
            clear hH5
            go_wp2_with fail
            go_roundw
            case rel => exact ⟨j + 1, bl4, st5, hlj, by go_num, HH5.out⟩
            case measure => simp [intOf]; omega
          · have hne : ((i : Int) != (xs.length : Int) - 1) = false := by
              have := HLast.out
              have : i + 1 = xs.length := of_decide_eq_true this.symm
              simp; omega
            simp only [if_true] at HClo
            obtain ⟨-, c0, -⟩ := hH3.prog.dom.cells wP
            rw [(hH3.prog.fit _ wP).par] at c0
            cases hp0 : (progS 4 true s x (ws.take j)).F.par ws[j] with
            | none =>
              rw [hp0] at c0
              simp only [ptrTo, Option.map_none] at c0
              have hH4 : PW n B bl w1 (midS true (progS 4 true s x (ws.take j)) ws[j]) bl3 st3 W3 := by
                have e : midS true (progS 4 true s x (ws.take j)) ws[j] = progS 4 true s x (ws.take j) := by
                  show { progS 4 true s x (ws.take j) with F := (progS 4 true s x (ws.take j)).F.cut ws[j] } = _
                  rw [Fo.cut_none okP hp0]
                rw [e]; exact hH3
              have HC4 := Lib.hid (HClo.out bl3 st3 W3 hH4)
              obtain ⟨y, hy⟩ : ∃ y, y = bl3 ws[j] := ⟨_, rfl⟩
              rw [← hy] at g2 HC4 c0
              clear hc2 hH3 hwm hy okP hP2 wP xP nP ndP okM m1 m2 m3 m4 m5 m6 m7 m8 m9 hpo hmop hm HLast HPS HOp3 hH4 hp0
              go_wp2_with fail
              refine HC4.out.mono ?_
              rintro e w5 ⟨rfl, st5, hH5⟩
              have HH5 := Lib.hid hH5
              clear hH5
              go_wp2_with fail
              go_roundw
              case rel => exact ⟨j + 1, bl3, st5, hlj, by go_num, HH5.out⟩
              case measure => simp [intOf]; omega
            | some q =>
              rw [hp0] at c0
              simp only [ptrTo, Option.map_some] at c0
              have HRem := Lib.hid (removeP_any okP W3 B bl3 st3 hH3.prog q ws[j] hp0)
              have HPut : Hid (∀ e w4, TurnPost ((progS 4 true s x (ws.take j)).F.cut ws[j]) (fun i => i < (progS 4 true s x (ws.take j)).N) (progS 4 true s x (ws.take j)).nd B bl3 W3 e w4 → e = .returned (.tuple #[]) ∧ ∃ st4, PW n B bl w1 (midS true (progS 4 true s x (ws.take j)) ws[j]) bl3 st4 w4) := fun e w4 hp => hH3.put hp
              obtain ⟨y, hy⟩ : ∃ y, y = bl3 ws[j] := ⟨_, rfl⟩
              have HClo2 : Hid (∀ st4 w4, PW n B bl w1 (midS true (progS 4 true s x (ws.take j)) ws[j]) bl3 st4 w4 → Calls Try.prog 61 #[.pointer (some ⟨bl x, 0, none⟩), .pointer (some ⟨y, 0, none⟩)] w4 (fun e w5 => e = .returned (.tuple #[]) ∧ ∃ st5, PW n B bl w1 (progS 4 true s x (ws.take (j + 1))) bl3 st5 w5)) := fun st4 w4 H4 => by rw [hy]; exact HClo.out bl3 st4 w4 H4
              rw [← hy] at g2 HRem c0
              clear hc2 hH3 hwm hy okP hP2 wP xP nP ndP okM m1 m2 m3 m4 m5 m6 m7 m8 m9 hpo hmop hm HLast HPS HOp3 hp0 HClo
              go_wp2_with fail
              refine HRem.out.mono ?_
              intro e w4 hp4
              obtain ⟨rfl, st4, hH4⟩ := HPut.out e w4 hp4
              have HC4 := Lib.hid (HClo2.out st4 w4 hH4)
              clear hp4 hH4 g2 c0
              go_wp2_with fail
              refine HC4.out.mono ?_
              rintro e w5 ⟨rfl, st5, hH5⟩
              have HH5 := Lib.hid hH5
              clear hH5
              go_wp2_with fail
              go_roundw
              case rel => exact ⟨j + 1, bl3, st5, hlj, by go_num, HH5.out⟩
              case measure => simp [intOf]; omega
        · have ej : j = ws.length := by omega
          rw [ej, List.take_length] at hH3
          have HH4 : Hid (PW n B bl w1 (insN 4 ⟨F0, n, nd0, false⟩ xs ws (i + 1)) bl3 st3 W3) := by rw [Hid, HS1.out]; exact hH3
          clear hH3 ej HPS HOp3
          go_wp2_with fail
          go_roundw
          case rel => exact ⟨i + 1, bl3, st3, hlt, by go_num, HH4.out⟩
          case measure => simp [intOf]; omega
    · have e : i = xs.length := by omega
      rw [e] at hH
      have HH := Lib.hid hH
      clear hH
      go_wp2_with fail
      go_ret
      exact ⟨rfl, bl2, st2, HH.out⟩
end Go.Proofs.Ytmhhfljbocbolaa

namespace Go.Proofs.Ytmhhfljbocbolaa
open Go.RowKit
set_option linter.unusedVariables false

theorem InsP.ord {n : Nat} {F0 : Fo} {nd0 : Nat → Nd} {op : Int} {l l2 : List Int} {xs ws : List Nat} (h : InsP n F0 nd0 op l l2 xs ws) : OrdP n l xs ∧ OrdP n l2 ws := ⟨h.1.ord, h.2.2.1.ord⟩
theorem ats_small {t : List Nd} (hR : RightP t) {i : Nat} (hi : i < t.length) : (atsOf (ndT t i)).length ≤ 1000 := by
  unfold atsOf
  split
  · simp
  · exact nd_small hR hi

set_option maxRecDepth 100000 in
set_option maxHeartbeats 2000000 in
theorem AppendNodes_nodes {n B : Nat} {bl : Nat → Nat} {s : FoS} (w : World) (g : Nat) (a : Option Addr) (m c : Nat) (h : Calls Try.prog 58 #[.pointer (some ⟨g, 0, none⟩), .slice a m c, .bool false, .func (.func 59) #[] #[]] w (ManPost n B bl g s w)) :
    Calls Try.prog 39 #[.pointer (some ⟨g, 0, none⟩), .slice a m c] w (ManPost n B bl g s w) := by
  have H := Lib.hid h
  clear h
  go_enter Try.func39, Try.ntmps39
  go_wp2_with fail
  refine H.out.mono ?_
  rintro e w2 ⟨rfl, h2⟩
  have H2 := Lib.hid h2
  clear h2
  go_wp2_with fail
  go_ret
  exact ⟨rfl, H2.out⟩

set_option maxRecDepth 100000 in
set_option maxHeartbeats 4000000 in
theorem of_1 (a : Option Addr) (c : Nat) (t : List Nd) (hR : RightP t) (ad : Option Addr) (c2 : Nat) (l : List Int) (ad3 : Option Addr) (c3 : Nat) (l2 : List Int) (xs ws : List Nat) (hIP : InsP t.length (fo0 t) (ndT t) 1 l l2 xs ws) (hop : (insE 1 t xs ws).op = false) {h' : Nat → Nat} (ok : (insE 1 t xs ws).F.Ok (fun i => i < (insE 1 t xs ws).N) h')
    (hl : l.length ≤ 2147483647) (hl2 : l2.length ≤ 2147483647) (w : World) (h : NSl w w.heap.size a t) (hi : ISl w w.heap.size ad l) (hi2 : ISl w w.heap.size ad3 l2) :
    Calls Try.prog 22 #[.slice a t.length c, .slice ad l.length c2, .slice ad3 l2.length c3] w (OfPost (insE 1 t xs ws).F h' (insE 1 t xs ws).nd t.length w) := by
  have HSl := Lib.hid (selected_any a c t hR ad c2 l xs hIP.ord.1 hl w h hi)
  have HR := Lib.hid hR
  have HOk := Lib.hid ok
  have HNb : Hid (∀ i, i < t.length → NdB (ndT t i)) := fun i hi => by
    unfold ndT; rw [getD_at hi]
    exact (h.2.1 _ (List.getElem_mem hi)).ndb
  obtain ⟨-, -, k1, k2, k3⟩ := ins_final hR (.inl rfl) hIP
  have HK3 := Lib.hid k3
  have hpos := hR.pos
  have hle := hR.le
  have HThese : Hid (∀ W L bl st, Below w.heap.size w W → L < W.heap.size → Tree t W w.heap.size L bl st → Calls Try.prog 38 #[.slice (some ⟨L, 0, none⟩) t.length t.length, .slice ad3 l2.length c3] W (ThesePost bl ws W)) := fun W L bl st hb hL hT => these_any t hR.le _ L bl st ad3 c3 l2 ws hIP.ord.2 hl2 W hL hT (hi2.up hb)
  have HMan : Hid (∀ W bl st g doc a4 c4 C2, w.heap.size ≤ W.heap.size → Prog (fo0 t) (fun i => i < t.length) (ndT t) w.heap.size bl st W → SelOf bl xs w.heap.size g doc W → W.ownsRow C2 69 1 (.slice a4 ws.length c4) ws.length (ptrs bl ws) → Calls Try.prog 39 #[.pointer (some ⟨g, 0, none⟩), .slice a4 ws.length c4] W (ManPost t.length w.heap.size bl g (insE 1 t xs ws) W)) := fun W bl st g doc a4 c4 C2 hs hP hsel ho =>
    AppendNodes_nodes W g a4 ws.length c4 (man_1 (fun i hi => sz_le hR hi) (fun i hi => ats_small hR hi) hR.le (fun x hx => (hIP.1.rng x hx).2) (fun x hx => (hIP.2.2.1.rng x hx).2) hIP.1.nodup hIP.2.2.1.nodup hIP.2.1 (fun i hi => by obtain ⟨hh, I, _⟩ := ins_inv hR (.inl rfl) hIP i hi; exact ⟨hh, I⟩) hop hP hs _ g doc hsel a4 c4 ho)
  clear hR h hi hi2 hIP ok k3
  go_enter Try.func22, Try.ntmps22
  go_wp2_with fail
  refine HSl.out.mono ?_
  rintro e w1 ⟨L, bl, st, gw, g0, g, doc, rfl, hL, hT, hW, hsel, hgw, hb1⟩
  have HT := Lib.hid hT
  have HW := Lib.hid hW
  have HB1 := Lib.hid hb1
  have HSel := Lib.hid hsel
  have hgl : gw < w1.heap.size := (Array.getElem?_eq_some_iff.1 hW).1
  have z0 : w1.cell? ⟨gw, 0, none⟩ = some (.slice (some ⟨L, 0, none⟩) t.length t.length) := cell_of_row w1 gw 0 _ _ _ hW
  have HTh := Lib.hid (HThese.out w1 L bl st hb1 hL hT)
  clear hT hW hb1 hsel
  go_wp2_with fail
  refine HTh.out.mono ?_
  rintro e w2 ⟨a1, c1, rfl, hown, hb2⟩
  have HB2 := Lib.hid (bnext HB1.out hb2)
  have HT2 := Lib.hid (HT.out.kept hb2)
  have HW2 : Hid (WorldB w2 gw L t.length g0) := (hb2.block gw hgl).trans HW.out
  have HSel2 : Hid (SelOf bl xs w.heap.size g doc w2) := by
    obtain ⟨q1, q2, q3, q4, q5, q6, q7⟩ := HSel.out
    exact ⟨q1, q2, q3, q4.below hb2 q4.lt, q5, own_kept q6 (fun b _ h2 => hb2.block b h2), q7⟩
  have HMn := Lib.hid (HMan.out w2 bl st g doc a1 c1 _ HB2.out.size (HT2.out.prog HR.out) HSel2.out hown)
  clear hown hb2 z0
  go_wp2_with fail
  refine HMn.out.mono ?_
  rintro e w3 ⟨rfl, bl2, st2, hH⟩
  have hP3 := hH.prog
  have hW3 : WorldB w3 gw L t.length g0 := (hH.turn.block gw (Array.getElem?_eq_some_iff.1 HW2.out).1 (fun i hi e => by
    obtain ⟨_, _, _, hh, _⟩ := HT2.out.dom.node i hi
    exact types_ne HW2.out hh (by decide) e)).trans HW2.out
  have hL3 : ∀ j, j < t.length → w3.cell? ⟨L, j, none⟩ = some (.pointer (some ⟨bl2 j, 0, none⟩)) := fun j hj => by
    obtain ⟨cur, h1, h2, h3⟩ := HT2.out.row
    have h4 := hH.turn.block L (Array.getElem?_eq_some_iff.1 h1).1 (fun i hi e => by
      obtain ⟨_, _, _, hh, _⟩ := HT2.out.dom.node i hi
      exact types_ne h1 hh (by decide) e)
    rw [cell_of_row w3 L j _ _ _ (h4.trans h1), h3 j hj, hH.old j hj]; rfl
  have HB3 : Hid (Below w.heap.size w w3) := by
    have h5 := hH.turn.below (B := w.heap.size) HB2.out.size (fun i hi => (HT2.out.dom.node i hi).1)
    exact HB2.out.trans h5
  have hlen : ((insE 1 t xs ws).F.all h' 0).length ≤ 100000 := by
    have := all_bound HOk.out (n := (insE 1 t xs ws).N) (x := 0) (fun i hi => hi) (by omega)
    omega
  have HEn := Lib.hid (ends_any HOk.out (fun i hi => by obtain ⟨z, hz, e⟩ := HK3.out i hi; rw [e]; exact ndG_of HR.out hz) (fun i hi => by obtain ⟨z, hz, e⟩ := HK3.out i hi; rw [e]; exact HNb.out z hz) hpos hle (fun i hi => by omega) hlen w3 hP3 gw L g0 hW3 hL3)
  clear hP3 hW3 hL3 hH hlen
  go_wp2_with fail
  refine HEn.out.mono ?_
  rintro e w4 ⟨a3, m3, c3', a4, m4, c4, rfl, hOut, hb3⟩
  have HFin : Hid (OfPost (insE 1 t xs ws).F h' (insE 1 t xs ws).nd t.length w (.returned (.tuple #[.slice a3 m3 c3', .slice a4 m4 c4, .bool true])) w4) :=
    ⟨_, _, _, _, _, _, rfl, hOut, bnext HB3.out hb3⟩
  clear hOut hb3
  go_wp2_with fail
  go_ret3
  exact HFin.out

set_option maxRecDepth 100000 in
set_option maxHeartbeats 2000000 in
theorem BeforeNodes_nodes {n B : Nat} {bl : Nat → Nat} {s : FoS} (w : World) (g : Nat) (a : Option Addr) (m c : Nat) (h : Calls Try.prog 58 #[.pointer (some ⟨g, 0, none⟩), .slice a m c, .bool false, .func (.func 61) #[] #[]] w (ManPost n B bl g s w)) :
    Calls Try.prog 42 #[.pointer (some ⟨g, 0, none⟩), .slice a m c] w (ManPost n B bl g s w) := by
  have H := Lib.hid h
  clear h
  go_enter Try.func42, Try.ntmps42
  go_wp2_with fail
  refine H.out.mono ?_
  rintro e w2 ⟨rfl, h2⟩
  have H2 := Lib.hid h2
  clear h2
  go_wp2_with fail
  go_ret
  exact ⟨rfl, H2.out⟩

set_option maxRecDepth 100000 in
set_option maxHeartbeats 4000000 in
theorem of_4 (a : Option Addr) (c : Nat) (t : List Nd) (hR : RightP t) (ad : Option Addr) (c2 : Nat) (l : List Int) (ad3 : Option Addr) (c3 : Nat) (l2 : List Int) (xs ws : List Nat) (hIP : InsP t.length (fo0 t) (ndT t) 4 l l2 xs ws) (hop : (insE 4 t xs ws).op = false) {h' : Nat → Nat} (ok : (insE 4 t xs ws).F.Ok (fun i => i < (insE 4 t xs ws).N) h')
    (hl : l.length ≤ 2147483647) (hl2 : l2.length ≤ 2147483647) (w : World) (h : NSl w w.heap.size a t) (hi : ISl w w.heap.size ad l) (hi2 : ISl w w.heap.size ad3 l2) :
    Calls Try.prog 24 #[.slice a t.length c, .slice ad l.length c2, .slice ad3 l2.length c3] w (OfPost (insE 4 t xs ws).F h' (insE 4 t xs ws).nd t.length w) := by
  have HSl := Lib.hid (selected_any a c t hR ad c2 l xs hIP.ord.1 hl w h hi)
  have HR := Lib.hid hR
  have HOk := Lib.hid ok
  have HNb : Hid (∀ i, i < t.length → NdB (ndT t i)) := fun i hi => by
    unfold ndT; rw [getD_at hi]
    exact (h.2.1 _ (List.getElem_mem hi)).ndb
  obtain ⟨-, -, k1, k2, k3⟩ := ins_final hR (.inr (.inr rfl)) hIP
  have HK3 := Lib.hid k3
  have hpos := hR.pos
  have hle := hR.le
  have HThese : Hid (∀ W L bl st, Below w.heap.size w W → L < W.heap.size → Tree t W w.heap.size L bl st → Calls Try.prog 38 #[.slice (some ⟨L, 0, none⟩) t.length t.length, .slice ad3 l2.length c3] W (ThesePost bl ws W)) := fun W L bl st hb hL hT => these_any t hR.le _ L bl st ad3 c3 l2 ws hIP.ord.2 hl2 W hL hT (hi2.up hb)
  have HMan : Hid (∀ W bl st g doc a4 c4 C2, w.heap.size ≤ W.heap.size → Prog (fo0 t) (fun i => i < t.length) (ndT t) w.heap.size bl st W → SelOf bl xs w.heap.size g doc W → W.ownsRow C2 69 1 (.slice a4 ws.length c4) ws.length (ptrs bl ws) → Calls Try.prog 42 #[.pointer (some ⟨g, 0, none⟩), .slice a4 ws.length c4] W (ManPost t.length w.heap.size bl g (insE 4 t xs ws) W)) := fun W bl st g doc a4 c4 C2 hs hP hsel ho =>
    BeforeNodes_nodes W g a4 ws.length c4 (man_4 (fun i hi => sz_le hR hi) (fun i hi => ats_small hR hi) hR.le (fun x hx => (hIP.1.rng x hx).2) (fun x hx => (hIP.2.2.1.rng x hx).2) hIP.1.nodup hIP.2.2.1.nodup hIP.2.1 (fun i hi => by obtain ⟨hh, I, _⟩ := ins_inv hR (.inr (.inr rfl)) hIP i hi; exact ⟨hh, I⟩) hop hP hs _ g doc hsel a4 c4 ho)
  clear hR h hi hi2 hIP ok k3
  go_enter Try.func24, Try.ntmps24
  go_wp2_with fail
  refine HSl.out.mono ?_
  rintro e w1 ⟨L, bl, st, gw, g0, g, doc, rfl, hL, hT, hW, hsel, hgw, hb1⟩
  have HT := Lib.hid hT
  have HW := Lib.hid hW
  have HB1 := Lib.hid hb1
  have HSel := Lib.hid hsel
  have hgl : gw < w1.heap.size := (Array.getElem?_eq_some_iff.1 hW).1
  have z0 : w1.cell? ⟨gw, 0, none⟩ = some (.slice (some ⟨L, 0, none⟩) t.length t.length) := cell_of_row w1 gw 0 _ _ _ hW
  have HTh := Lib.hid (HThese.out w1 L bl st hb1 hL hT)
  clear hT hW hb1 hsel
  go_wp2_with fail
  refine HTh.out.mono ?_
  rintro e w2 ⟨a1, c1, rfl, hown, hb2⟩
  have HB2 := Lib.hid (bnext HB1.out hb2)
  have HT2 := Lib.hid (HT.out.kept hb2)
  have HW2 : Hid (WorldB w2 gw L t.length g0) := (hb2.block gw hgl).trans HW.out
  have HSel2 : Hid (SelOf bl xs w.heap.size g doc w2) := by
    obtain ⟨q1, q2, q3, q4, q5, q6, q7⟩ := HSel.out
    exact ⟨q1, q2, q3, q4.below hb2 q4.lt, q5, own_kept q6 (fun b _ h2 => hb2.block b h2), q7⟩
  have HMn := Lib.hid (HMan.out w2 bl st g doc a1 c1 _ HB2.out.size (HT2.out.prog HR.out) HSel2.out hown)
  clear hown hb2 z0
  go_wp2_with fail
  refine HMn.out.mono ?_
  rintro e w3 ⟨rfl, bl2, st2, hH⟩
  have hP3 := hH.prog
  have hW3 : WorldB w3 gw L t.length g0 := (hH.turn.block gw (Array.getElem?_eq_some_iff.1 HW2.out).1 (fun i hi e => by
    obtain ⟨_, _, _, hh, _⟩ := HT2.out.dom.node i hi
    exact types_ne HW2.out hh (by decide) e)).trans HW2.out
  have hL3 : ∀ j, j < t.length → w3.cell? ⟨L, j, none⟩ = some (.pointer (some ⟨bl2 j, 0, none⟩)) := fun j hj => by
    obtain ⟨cur, h1, h2, h3⟩ := HT2.out.row
    have h4 := hH.turn.block L (Array.getElem?_eq_some_iff.1 h1).1 (fun i hi e => by
      obtain ⟨_, _, _, hh, _⟩ := HT2.out.dom.node i hi
      exact types_ne h1 hh (by decide) e)
    rw [cell_of_row w3 L j _ _ _ (h4.trans h1), h3 j hj, hH.old j hj]; rfl
  have HB3 : Hid (Below w.heap.size w w3) := by
    have h5 := hH.turn.below (B := w.heap.size) HB2.out.size (fun i hi => (HT2.out.dom.node i hi).1)
    exact HB2.out.trans h5
  have hlen : ((insE 4 t xs ws).F.all h' 0).length ≤ 100000 := by
    have := all_bound HOk.out (n := (insE 4 t xs ws).N) (x := 0) (fun i hi => hi) (by omega)
    omega
  have HEn := Lib.hid (ends_any HOk.out (fun i hi => by obtain ⟨z, hz, e⟩ := HK3.out i hi; rw [e]; exact ndG_of HR.out hz) (fun i hi => by obtain ⟨z, hz, e⟩ := HK3.out i hi; rw [e]; exact HNb.out z hz) hpos hle (fun i hi => by omega) hlen w3 hP3 gw L g0 hW3 hL3)
  clear hP3 hW3 hL3 hH hlen
  go_wp2_with fail
  refine HEn.out.mono ?_
  rintro e w4 ⟨a3, m3, c3', a4, m4, c4, rfl, hOut, hb3⟩
  have HFin : Hid (OfPost (insE 4 t xs ws).F h' (insE 4 t xs ws).nd t.length w (.returned (.tuple #[.slice a3 m3 c3', .slice a4 m4 c4, .bool true])) w4) :=
    ⟨_, _, _, _, _, _, rfl, hOut, bnext HB3.out hb3⟩
  clear hOut hb3
  go_wp2_with fail
  go_ret3
  exact HFin.out
end Go.Proofs.Ytmhhfljbocbolaa

namespace Go.Proofs.Ytmhhfljbocbolaa
open Go.RowKit
set_option linter.unusedVariables false

set_option maxRecDepth 100000 in
set_option maxHeartbeats 4000000 in
theorem FnAppendOf_walk (ad : Option Addr) (len c : Nat) (t : List Nd) (a2 : Option Addr) (len2 c2 : Nat) (l : List Int) (a3 : Option Addr) (len3 c3 : Nat) (l2 : List Int) (w : World) (h : NSl w w.heap.size ad t ∧ len = t.length) (hi : ISl w w.heap.size a2 l ∧ len2 = l.length) (hj : ISl w w.heap.size a3 l2 ∧ len3 = l2.length) :
    Calls Try.prog 6 #[.slice ad len c, .slice a2 len2 c2, .slice a3 len3 c3] w fun e w' => e = .returned (.bool true) ∧ Below w.heap.size w w' := by
  obtain ⟨h, rfl⟩ := h
  obtain ⟨hi, rfl⟩ := hi
  obtain ⟨hj, rfl⟩ := hj
  have HH := Lib.hid h
  have hll := hi.len
  have hll2 := hj.len
  have HI := Lib.hid hi
  have HJ := Lib.hid hj
  unfold maxLen at hll hll2
  clear h hi hj
  go_enter Try.func6, Try.ntmps6
  go_wp2_with fail
  refine (zzFits1_any _ _ t _ HH.out).mono ?_
  rintro e w1 ⟨rfl, hb1⟩
  have HB1 := Lib.hid hb1
  clear hb1
  cases hf : fits1 t
  · go_wp2_with fail
    go_ret
    exact ⟨rfl, HB1.out⟩
  by_cases k1 : 2147483647 < l.length
  · go_wp2_with fail
    go_ret
    exact ⟨rfl, HB1.out⟩
  by_cases k2 : 2147483647 < l2.length
  · go_wp2_with fail
    go_ret
    exact ⟨rfl, HB1.out⟩
  have hl : l.length ≤ 2147483647 := by omega
  have hl2 : l2.length ≤ 2147483647 := by omega
  have HC : Hid (ChC t ad c (InsG t 1 l l2) 1 a2 l.length c2 a3 l2.length c3 w1) := fun W sb hb hs => changedIns_any 1 (.inl rfl) ad c t hf W (HH.out.up (bnext HB1.out hb)) sb a2 c2 l hl (HI.out.up (bnext HB1.out hb)) a3 c3 l2 hl2 (HJ.out.up (bnext HB1.out hb)) hs
  go_wp2_with fail
  refine (step7_any 1 a2 l.length c2 a3 l2.length c3 w1).mono ?_
  rintro e w2 ⟨rfl, hb2⟩
  obtain ⟨W2, hW2⟩ : ∃ W2, W2 = w2.alloc (.cells #[.int .i64 1, .slice a2 l.length c2, .slice a3 l2.length c3, .string ⟨#[]⟩, .string ⟨#[]⟩, .slice none 0 0] 27) := ⟨_, rfl⟩
  have hbA : Below w2.heap.size w2 W2 := by rw [hW2]; exact (Below.refl _ _).alloc (Nat.le_refl _) _
  have hsA : W2.heap.size = w2.heap.size + 1 := by rw [hW2, World.size_alloc]
  have HB2 := Lib.hid (bnext hb2 hbA)
  have HCW := Lib.hid (HC.out.up HB2.out)
  have HQ : Hid (∀ W, Below W2.heap.size W2 W → W.cell? ⟨w2.heap.size, 0, none⟩ = some (.int .i64 1) ∧ W.cell? ⟨w2.heap.size, 1, none⟩ = some (.slice a2 l.length c2) ∧ W.cell? ⟨w2.heap.size, 2, none⟩ = some (.slice a3 l2.length c3) ∧ W.cell? ⟨w2.heap.size, 3, none⟩ = some (.string ⟨#[]⟩) ∧ W.cell? ⟨w2.heap.size, 4, none⟩ = some (.string ⟨#[]⟩) ∧ W.cell? ⟨w2.heap.size, 5, none⟩ = some (.slice none 0 0)) := by
    intro W hb
    have q : W.heap[w2.heap.size]? = some (.cells #[.int .i64 1, .slice a2 l.length c2, .slice a3 l2.length c3, .string ⟨#[]⟩, .string ⟨#[]⟩, .slice none 0 0] 27 (0, 0)) := by
      rw [hb.block _ (by omega), hW2]; exact heap_alloc_new w2 _
    exact ⟨by rw [cell_of_row W _ _ _ _ _ q]; rfl, by rw [cell_of_row W _ _ _ _ _ q]; rfl, by rw [cell_of_row W _ _ _ _ _ q]; rfl, by rw [cell_of_row W _ _ _ _ _ q]; rfl, by rw [cell_of_row W _ _ _ _ _ q]; rfl, by rw [cell_of_row W _ _ _ _ _ q]; rfl⟩
  clear hb2 hbA hsA
  go_wp2_with fail
  rw [← hW2]
  clear hW2
  refine (sure7_any HCW.out).mono ?_
  rintro e w3 ⟨b, rfl, hy, hb3⟩
  have HB3 := Lib.hid hb3
  have HB03 := Lib.hid (bnext HB1.out (bnext HB2.out hb3))
  cases b
  · clear hy hb3
    go_wp2_with fail
    go_ret
    exact ⟨rfl, HB03.out⟩
  obtain ⟨hR, F, S, hh, nd, xs, ws, hIP, rfl, rfl, hop, ok⟩ := hy rfl
  have HR := Lib.hid hR
  have HIP := Lib.hid hIP
  have HOk := Lib.hid ok
  have HE := Lib.hid (of_1 ad c t hR a2 c2 l a3 c3 l2 xs ws hIP hop ok hl hl2 w3 (HH.out.up HB03.out) (HI.out.up HB03.out) (HJ.out.up HB03.out))
  clear hy hb3 hR hIP hop ok
  go_wp2_with fail
  refine HE.out.mono ?_
  rintro e w4 ⟨b3, m3, d3, b4, m4, d4, rfl, hO, hb4⟩
  have HB4 := Lib.hid (bnext HB03.out hb4)
  have hb24 := bnext HB3.out hb4
  obtain ⟨z0, z1, z2, z3, z4, z5⟩ := HQ.out w4 hb24
  obtain ⟨-, -, y1, y2, y3⟩ := ins_final HR.out (.inl rfl) HIP.out
  have hle := HR.out.le
  have hposT := HR.out.pos
  have HAs := Lib.hid (as7_any (HCW.out.up hb24) (insG_det HIP.out HOk.out) (fun y hy => by
    obtain ⟨z, hz, e⟩ := y3 y (HOk.out.all_mem (S := fun i => i < (insE 1 t xs ws).N) (by show 0 < _; omega) hy)
    rw [e]; exact ndW_t HR.out hz) (by have := all_bound HOk.out (n := (insE 1 t xs ws).N) (x := 0) (fun i hi => hi) (by omega); omega) HR.out.le b3 m3 d3 b4 m4 d4 hO)
  clear hO hb4 hb24 y1 y2 y3 hposT
  go_wp2_with fail
  refine HAs.out.mono ?_
  rintro e w5 ⟨rfl, hb5⟩
  have HB5 := Lib.hid (bnext HB4.out hb5)
  clear hb5
  go_wp2_with fail
  go_ret
  exact ⟨by trivial, HB5.out⟩

set_option maxRecDepth 100000 in
set_option maxHeartbeats 4000000 in
theorem FnBeforeOf_walk (ad : Option Addr) (len c : Nat) (t : List Nd) (a2 : Option Addr) (len2 c2 : Nat) (l : List Int) (a3 : Option Addr) (len3 c3 : Nat) (l2 : List Int) (w : World) (h : NSl w w.heap.size ad t ∧ len = t.length) (hi : ISl w w.heap.size a2 l ∧ len2 = l.length) (hj : ISl w w.heap.size a3 l2 ∧ len3 = l2.length) :
    Calls Try.prog 8 #[.slice ad len c, .slice a2 len2 c2, .slice a3 len3 c3] w fun e w' => e = .returned (.bool true) ∧ Below w.heap.size w w' := by
  obtain ⟨h, rfl⟩ := h
  obtain ⟨hi, rfl⟩ := hi
  obtain ⟨hj, rfl⟩ := hj
  have HH := Lib.hid h
  have hll := hi.len
  have hll2 := hj.len
  have HI := Lib.hid hi
  have HJ := Lib.hid hj
  unfold maxLen at hll hll2
  clear h hi hj
  go_enter Try.func8, Try.ntmps8
  go_wp2_with fail
  refine (zzFits1_any _ _ t _ HH.out).mono ?_
  rintro e w1 ⟨rfl, hb1⟩
  have HB1 := Lib.hid hb1
  clear hb1
  cases hf : fits1 t
  · go_wp2_with fail
    go_ret
    exact ⟨rfl, HB1.out⟩
  by_cases k1 : 2147483647 < l.length
  · go_wp2_with fail
    go_ret
    exact ⟨rfl, HB1.out⟩
  by_cases k2 : 2147483647 < l2.length
  · go_wp2_with fail
    go_ret
    exact ⟨rfl, HB1.out⟩
  have hl : l.length ≤ 2147483647 := by omega
  have hl2 : l2.length ≤ 2147483647 := by omega
  have HC : Hid (ChC t ad c (InsG t 4 l l2) 4 a2 l.length c2 a3 l2.length c3 w1) := fun W sb hb hs => changedIns_any 4 (.inr (.inr rfl)) ad c t hf W (HH.out.up (bnext HB1.out hb)) sb a2 c2 l hl (HI.out.up (bnext HB1.out hb)) a3 c3 l2 hl2 (HJ.out.up (bnext HB1.out hb)) hs
  go_wp2_with fail
  refine (step7_any 4 a2 l.length c2 a3 l2.length c3 w1).mono ?_
  rintro e w2 ⟨rfl, hb2⟩
  obtain ⟨W2, hW2⟩ : ∃ W2, W2 = w2.alloc (.cells #[.int .i64 4, .slice a2 l.length c2, .slice a3 l2.length c3, .string ⟨#[]⟩, .string ⟨#[]⟩, .slice none 0 0] 27) := ⟨_, rfl⟩
  have hbA : Below w2.heap.size w2 W2 := by rw [hW2]; exact (Below.refl _ _).alloc (Nat.le_refl _) _
  have hsA : W2.heap.size = w2.heap.size + 1 := by rw [hW2, World.size_alloc]
  have HB2 := Lib.hid (bnext hb2 hbA)
  have HCW := Lib.hid (HC.out.up HB2.out)
  have HQ : Hid (∀ W, Below W2.heap.size W2 W → W.cell? ⟨w2.heap.size, 0, none⟩ = some (.int .i64 4) ∧ W.cell? ⟨w2.heap.size, 1, none⟩ = some (.slice a2 l.length c2) ∧ W.cell? ⟨w2.heap.size, 2, none⟩ = some (.slice a3 l2.length c3) ∧ W.cell? ⟨w2.heap.size, 3, none⟩ = some (.string ⟨#[]⟩) ∧ W.cell? ⟨w2.heap.size, 4, none⟩ = some (.string ⟨#[]⟩) ∧ W.cell? ⟨w2.heap.size, 5, none⟩ = some (.slice none 0 0)) := by
    intro W hb
    have q : W.heap[w2.heap.size]? = some (.cells #[.int .i64 4, .slice a2 l.length c2, .slice a3 l2.length c3, .string ⟨#[]⟩, .string ⟨#[]⟩, .slice none 0 0] 27 (0, 0)) := by
      rw [hb.block _ (by omega), hW2]; exact heap_alloc_new w2 _
    exact ⟨by rw [cell_of_row W _ _ _ _ _ q]; rfl, by rw [cell_of_row W _ _ _ _ _ q]; rfl, by rw [cell_of_row W _ _ _ _ _ q]; rfl, by rw [cell_of_row W _ _ _ _ _ q]; rfl, by rw [cell_of_row W _ _ _ _ _ q]; rfl, by rw [cell_of_row W _ _ _ _ _ q]; rfl⟩
  clear hb2 hbA hsA
  go_wp2_with fail
  rw [← hW2]
  clear hW2
  refine (sure7_any HCW.out).mono ?_
  rintro e w3 ⟨b, rfl, hy, hb3⟩
  have HB3 := Lib.hid hb3
  have HB03 := Lib.hid (bnext HB1.out (bnext HB2.out hb3))
  cases b
  · clear hy hb3
    go_wp2_with fail
    go_ret
    exact ⟨rfl, HB03.out⟩
  obtain ⟨hR, F, S, hh, nd, xs, ws, hIP, rfl, rfl, hop, ok⟩ := hy rfl
  have HR := Lib.hid hR
  have HIP := Lib.hid hIP
  have HOk := Lib.hid ok
  have HE := Lib.hid (of_4 ad c t hR a2 c2 l a3 c3 l2 xs ws hIP hop ok hl hl2 w3 (HH.out.up HB03.out) (HI.out.up HB03.out) (HJ.out.up HB03.out))
  clear hy hb3 hR hIP hop ok
  go_wp2_with fail
  refine HE.out.mono ?_
  rintro e w4 ⟨b3, m3, d3, b4, m4, d4, rfl, hO, hb4⟩
  have HB4 := Lib.hid (bnext HB03.out hb4)
  have hb24 := bnext HB3.out hb4
  obtain ⟨z0, z1, z2, z3, z4, z5⟩ := HQ.out w4 hb24
  obtain ⟨-, -, y1, y2, y3⟩ := ins_final HR.out (.inr (.inr rfl)) HIP.out
  have hle := HR.out.le
  have hposT := HR.out.pos
  have HAs := Lib.hid (as7_any (HCW.out.up hb24) (insG_det HIP.out HOk.out) (fun y hy => by
    obtain ⟨z, hz, e⟩ := y3 y (HOk.out.all_mem (S := fun i => i < (insE 4 t xs ws).N) (by show 0 < _; omega) hy)
    rw [e]; exact ndW_t HR.out hz) (by have := all_bound HOk.out (n := (insE 4 t xs ws).N) (x := 0) (fun i hi => hi) (by omega); omega) HR.out.le b3 m3 d3 b4 m4 d4 hO)
  clear hO hb4 hb24 y1 y2 y3 hposT
  go_wp2_with fail
  refine HAs.out.mono ?_
  rintro e w5 ⟨rfl, hb5⟩
  have HB5 := Lib.hid (bnext HB4.out hb5)
  clear hb5
  go_wp2_with fail
  go_ret
  exact ⟨by trivial, HB5.out⟩
end Go.Proofs.Ytmhhfljbocbolaa
