/- nodeText and nodeOwnText, and the doors to them: TextIn, OwnTextIn, impl.TextBelow, impl.OwnTextBelow. -/
import Derived.Test.YtjebadadimejpaaDoorT320
import Derived.Test.YtjebadadimejpaaDoorT14
namespace Go.Proofs.YtjebadadimejpaaDoor
open Go.RowKit
set_option linter.unusedVariables false

/-- A text, out of its bytes. -/
def strV (l : List UInt8) : Value := .string ⟨l.toArray⟩

/-- The texts that are a node's own kids. -/
def kidT (t : List Nd) (i : Nat) : List UInt8 := (kidsL t i).flatMap (ownT t)

theorem flat_own_len {t : List Nd} (hR : RightP t) (l : List Nat) : (l.flatMap (ownT t)).length ≤ 4000 * l.length := by
  induction l with
  | nil => simp
  | cons x l ih =>
    rw [List.flatMap_cons, List.length_append, List.length_cons]
    have := ownT_len hR x
    omega

theorem kidsL_le {t : List Nd} (hR : RightP t) {i : Nat} (hi : i < t.length) : (kidsL t i).length ≤ 200 := by
  have h1 : (kidsL t i).length ≤ sz t i := kidsFrom_len t _ _ _
  have h2 := (hR.lamK hi).2.2
  have := hR.le
  omega

def TxPost (l : List UInt8) (W : World) (e : Ending) (w' : World) : Prop := e = .returned (strV l) ∧ Below W.heap.size W w'

theorem fresh_buf (w : World) : Lib.IsBuffer 56 5 w.heap.size w.heap.size (Lib.byteCells []) (w.alloc (.cells #[.slice none 0 0, .int .i64 0, .int .i8 0] 56)) := Lib.fresh_isBuffer _ _ _

set_option maxRecDepth 100000 in
set_option maxHeartbeats 2000000 in
theorem nodeText_any (t : List Nd) (hR : RightP t) (B0 L : Nat) (bl : Nat → Nat) (st : Nat → Dn) (W : World) (hT : Tree t W B0 L bl st) (i : Nat) (hi : i < t.length) (hk : t[i].kind ≠ 1) :
    Calls Tryd.prog 26 #[.pointer (some ⟨bl i, 0, none⟩)] W (TxPost (txt t i) W) := by
  have hb : Below W.heap.size W (W.alloc (.cells #[.slice none 0 0, .int .i64 0, .int .i8 0] 56)) := (Below.refl _ _).alloc (Nat.le_refl _) _
  have HC := Lib.hid (writeText_any t hR B0 L bl st W hT W.heap.size (sz t i) i [] _ hi hk (Nat.le_refl _) hb (fresh_buf W) (by have := txt_len hR hi; rw [List.length_nil]; omega))
  rw [List.nil_append] at HC
  clear hb hT hk
  go_enter Tryd.func26, Tryd.ntmps26
  go_wp2_with fail
  refine HC.out.mono ?_
  rintro e w1 ⟨rfl, hI1, hb1⟩
  have HB1 := Lib.hid hb1
  have HI1 := Lib.hid hI1
  clear hb1 hI1
  go_wp2_with fail
  refine (rdb_any _ _ _ w1 HI1.out).mono ?_
  rintro e w2 ⟨rfl, n, rfl⟩
  have HB2 : Hid (Below W.heap.size W (w1.drewN n)) := below_drewN HB1.out n
  go_wp2_with fail
  go_ret
  exact ⟨rfl, HB2.out⟩

def OwnRel (t : List Nd) (bl : Nat → Nat) (i : Nat) (W : World) (x : Value) (wr : World) : Prop :=
  ∃ k : Nat, k ≤ (kidsL t i).length ∧ x = ptrK bl (kidsL t i) k ∧ Lib.IsBuffer 56 5 W.heap.size W.heap.size (Lib.byteCells (((kidsL t i).take k).flatMap (ownT t))) wr ∧ Below W.heap.size W wr

set_option maxRecDepth 100000 in
set_option maxHeartbeats 4000000 in
theorem nodeOwn_any (t : List Nd) (hR : RightP t) (B0 L : Nat) (bl : Nat → Nat) (st : Nat → Dn) (W : World) (hT : Tree t W B0 L bl st) (i : Nat) (hi : i < t.length) :
    Calls Tryd.prog 27 #[.pointer (some ⟨bl i, 0, none⟩)] W (TxPost (kidT t i) W) := by
  obtain ⟨_, _, h1, _, _, _, _, _, _⟩ := hT.dom.cells hi
  have hkids := kids_at hR hT.kin hi
  have hf : W.cell? ⟨bl i, 1, none⟩ = some (ptrK bl (kidsL t i) 0) := by rw [h1, hkids.fst]; rfl
  have hinj : ∀ a c (ha : a < (kidsL t i).length) (hc : c < (kidsL t i).length), bl (kidsL t i)[a] = bl (kidsL t i)[c] → a = c := fun a c ha hc e => hkids.inj a c ha hc (hT.dom.inj _ _ (hkids.lt a ha) (hkids.lt c hc) e)
  have HLi : Hid (bl i < W.heap.size) := by
    rcases Nat.lt_or_ge (bl i) W.heap.size with h | h
    · exact h
    · unfold World.cell? at hf
      simp [Array.getElem?_eq_none h] at hf
  have HT := Lib.hid hT
  have HK := Lib.hid hkids
  have HInj := Lib.hid hinj
  have hKl := kidsL_le hR hi
  have HFr := Lib.hid (fresh_buf W)
  have hb : Below W.heap.size W (W.alloc (.cells #[.slice none 0 0, .int .i64 0, .int .i8 0] 56)) := (Below.refl _ _).alloc (Nat.le_refl _) _
  have hf2 := (hb.cell (p := ⟨bl i, 1, none⟩) HLi.out).trans hf
  have HB0 := Lib.hid hb
  clear hT hkids hinj hb h1
  go_enter Tryd.func27, Tryd.ntmps27
  go_wp2_with fail
  go_loopw [4] (fun x wr => OwnRel t bl i W x wr) (fun x _ => measE bl (kidsL t i) x)
  case atStart => exact ⟨0, Nat.zero_le _, rfl, HFr.out, HB0.out⟩
  case round =>
    obtain ⟨k, hk, rfl, hIr, hbr⟩ := hrel
    have HMe := Lib.hid (measE_at (bl := bl) HInj.out hk)
    have hsz := hbr.size
    by_cases hlt : k < (kidsL t i).length
    · have hq := HK.out.lt k hlt
      have HTr := Lib.hid (HT.out.kept hbr)
      have HNx : Hid (∀ w', Below W.heap.size W w' → w'.cell? ⟨bl (kidsL t i)[k], 4, none⟩ = some (ptrK bl (kidsL t i) (k + 1))) := fun w' h' => by
        have := ((HT.out.kept h').dom.cells hq).2.2.2.2.2.1
        rw [HK.out.nxt k hlt] at this
        exact this
      have HMn := Lib.hid (measE_at (bl := bl) HInj.out (show k + 1 ≤ (kidsL t i).length by omega))
      have HAcc : Hid (((kidsL t i).take k).flatMap (ownT t) ++ ownT t (kidsL t i)[k] = ((kidsL t i).take (k + 1)).flatMap (ownT t)) := by
        rw [Hid, List.take_succ_eq_append_getElem hlt]
        simp only [List.flatMap_append, List.flatMap_cons, List.flatMap_nil, List.append_nil]
      obtain ⟨_, _, _, _, _, _, g5, g7, _⟩ := HTr.out.dom.cells hq
      have hself := (HTr.out.kin _ hq).2
      have hkr := hR.kindR _ hq
      have hal := flat_own_len hR ((kidsL t i).take k)
      rw [List.length_take] at hal
      rw [hself.typ] at g5
      rw [ptrK_at hlt] at HMe ⊢
      have HIr := Lib.hid hIr
      have HBr := Lib.hid hbr
      clear hIr hbr
      obtain ⟨q, hqq⟩ : ∃ q, q = (kidsL t i)[k] := ⟨_, rfl⟩
      by_cases hk4 : t[(kidsL t i)[k]].kind = 4
      · have ht1 : typOf t[(kidsL t i)[k]].kind = 1 := (typ_text hkr).2 hk4
        have hdat : datOf t[(kidsL t i)[k]] = t[(kidsL t i)[k]].text := by simp [datOf, hk4]
        have hown : ownT t (kidsL t i)[k] = t[(kidsL t i)[k]].text.data.toList := by unfold ownT; rw [getD_at hq, if_pos hk4]
        have htl := hR.text _ hq
        rw [ht1] at g5
        rw [hself.dat, hdat] at g7
        rw [hown] at HAcc
        obtain ⟨tx, htx⟩ : ∃ tx, tx = t[(kidsL t i)[k]].text := ⟨_, rfl⟩
        rw [← htx] at g7 HAcc htl
        have HWr := Lib.hid (wrb_any W.heap.size W.heap.size (((kidsL t i).take k).flatMap (ownT t)) tx wr HIr.out hsz (by omega))
        rw [← hqq] at g5 g7 HNx HMe ⊢
        clear hself hkr hk4 ht1 hdat hown htl htx hqq hal HTr
        go_wp2_with fail
        refine HWr.out.mono ?_
        rintro e w1 ⟨rfl, hI1, hb1⟩
        have HI1 := Lib.hid hI1
        have HB1 := Lib.hid (HBr.out.trans hb1)
        have g4 := HNx.out w1 HB1.out
        clear hI1 hb1 g5 g7
        go_wp2_with fail
        go_roundw
        case rel => exact ⟨k + 1, by omega, rfl, by rw [← HAcc.out, Lib.byteCells_append]; exact HI1.out, HB1.out⟩
        case measure => rw [HMn.out, HMe.out]; omega
      · have ht1 : ((typOf t[(kidsL t i)[k]].kind : Int) == 1) = false := beq_eq_false_iff_ne.2 (fun e => hk4 ((typ_text hkr).1 e))
        have hown : ownT t (kidsL t i)[k] = [] := by unfold ownT; rw [getD_at hq, if_neg hk4]
        rw [hown, List.append_nil] at HAcc
        have g4 := HNx.out wr HBr.out
        obtain ⟨y, hy⟩ : ∃ y, y = typOf t[(kidsL t i)[k]].kind := ⟨_, rfl⟩
        rw [← hy] at g5 ht1
        rw [← hqq] at g5 g4 HMe ⊢
        clear hself hkr hk4 hown hqq hal HTr g7 hy HNx
        go_wp2_with fail
        go_roundw
        case rel => exact ⟨k + 1, by omega, rfl, by rw [← HAcc.out]; exact HIr.out, HBr.out⟩
        case measure => rw [HMn.out, HMe.out]; omega
    · have hkl : k = (kidsL t i).length := by omega
      have hAll : ((kidsL t i).take k).flatMap (ownT t) = kidT t i := by rw [hkl, List.take_length]; rfl
      rw [hAll] at hIr
      rw [ptrK_end (bl := bl) (K := kidsL t i) (k := k) (by omega)]
      have HIr := Lib.hid hIr
      have HBr := Lib.hid hbr
      clear hkl hAll HMe hIr hbr
      go_wp2_with fail
      refine (rdb_any _ _ _ wr HIr.out).mono ?_
      rintro e w2 ⟨rfl, n, rfl⟩
      have HB2 : Hid (Below W.heap.size W (wr.drewN n)) := below_drewN HBr.out n
      go_wp2_with fail
      go_ret
      exact ⟨rfl, HB2.out⟩

set_option maxRecDepth 100000 in
set_option maxHeartbeats 1000000 in
theorem cTextIn_any (g : Nat) (l : List UInt8) (W : World) (h : Calls Tryd.prog 26 #[.pointer (some ⟨g, 0, none⟩)] W (TxPost l W)) :
    Calls Tryd.prog 15 #[.pointer (some ⟨g, 0, none⟩)] W (TxPost l W) := by
  go_enter Tryd.func15, Tryd.ntmps15
  go_wp2_with fail
  refine h.mono ?_
  rintro e w1 ⟨rfl, hb1⟩
  obtain ⟨v, hv⟩ : ∃ v : ByteArray, v = ⟨l.toArray⟩ := ⟨_, rfl⟩
  have hs : strV l = .string v := by rw [hv]; rfl
  rw [hs]
  have HS := Lib.hid hs
  clear hs hv h
  go_wp2_with fail
  go_ret
  refine ⟨?_, hb1⟩
  rw [HS.out]
  rfl

set_option maxRecDepth 100000 in
set_option maxHeartbeats 1000000 in
theorem cOwnTextIn_any (g : Nat) (l : List UInt8) (W : World) (h : Calls Tryd.prog 27 #[.pointer (some ⟨g, 0, none⟩)] W (TxPost l W)) :
    Calls Tryd.prog 16 #[.pointer (some ⟨g, 0, none⟩)] W (TxPost l W) := by
  go_enter Tryd.func16, Tryd.ntmps16
  go_wp2_with fail
  refine h.mono ?_
  rintro e w1 ⟨rfl, hb1⟩
  obtain ⟨v, hv⟩ : ∃ v : ByteArray, v = ⟨l.toArray⟩ := ⟨_, rfl⟩
  have hs : strV l = .string v := by rw [hv]; rfl
  rw [hs]
  have HS := Lib.hid hs
  clear hs hv h
  go_wp2_with fail
  go_ret
  refine ⟨?_, hb1⟩
  rw [HS.out]
  rfl

set_option maxRecDepth 100000 in
set_option maxHeartbeats 2000000 in
theorem textBelow_any (ad : Option Addr) (c : Nat) (t : List Nd) (hR : RightP t) (i : Nat) (hi : i < t.length) (hk : t[i].kind ≠ 1) (w : World) (h : NSl w w.heap.size ad t) :
    Calls Tryd.prog 7 #[.slice ad t.length c, .int .i64 i] w fun e w' => e = .returned (.tuple #[strV (txt t i), .bool true]) ∧ Below w.heap.size w w' := by
  have hle := hR.le
  have HR := Lib.hid hR
  have HG := Lib.hid (grown_any _ c t _ h hR)
  go_enter Tryd.func7, Tryd.ntmps7
  clear h hR
  go_wp2_with fail
  refine HG.out.mono ?_
  rintro e w1 ⟨L, bl, st, rfl, hb1, hL, hT⟩
  have hcell := hT.cell i hi
  have HB := Lib.hid hb1
  have HTx := Lib.hid (cTextIn_any _ _ _ (nodeText_any t HR.out _ L bl st w1 hT i hi hk))
  clear hT hb1 hk
  go_wp2_with fail
  refine HTx.out.mono ?_
  rintro e w2 ⟨rfl, hb2⟩
  have HB2 := Lib.hid hb2
  clear hb2
  go_wp2_with fail
  go_ret2
  exact ⟨rfl, bnext HB.out HB2.out⟩

set_option maxRecDepth 100000 in
set_option maxHeartbeats 2000000 in
theorem ownTextBelow_any (ad : Option Addr) (c : Nat) (t : List Nd) (hR : RightP t) (i : Nat) (hi : i < t.length) (w : World) (h : NSl w w.heap.size ad t) :
    Calls Tryd.prog 8 #[.slice ad t.length c, .int .i64 i] w fun e w' => e = .returned (.tuple #[strV (kidT t i), .bool true]) ∧ Below w.heap.size w w' := by
  have hle := hR.le
  have HR := Lib.hid hR
  have HG := Lib.hid (grown_any _ c t _ h hR)
  go_enter Tryd.func8, Tryd.ntmps8
  clear h hR
  go_wp2_with fail
  refine HG.out.mono ?_
  rintro e w1 ⟨L, bl, st, rfl, hb1, hL, hT⟩
  have hcell := hT.cell i hi
  have HB := Lib.hid hb1
  have HTx := Lib.hid (cOwnTextIn_any _ _ _ (nodeOwn_any t HR.out _ L bl st w1 hT i hi))
  clear hT hb1
  go_wp2_with fail
  refine HTx.out.mono ?_
  rintro e w2 ⟨rfl, hb2⟩
  have HB2 := Lib.hid hb2
  clear hb2
  go_wp2_with fail
  go_ret2
  exact ⟨rfl, bnext HB.out HB2.out⟩
end Go.Proofs.YtjebadadimejpaaDoor
