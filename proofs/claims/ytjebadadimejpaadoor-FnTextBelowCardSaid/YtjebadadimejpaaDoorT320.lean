/- The texts of a node and of all beneath it: the program's writer puts them into a bytes.Buffer. -/
import Derived.Test.YtjebadadimejpaaDoorT318
import Derived.Test.YtjebadadimejpaaDoorT319
namespace Go.Proofs.YtjebadadimejpaaDoor
open Go.RowKit
set_option linter.unusedVariables false

def WrPost (B b : Nat) (acc : List UInt8) (W : World) (e : Ending) (w' : World) : Prop :=
  e = .returned (.tuple #[]) ∧ Lib.IsBuffer 56 5 B b (Lib.byteCells acc) w' ∧ Below B W w'

theorem typ_text {x : Nd} (h : 1 ≤ x.kind ∧ x.kind ≤ 5) : typOf x.kind = 1 ↔ x.kind = 4 := by
  unfold typOf
  split
  · omega
  · split
    · omega
    · split
      · omega
      · split <;> omega

theorem kid_sz {t : List Nd} (hR : RightP t) {p : Nat} (hp : p < t.length) {k : Nat} (hk : k < (kidsL t p).length) : p < (kidsL t p)[k] ∧ (kidsL t p)[k] < t.length ∧ sz t (kidsL t p)[k] < sz t p := by
  have h1 := kidsFrom_lt t (p + sz t p) (sz t p) (p + 1) (kidsL t p)[k] (List.getElem_mem hk)
  have h2 := hR.lam p (Nat.zero_le _) hp
  have h3 := h2.2.2.2 (kidsL t p)[k] (by omega) h1.2
  have h4 := h2.2.2.1
  exact ⟨by omega, by omega, by omega⟩


theorem typ_elem {x : Nd} (h : 1 ≤ x.kind ∧ x.kind ≤ 5) : typOf x.kind = 3 ↔ x.kind = 3 := by
  unfold typOf
  split
  · omega
  · split
    · omega
    · split
      · omega
      · split <;> omega

/-- Where the helper's loop over the kids stands. -/
def WrRel (t : List Nd) (bl : Nat → Nat) (i b : Nat) (acc : List UInt8) (W : World) (x : Value) (wr : World) : Prop :=
  ∃ k : Nat, k ≤ (kidsL t i).length ∧ x = ptrK bl (kidsL t i) k ∧ Lib.IsBuffer 56 5 W.heap.size b (Lib.byteCells (acc ++ ownT t i ++ ((kidsL t i).take k).flatMap (txt t))) wr ∧ Below W.heap.size W wr

theorem kid_kind {t : List Nd} (hR : RightP t) {p : Nat} (hp : p < t.length) {k : Nat} (hk : k < (kidsL t p).length) : ∀ (h : (kidsL t p)[k] < t.length), t[(kidsL t p)[k]].kind ≠ 1 := by
  intro h e
  have h1 := (kid_sz hR hp hk).1
  rcases (hR.node _ h).kinds with ⟨_, q⟩ | ⟨q, _⟩ | ⟨q, _⟩ | ⟨q, _⟩
  · omega
  · omega
  · omega
  · omega

theorem txt_none {t : List Nd} (hR : RightP t) {i : Nat} (hi : i < t.length) (h1 : t[i].kind ≠ 1) (h3 : t[i].kind ≠ 3) (h4 : t[i].kind ≠ 4) : txt t i = [] := by
  have hown : ownT t i = [] := by unfold ownT; rw [getD_at hi, if_neg h4]
  have hs1 : t[i].size = 1 := by
    rcases (hR.node i hi).kinds with ⟨q, _⟩ | ⟨_, q, _⟩ | ⟨q, _⟩ | ⟨_, q⟩
    · omega
    · exact q
    · omega
    · exact q
  have hsz1 : sz t i = 1 := by unfold sz; rw [getD_at hi, hs1]; rfl
  have hK : kidsL t i = [] := by
    have e : kidsL t i = kidsFrom t (sz t i) (i + 1) (i + sz t i) := rfl
    rw [e, hsz1]; simp [kidsFrom]
  rw [txt_kids hR hi, hown, hK]; rfl

theorem txt_text {t : List Nd} (hR : RightP t) {i : Nat} (hi : i < t.length) (h4 : t[i].kind = 4) : txt t i = t[i].text.data.toList := by
  have hown : ownT t i = t[i].text.data.toList := by unfold ownT; rw [getD_at hi, if_pos h4]
  have hs1 : t[i].size = 1 := by
    rcases (hR.node i hi).kinds with ⟨q, _⟩ | ⟨q, _⟩ | ⟨q, _⟩ | ⟨_, q⟩
    · omega
    · omega
    · omega
    · exact q
  have hsz1 : sz t i = 1 := by unfold sz; rw [getD_at hi, hs1]; rfl
  have hK : kidsL t i = [] := by
    have e : kidsL t i = kidsFrom t (sz t i) (i + 1) (i + sz t i) := rfl
    rw [e, hsz1]; simp [kidsFrom]
  rw [txt_kids hR hi, hown, hK]; simp

set_option maxRecDepth 100000 in
set_option maxHeartbeats 4000000 in
theorem writeText_any (t : List Nd) (hR : RightP t) (B0 L : Nat) (bl : Nat → Nat) (st : Nat → Dn) (W : World) (hT : Tree t W B0 L bl st) (b : Nat) :
    ∀ (d i : Nat) (acc : List UInt8) (w : World) (hi : i < t.length), t[i].kind ≠ 1 → sz t i ≤ d → Below W.heap.size W w → Lib.IsBuffer 56 5 W.heap.size b (Lib.byteCells acc) w → acc.length + (txt t i).length ≤ 2000000000 →
      Calls Tryd.prog 33 #[.pointer (some ⟨bl i, 0, none⟩), .pointer (some ⟨b, 0, none⟩)] w (WrPost W.heap.size b (acc ++ txt t i) W) := by
  intro d
  induction d with
  | zero =>
    intro i acc w hi _ hd
    have := (hR.lamK hi).2.1
    omega
  | succ d ih =>
    intro i acc w hi hk1 hd hb hI hlen
    have hTw := hT.kept hb
    obtain ⟨_, _, h1, _, _, h4, h5, h7, _⟩ := hTw.dom.cells hi
    have hself := (hTw.kin i hi).2
    have hkids := kids_at hR hT.kin hi
    have HTx := Lib.hid (txt_kids hR hi)
    have hkr := hR.kindR i hi
    have hsz := hb.size
    rw [hself.typ] at h5
    by_cases hk : t[i].kind = 4
    · have ht1 : typOf t[i].kind = 1 := (typ_text hkr).2 hk
      have hdat : datOf t[i] = t[i].text := by simp [datOf, hk]
      rw [ht1] at h5
      rw [hself.dat, hdat] at h7
      rw [txt_text hR hi hk] at hlen ⊢
      obtain ⟨tx, htx⟩ : ∃ tx, tx = t[i].text := ⟨_, rfl⟩
      rw [← htx] at h7 hlen ⊢
      have hlt : tx.data.toList.length = tx.size := rfl
      have HWr := Lib.hid (wrb_any W.heap.size b acc tx w hI hsz (by omega))
      have HB := Lib.hid hb
      clear hI hb hT hTw hself hkids HTx hkr hk hdat htx ht1 ih h4 hlt h1 hd hlen
      go_enter Tryd.func33, Tryd.ntmps33
      go_wp2_with fail
      refine HWr.out.mono ?_
      rintro e w1 ⟨rfl, hI1, hb1⟩
      have HI1 : Hid (Lib.IsBuffer 56 5 W.heap.size b (Lib.byteCells (acc ++ tx.data.toList)) w1) := by
        rw [Hid, Lib.byteCells_append]; exact hI1
      have HB2 := Lib.hid (HB.out.trans hb1)
      clear hI1 hb1
      go_wp2_with fail
      go_end0
      exact ⟨rfl, HI1.out, HB2.out⟩
    · have ht1 : ((typOf t[i].kind : Int) == 1) = false := beq_eq_false_iff_ne.2 (fun e => hk ((typ_text hkr).1 e))
      by_cases hk3 : t[i].kind = 3
      · have ht3 : typOf t[i].kind = 3 := (typ_elem hkr).2 hk3
        rw [ht3] at h5
        have hown : ownT t i = [] := by unfold ownT; rw [getD_at hi, if_neg hk]
        have hf : w.cell? ⟨bl i, 1, none⟩ = some (ptrK bl (kidsL t i) 0) := by rw [h1, hkids.fst]; rfl
        have hinj : ∀ a c (ha : a < (kidsL t i).length) (hc : c < (kidsL t i).length), bl (kidsL t i)[a] = bl (kidsL t i)[c] → a = c := fun a c ha hc e => hkids.inj a c ha hc (hT.dom.inj _ _ (hkids.lt a ha) (hkids.lt c hc) e)
        have HKK := Lib.hid (fun k => kid_kind hR (k := k) hi)
        have HIH := Lib.hid ih
        have HT := Lib.hid hT
        have HK := Lib.hid hkids
        have HInj := Lib.hid hinj
        have HI := Lib.hid hI
        have HB := Lib.hid hb
        have HOwn := Lib.hid hown
        have hE : txt t i = (kidsL t i).flatMap (txt t) := by rw [HTx.out, hown]; simp
        have HE := Lib.hid hE
        have HD := Lib.hid hd
        clear ih hT hTw hkids hinj hI hb hown hE hself HTx hkr hk h1 h4 h7 hd ht1 ht3 hk1
        go_enter Tryd.func33, Tryd.ntmps33
        go_wp2_with fail
        go_loopw [4] (fun x wr => WrRel t bl i b acc W x wr) (fun x _ => measE bl (kidsL t i) x)
        case atStart => exact ⟨0, Nat.zero_le _, rfl, by rw [HOwn.out]; simpa using HI.out, HB.out⟩
        case round =>
          obtain ⟨k, hk, rfl, hIr, hbr⟩ := hrel
          rw [HOwn.out, List.append_nil] at hIr
          have HMe := Lib.hid (measE_at (bl := bl) HInj.out hk)
          have HIr := Lib.hid hIr
          have HBr := Lib.hid hbr
          clear hIr hbr
          by_cases hlt : k < (kidsL t i).length
          · have hq := kid_sz hR hi hlt
            have hmem : (txt t (kidsL t i)[k]).length + (((kidsL t i).take k).flatMap (txt t)).length ≤ (txt t i).length := by
              rw [HE.out]
              conv => rhs; rw [← List.take_append_drop (k + 1) (kidsL t i), List.take_succ_eq_append_getElem hlt]
              simp only [List.flatMap_append, List.length_append, List.flatMap_cons, List.flatMap_nil, List.append_nil]
              omega
            have HC := Lib.hid (HIH.out (kidsL t i)[k] (acc ++ ((kidsL t i).take k).flatMap (txt t)) wr hq.2.1 (HKK.out k hlt hq.2.1) (by have := HD.out; omega) HBr.out HIr.out (by rw [List.length_append]; omega))
            have HNx : Hid (∀ w', Below W.heap.size W w' → w'.cell? ⟨bl (kidsL t i)[k], 4, none⟩ = some (ptrK bl (kidsL t i) (k + 1))) := fun w' h' => by
              have := ((HT.out.kept h').dom.cells hq.2.1).2.2.2.2.2.1
              rw [HK.out.nxt k hlt] at this
              exact this
            have HMn := Lib.hid (measE_at (bl := bl) HInj.out (show k + 1 ≤ (kidsL t i).length by omega))
            have HAcc : Hid (acc ++ ((kidsL t i).take k).flatMap (txt t) ++ txt t (kidsL t i)[k] = acc ++ ((kidsL t i).take (k + 1)).flatMap (txt t)) := by
              rw [Hid, List.take_succ_eq_append_getElem hlt]
              simp only [List.flatMap_append, List.flatMap_cons, List.flatMap_nil, List.append_nil, List.append_assoc]
            rw [HAcc.out] at HC
            rw [ptrK_at hlt] at HMe ⊢
            obtain ⟨q, hqq⟩ : ∃ q, q = (kidsL t i)[k] := ⟨_, rfl⟩
            rw [← hqq] at HC HNx HMe ⊢
            clear hq hmem hqq HAcc hlen
            go_wp2_with fail
            refine HC.out.mono ?_
            rintro e w1 ⟨rfl, hI1, hb1⟩
            have g4 := HNx.out w1 hb1
            have HI1 := Lib.hid hI1
            have HB1 := Lib.hid hb1
            clear hI1 hb1
            go_wp2_with fail
            go_roundw
            case rel => exact ⟨k + 1, by omega, rfl, by rw [HOwn.out, List.append_nil]; exact HI1.out, HB1.out⟩
            case measure => rw [HMn.out, HMe.out]; omega
          · have hkl : k = (kidsL t i).length := by omega
            have hAll : ((kidsL t i).take k).flatMap (txt t) = txt t i := by rw [hkl, List.take_length, HE.out]
            rw [hAll] at HIr
            rw [ptrK_end (bl := bl) (K := kidsL t i) (k := k) (by omega)]
            clear hkl hAll HMe hlen
            go_wp2_with fail
            go_end0
            exact ⟨rfl, HIr.out, HBr.out⟩
      · have ht3 : ((typOf t[i].kind : Int) == 3) = false := beq_eq_false_iff_ne.2 (fun e => hk3 ((typ_elem hkr).1 e))
        have hE := txt_none hR hi hk1 hk3 hk
        rw [hE, List.append_nil]
        have HI := Lib.hid hI
        have HB := Lib.hid hb
        obtain ⟨y, hy⟩ : ∃ y, y = typOf t[i].kind := ⟨_, rfl⟩
        rw [← hy] at h5 ht1 ht3
        clear ih hT hTw hkids hI hb hE hself HTx hkr hk hk1 hk3 h1 h4 h7 hd hy hlen
        go_enter Tryd.func33, Tryd.ntmps33
        go_wp2_with fail
        go_end0
        exact ⟨rfl, HI.out, HB.out⟩
end Go.Proofs.YtjebadadimejpaaDoor
