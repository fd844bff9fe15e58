/- The texts of a node and of all beneath it: the program's helper writes them into a builder. -/
import Derived.Test.YtfebdbfkpmjpeaaT62
import Derived.Test.YtfebdbfkpmjpeaaT34
import Derived.Test.YtfebdbfkpmjpeaaT75
namespace Go.Proofs.Ytfebdbfkpmjpeaa
open Go.RowKit
set_option linter.unusedVariables false

def HelpPost (B b : Nat) (acc : List UInt8) (W : World) (e : Ending) (w' : World) : Prop :=
  e = .returned (.tuple #[]) ∧ Lib.IsBuilderF 181 5 B b (Lib.byteCells acc) w' ∧ Below B W w'

theorem typ_text {x : Nd} (h : 1 ≤ x.kind ∧ x.kind ≤ 5) : typOf x.kind = 1 ↔ x.kind = 4 := by
  unfold typOf
  split
  · omega
  · split
    · omega
    · split
      · omega
      · split <;> omega

theorem kid_sz {t : List Nd} (hR : RightP t) {p : Nat} (hp : p < t.length) {k : Nat} (hk : k < (kidsL t p).length) : p < (kidsL t p)[k] ∧ (kidsL t p)[k] < t.length ∧ sz t (kidsL t p)[k] < sz t p := by
  have h1 := kidsFrom_lt t (p + sz t p) (sz t p) (p + 1) (kidsL t p)[k] (List.getElem_mem hk)
  have h2 := hR.lam p (Nat.zero_le _) hp
  have h3 := h2.2.2.2 (kidsL t p)[k] (by omega) h1.2
  have h4 := h2.2.2.1
  exact ⟨by omega, by omega, by omega⟩

/-- Where the helper's loop over the kids stands. -/
def HelpRel (t : List Nd) (bl : Nat → Nat) (i b : Nat) (acc : List UInt8) (W : World) (x : Value) (wr : World) : Prop :=
  ∃ k : Nat, k ≤ (kidsL t i).length ∧ x = ptrK bl (kidsL t i) k ∧ Lib.IsBuilderF 181 5 W.heap.size b (Lib.byteCells (acc ++ ownT t i ++ ((kidsL t i).take k).flatMap (txt t))) wr ∧ Below W.heap.size W wr

set_option maxRecDepth 100000 in
set_option maxHeartbeats 4000000 in
theorem helper_any (t : List Nd) (hR : RightP t) (B0 L : Nat) (bl : Nat → Nat) (st : Nat → Dn) (W : World) (hT : Tree t W B0 L bl st) (b : Nat) (s : Value) :
    ∀ (d i : Nat) (acc : List UInt8) (w : World), i < t.length → sz t i ≤ d → Below W.heap.size W w → Lib.IsBuilderF 181 5 W.heap.size b (Lib.byteCells acc) w → acc.length + (txt t i).length ≤ 2000000000 →
      Calls Try.prog 168 #[s, .pointer (some ⟨bl i, 0, none⟩), .pointer (some ⟨b, 0, none⟩)] w (HelpPost W.heap.size b (acc ++ txt t i) W) := by
  intro d
  induction d with
  | zero =>
    intro i acc w hi hd
    have := (hR.lamK hi).2.1
    omega
  | succ d ih =>
    intro i acc w hi hd hb hI hlen
    have hTw := hT.kept hb
    obtain ⟨_, _, h1, _, _, h4, h5, h7, _⟩ := hTw.dom.cells hi
    have hself := (hTw.kin i hi).2
    have hkids := kids_at hR hT.kin hi
    have HTx := Lib.hid (txt_kids hR hi)
    have hkr := hR.kindR i hi
    have hsz := hb.size
    rw [hself.typ] at h5
    by_cases hk : t[i].kind = 4
    · have ht1 : typOf t[i].kind = 1 := (typ_text hkr).2 hk
      have hs1 : t[i].size = 1 := by
        rcases (hR.node i hi).kinds with ⟨q, _⟩ | ⟨q, _⟩ | ⟨q, _⟩ | ⟨_, q⟩
        · omega
        · omega
        · omega
        · exact q
      have hsz1 : sz t i = 1 := by unfold sz; rw [getD_at hi, hs1]; rfl
      have hK : kidsL t i = [] := by
        have e : kidsL t i = kidsFrom t (sz t i) (i + 1) (i + sz t i) := rfl
        rw [e, hsz1]; simp [kidsFrom]
      have hf : (st i).fst = none := by rw [hkids.fst, hK]; rfl
      have hdat : datOf t[i] = t[i].text := by simp [datOf, hk]
      have hown : ownT t i = t[i].text.data.toList := by unfold ownT; rw [getD_at hi, if_pos hk]
      rw [ht1] at h5
      rw [hf] at h1
      rw [hself.dat, hdat] at h7
      have hE : txt t i = t[i].text.data.toList := by rw [HTx.out, hK, hown]; simp
      rw [hE] at hlen ⊢
      obtain ⟨tx, htx⟩ : ∃ tx, tx = t[i].text := ⟨_, rfl⟩
      rw [← htx] at h7 hlen ⊢
      have hlt : tx.data.toList.length = tx.size := rfl
      have HWr := Lib.hid (write_any W.heap.size b (Lib.byteCells acc) tx w hI (by rw [Lib.byteCells_length]; omega) hsz)
      have HB := Lib.hid hb
      have HT := Lib.hid hT
      have HF := Lib.hid hf
      clear hI hb hT hTw hself hkids HTx hkr hs1 hsz1 hK hf hdat hown hE htx ht1 hk ih h4 hlt
      go_enter Try.func168, Try.ntmps168
      go_wp2_with fail
      refine HWr.out.mono ?_
      rintro e w1 ⟨rfl, hI1, hb1⟩
      have HI1 : Hid (Lib.IsBuilderF 181 5 W.heap.size b (Lib.byteCells (acc ++ tx.data.toList)) w1) := by
        rw [Hid, Lib.byteCells_append]; exact Or.inr hI1
      have hb2 := HB.out.trans hb1
      obtain ⟨_, _, g1, _⟩ := (HT.out.kept hb2).dom.cells hi
      rw [HF.out] at g1
      have g1' : w1.cell? ⟨bl i, 1, none⟩ = some (.pointer none) := g1
      have HB2 := Lib.hid hb2
      clear hI1 hb1 hb2 hlen g1 h1
      go_wp2_with fail
      refine wp_loop_rounds 1 ?_
      rw [rounds_succ]
      go_wp2_with fail
      go_end0
      exact ⟨rfl, HI1.out, HB2.out⟩
    · have ht1 : ((typOf t[i].kind : Int) == 1) = false := beq_eq_false_iff_ne.2 (fun e => hk ((typ_text hkr).1 e))
      have hown : ownT t i = [] := by unfold ownT; rw [getD_at hi, if_neg hk]
      have hf : w.cell? ⟨bl i, 1, none⟩ = some (ptrK bl (kidsL t i) 0) := by rw [h1, hkids.fst]; rfl
      have hinj : ∀ a c (ha : a < (kidsL t i).length) (hc : c < (kidsL t i).length), bl (kidsL t i)[a] = bl (kidsL t i)[c] → a = c := fun a c ha hc e => hkids.inj a c ha hc (hT.dom.inj _ _ (hkids.lt a ha) (hkids.lt c hc) e)
      obtain ⟨y, hy⟩ : ∃ y, y = typOf t[i].kind := ⟨_, rfl⟩
      rw [← hy] at h5 ht1
      have HIH := Lib.hid ih
      have HT := Lib.hid hT
      have HK := Lib.hid hkids
      have HInj := Lib.hid hinj
      have HI := Lib.hid hI
      have HB := Lib.hid hb
      have HOwn := Lib.hid hown
      have hE : txt t i = (kidsL t i).flatMap (txt t) := by rw [HTx.out, hown]; simp
      have HE := Lib.hid hE
      have HD := Lib.hid hd
      clear ih hT hTw hkids hinj hI hb hown hE hself HTx hkr hk h1 h4 h7 hy hd
      go_enter Try.func168, Try.ntmps168
      go_wp2_with fail
      go_loopw [6] (fun x wr => HelpRel t bl i b acc W x wr) (fun x _ => measE bl (kidsL t i) x)
      case atStart => exact ⟨0, Nat.zero_le _, rfl, by rw [HOwn.out]; simpa using HI.out, HB.out⟩
      case round =>
        obtain ⟨k, hk, rfl, hIr, hbr⟩ := hrel
        rw [HOwn.out, List.append_nil] at hIr
        have HMe := Lib.hid (measE_at (bl := bl) HInj.out hk)
        have HIr := Lib.hid hIr
        have HBr := Lib.hid hbr
        clear hIr hbr
        by_cases hlt : k < (kidsL t i).length
        · have hq := kid_sz hR hi hlt
          have hmem : (txt t (kidsL t i)[k]).length + (((kidsL t i).take k).flatMap (txt t)).length ≤ (txt t i).length := by
            rw [HE.out]
            conv => rhs; rw [← List.take_append_drop (k + 1) (kidsL t i), List.take_succ_eq_append_getElem hlt]
            simp only [List.flatMap_append, List.length_append, List.flatMap_cons, List.flatMap_nil, List.append_nil]
            omega
          have HC := Lib.hid (HIH.out (kidsL t i)[k] (acc ++ ((kidsL t i).take k).flatMap (txt t)) wr hq.2.1 (by have := HD.out; omega) HBr.out HIr.out (by rw [List.length_append]; omega))
          have HNx : Hid (∀ w', Below W.heap.size W w' → w'.cell? ⟨bl (kidsL t i)[k], 4, none⟩ = some (ptrK bl (kidsL t i) (k + 1))) := fun w' h' => by
            have := ((HT.out.kept h').dom.cells hq.2.1).2.2.2.2.2.1
            rw [HK.out.nxt k hlt] at this
            exact this
          have HMn := Lib.hid (measE_at (bl := bl) HInj.out (show k + 1 ≤ (kidsL t i).length by omega))
          have HAcc : Hid (acc ++ ((kidsL t i).take k).flatMap (txt t) ++ txt t (kidsL t i)[k] = acc ++ ((kidsL t i).take (k + 1)).flatMap (txt t)) := by
            rw [Hid, List.take_succ_eq_append_getElem hlt]
            simp only [List.flatMap_append, List.flatMap_cons, List.flatMap_nil, List.append_nil, List.append_assoc]
          rw [HAcc.out] at HC
          rw [ptrK_at hlt] at HMe ⊢
          obtain ⟨q, hqq⟩ : ∃ q, q = (kidsL t i)[k] := ⟨_, rfl⟩
          rw [← hqq] at HC HNx HMe ⊢
          clear hq hmem hqq HAcc hlen
          go_wp2_with fail
          refine HC.out.mono ?_
          rintro e w1 ⟨rfl, hI1, hb1⟩
          have g4 := HNx.out w1 hb1
          have HI1 := Lib.hid hI1
          have HB1 := Lib.hid hb1
          clear hI1 hb1
          go_wp2_with fail
          go_roundw
          case rel => exact ⟨k + 1, by omega, rfl, by rw [HOwn.out, List.append_nil]; exact HI1.out, HB1.out⟩
          case measure => rw [HMn.out, HMe.out]; omega
        · have hkl : k = (kidsL t i).length := by omega
          have hAll : ((kidsL t i).take k).flatMap (txt t) = txt t i := by rw [hkl, List.take_length, HE.out]
          rw [hAll] at HIr
          rw [ptrK_end (bl := bl) (K := kidsL t i) (k := k) (by omega)]
          clear hkl hAll HMe hlen
          go_wp2_with fail
          go_end0
          exact ⟨rfl, HIr.out, HBr.out⟩
end Go.Proofs.Ytfebdbfkpmjpeaa
