/- Each, EachWithBreak: what they tell their closures. -/
import Derived.Test.YtgilbckfkngaiaaT168
namespace Go.Proofs.Ytgilbckfkngaiaa
open Go.RowKit
set_option linter.unusedVariables false

def upN (k : Nat) : List Int := (List.range k).map fun (i : Nat) => (i : Int)
theorem upN_len (k : Nat) : (upN k).length = k := by simp [upN]
theorem upN_succ (k : Nat) : upN (k + 1) = upN k ++ [(k : Int)] := by simp [upN, List.range_succ]

/-- What the loop finds in memory. -/
structure EachW (bl : Nat → Nat) (n L ga g : Nat) (a : Option Addr) (c : Nat) (doc : Option Addr) (ns : List Nat) (W : World) : Prop where
  sel0 : W.cell? ⟨g, 0, none⟩ = some (.slice a ns.length c)
  sel1 : W.cell? ⟨g, 1, none⟩ = some (.pointer doc)
  row : RSl W W.heap.size a (ptrs bl ns)
  nodes : NodesAt bl n W
  list : ∀ j, j < n → W.cell? ⟨L, j, none⟩ = some (.pointer (some ⟨bl j, 0, none⟩))
  all : W.cell? ⟨ga, 0, none⟩ = some (.slice (some ⟨L, 0, none⟩) n n)
theorem EachW.up {bl : Nat → Nat} {n L ga g : Nat} {a : Option Addr} {c : Nat} {doc : Option Addr} {ns : List Nat} {W W' : World} (h : EachW bl n L ga g a c doc ns W) (hb : Below W.heap.size W W') : EachW bl n L ga g a c doc ns W' :=
  have hc : ∀ {p : Addr} {v : Value}, W.cell? p = some v → W'.cell? p = some v := fun hp => (hb.cell (World.block_lt_of_cell? W _ hp)).trans hp
  ⟨hc h.sel0, hc h.sel1, h.row.up hb, h.nodes.kept hb, fun j hj => hc (h.list j hj), hc h.all⟩

def SaidPost (B gn gl : Nat) (ns : List Nat) (m : Nat) (g : Nat) (w : World) (e : Ending) (w' : World) : Prop :=
  e = .returned (.pointer (some ⟨g, 0, none⟩)) ∧ Tells B gn gl (upN m) (toI (ns.take m)) w' ∧ Tell B gn gl w w'

def SaidRel (B gn gl : Nat) (ns : List Nat) (w : World) (x : Value) (wr : World) : Prop :=
  ∃ k : Nat, k ≤ ns.length ∧ x = .int .i64 k ∧ Tells B gn gl (upN k) (toI (ns.take k)) wr ∧ Tell B gn gl w wr

theorem cell_of_own1 {w : World} {B r : Nat} {t : TypeId} {v : Value} (h : w.ownsRow B t 1 (.slice (some ⟨r, 0, none⟩) 1 1) 1 [v]) : w.cell? ⟨r, 0, none⟩ = some v := by
  have := h.cells (g := r) rfl 0 v (by simp)
  rw [Addr.add_lit] at this
  exact this

set_option maxRecDepth 100000 in
set_option maxHeartbeats 4000000 in
theorem each_any (bl : Nat → Nat) (n L B gn gl ga g : Nat) (a : Option Addr) (c : Nat) (doc : Option Addr) (ns : List Nat) (hn : n ≤ 200) (hns : ∀ i ∈ ns, i < n) (hlen : ns.length ≤ 200) (w : World)
    (hW : ∀ W, Tell B gn gl w W → EachW bl n L ga g a c doc ns W) (hT : Tells B gn gl [] [] w) (hB : B ≤ w.heap.size) (hgn : gn < B) (hgl : gl < B) (hne : gn ≠ gl) (hgaB : ga < B) (hLB : L < B) (hNB : ∀ i, i < n → bl i < B) :
    Calls Try.prog 79 #[.pointer (some ⟨g, 0, none⟩), .func (.func 80) #[] #[.pointer (some ⟨gn, 0, none⟩), .pointer (some ⟨gl, 0, none⟩), .pointer (some ⟨ga, 0, none⟩)]] w (SaidPost B gn gl ns ns.length g w) := by
  have HW := Lib.hid hW
  have HT := Lib.hid hT
  have HNs := Lib.hid hns
  have HNB := Lib.hid hNB
  have h0 := hW w (Tell.refl _ _ _ _)
  have c0 := h0.sel0
  clear hW hT hns hNB h0
  go_enter Try.func79, Try.ntmps79
  go_wp2_with fail
  go_loopw [12] (fun x wr => SaidRel B gn gl ns w x wr) (fun x _ => ns.length - (intOf x).toNat)
  case atStart => exact ⟨0, by omega, rfl, HT.out, Tell.refl _ _ _ _⟩
  case round =>
    obtain ⟨k, hk, rfl, hTk, hTl⟩ := hrel
    have HTk := Lib.hid hTk
    have HTl := Lib.hid hTl
    clear hTk hTl
    by_cases hlt : k < ns.length
    · have hE := HW.out wr HTl.out
      obtain ⟨b, o, rfl, hbB, hc⟩ := hE.row.at_ (by rw [ptrs_length]; omega)
      have g1 := hc k (by rw [ptrs_length]; exact hlt)
      rw [ptrs_at hlt] at g1
      have g2 := hE.sel1
      obtain ⟨j, hj⟩ : ∃ j, j = ns[k] := ⟨_, rfl⟩
      have HJn : Hid (j < n) := by rw [hj]; exact HNs.out _ (List.getElem_mem hlt)
      have HTake : Hid (toI (ns.take (k + 1)) = toI (ns.take k) ++ [(j : Int)]) := by rw [Hid, List.take_succ_eq_append_getElem hlt, toI_snoc, hj]
      rw [← hj] at g1
      have HE := Lib.hid hE
      clear hc hj hE
      go_wp2_with fail
      refine (single_any ⟨bl j, 0, none⟩ doc wr).mono ?_
      rintro e w1 ⟨gs, r, rfl, hsel, hgs, hr, hown, hb1⟩
      have hE1 := HE.out.up hb1
      have hkB : B ≤ wr.heap.size := Nat.le_trans hB HTl.out.size
      have HC := Lib.hid (eachAll1_any bl n L B gn gl ga hn (upN k) (toI (ns.take k)) (by rw [upN_len]; omega) (by rw [toI_length, List.length_take]; omega) wr w1 HTk.out hb1 hgn hgl hne hgaB hkB hE1.all hE1.nodes HNB.out hLB hE1.list (k : Int) j HJn.out gs r hsel.cells.1 hgs hr (cell_of_own1 hown))
      have HB1 := Lib.hid (hb1.mono hkB)
      clear hsel hgs hr hown hb1 hE1 g1 g2
      go_wp2_with fail
      refine HC.out.mono ?_
      rintro e w2 ⟨rfl, hT2, hTl2⟩
      have HT2 := Lib.hid hT2
      have HTl2 : Hid (Tell B gn gl w w2) := HTl.out.trans ((Tell.of_below HB1.out).trans hTl2)
      clear hT2 hTl2
      go_wp2_with fail
      go_roundw
      case rel => exact ⟨k + 1, by omega, by go_num, by rw [upN_succ, HTake.out]; exact HT2.out, HTl2.out⟩
      case measure => simp [intOf]; omega
    · have e : k = ns.length := by omega
      subst e
      go_wp2_with fail
      go_ret
      exact ⟨rfl, HTk.out, HTl.out⟩

set_option maxRecDepth 100000 in
set_option maxHeartbeats 4000000 in
theorem eachBreak_any (bl : Nat → Nat) (n L B gn gl ga g gt : Nat) (a : Option Addr) (c : Nat) (doc : Option Addr) (ns : List Nat) (stop : Nat) (hst : 1 ≤ stop ∧ stop ≤ 300) (hn : n ≤ 200) (hns : ∀ i ∈ ns, i < n) (hlen : ns.length ≤ 200) (w : World)
    (hW : ∀ W, Tell B gn gl w W → EachW bl n L ga g a c doc ns W) (hT : Tells B gn gl [] [] w) (hB : B ≤ w.heap.size) (hgn : gn < B) (hgl : gl < B) (hne : gn ≠ gl) (hgaB : ga < B) (hLB : L < B) (hNB : ∀ i, i < n → bl i < B)
    (hgt : w.cell? ⟨gt, 0, none⟩ = some (.int .i64 stop)) (hgtB : gt < B) (hgt1 : gt ≠ gn) (hgt2 : gt ≠ gl) :
    Calls Try.prog 76 #[.pointer (some ⟨g, 0, none⟩), .func (.func 77) #[] #[.pointer (some ⟨gn, 0, none⟩), .pointer (some ⟨gl, 0, none⟩), .pointer (some ⟨ga, 0, none⟩), .pointer (some ⟨gt, 0, none⟩)]] w (SaidPost B gn gl ns (min stop ns.length) g w) := by
  have HW := Lib.hid hW
  have HT := Lib.hid hT
  have HNs := Lib.hid hns
  have HNB := Lib.hid hNB
  have HGt := Lib.hid hgt
  have h0 := hW w (Tell.refl _ _ _ _)
  have c0 := h0.sel0
  clear hW hT hns hNB h0 hgt
  go_enter Try.func76, Try.ntmps76
  go_wp2_with fail
  go_loopw [12] (fun x wr => SaidRel B gn gl ns w x wr ∧ (intOf x).toNat < stop) (fun x _ => ns.length - (intOf x).toNat)
  case atStart => exact ⟨⟨0, by omega, rfl, HT.out, Tell.refl _ _ _ _⟩, by simp [intOf]; omega⟩
  case round =>
    obtain ⟨⟨k, hk, rfl, hTk, hTl⟩, hks⟩ := hrel
    have hks : k < stop := by simpa [intOf] using hks
    have HTk := Lib.hid hTk
    have HTl := Lib.hid hTl
    clear hTk hTl
    by_cases hlt : k < ns.length
    · have hE := HW.out wr HTl.out
      obtain ⟨b, o, rfl, hbB, hc⟩ := hE.row.at_ (by rw [ptrs_length]; omega)
      have g1 := hc k (by rw [ptrs_length]; exact hlt)
      rw [ptrs_at hlt] at g1
      have g2 := hE.sel1
      obtain ⟨j, hj⟩ : ∃ j, j = ns[k] := ⟨_, rfl⟩
      have HJn : Hid (j < n) := by rw [hj]; exact HNs.out _ (List.getElem_mem hlt)
      have HTake : Hid (toI (ns.take (k + 1)) = toI (ns.take k) ++ [(j : Int)]) := by rw [Hid, List.take_succ_eq_append_getElem hlt, toI_snoc, hj]
      rw [← hj] at g1
      have HE := Lib.hid hE
      clear hc hj hE
      go_wp2_with fail
      refine (single_any ⟨bl j, 0, none⟩ doc wr).mono ?_
      rintro e w1 ⟨gs, r, rfl, hsel, hgs, hr, hown, hb1⟩
      have hE1 := HE.out.up hb1
      have hkB : B ≤ wr.heap.size := Nat.le_trans hB HTl.out.size
      have hgt1w : w1.cell? ⟨gt, 0, none⟩ = some (.int .i64 stop) := (hb1.cell (p := ⟨gt, 0, none⟩) (by show gt < _; omega)).trans ((HTl.out.cell (p := ⟨gt, 0, none⟩) hgtB hgt1 hgt2).trans HGt.out)
      have hC := each1_any bl n L B gn gl ga hn (upN k) (toI (ns.take k)) (by rw [upN_len]; omega) (by rw [toI_length, List.length_take]; omega) wr w1 HTk.out hb1 hgn hgl hne hgaB hkB hE1.all hE1.nodes HNB.out hLB hE1.list (k : Int) j HJn.out gs r hsel.cells.1 hgs hr (cell_of_own1 hown) gt stop hgt1w hgtB hgt1 hgt2
      rw [upN_len] at hC
      have HC := Lib.hid hC
      have HB1 := Lib.hid (hb1.mono hkB)
      clear hsel hgs hr hown hb1 hE1 g1 g2 hC hgt1w
      go_wp2_with fail
      refine HC.out.mono ?_
      rintro e w2 ⟨rfl, hT2, hTl2⟩
      have HT2 : Hid (Tells B gn gl (upN (k + 1)) (toI (ns.take (k + 1))) w2) := by rw [Hid, upN_succ, HTake.out]; exact hT2
      have HTl2 : Hid (Tell B gn gl w w2) := HTl.out.trans ((Tell.of_below HB1.out).trans hTl2)
      clear hT2 hTl2
      by_cases hq : k + 1 = stop
      · have hz : (((k : Int) + 1) != (stop : Int)) = false := by rw [bne_eq_false_iff_eq]; omega
        have hm : min stop ns.length = k + 1 := by omega
        rw [hz]
        go_wp2_with fail
        go_ret
        exact ⟨rfl, by rw [hm]; exact HT2.out, HTl2.out⟩
      · have hz : (((k : Int) + 1) != (stop : Int)) = true := by rw [bne_iff_ne]; omega
        rw [hz]
        go_wp2_with fail
        go_roundw
        case rel => exact ⟨⟨k + 1, by omega, by go_num, HT2.out, HTl2.out⟩, by simp [intOf]; omega⟩
        case measure => simp [intOf]; omega
    · have e : k = ns.length := by omega
      subst e
      have hm : min stop ns.length = ns.length := by omega
      go_wp2_with fail
      go_ret
      exact ⟨rfl, by rw [hm]; exact HTk.out, HTl.out⟩
end Go.Proofs.Ytgilbckfkngaiaa
