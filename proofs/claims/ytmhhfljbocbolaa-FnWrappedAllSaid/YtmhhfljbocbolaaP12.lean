/- All nodes wrapped: the walks (joined by join.py) -/
import Derived.Test.YtmhhfljbocbolaaP8
import Derived.Test.YtmhhfljbocbolaaP9
import Derived.Test.YtmhhfljbocbolaaP4
import Derived.Test.YtmhhfljbocbolaaP14
import Derived.Test.YtmhhfljbocbolaaP5
namespace Go.Proofs.Ytmhhfljbocbolaa
set_option linter.unusedVariables false

/-- One node mirrors another, with all beneath. -/
def MirD (F : Fo) (nd : Nat → Nd) : Nat → Nat → Nat → Prop
  | 0, y, x => nd y = nd x ∧ F.kids y = [] ∧ F.kids x = []
  | d + 1, y, x => nd y = nd x ∧ (F.kids y).length = (F.kids x).length ∧ ∀ j (h1 : j < (F.kids y).length) (h2 : j < (F.kids x).length), MirD F nd d (F.kids y)[j] (F.kids x)[j]

theorem mir_congr {F F2 : Fo} {nd nd2 : Nat → Nd} {N : Nat} {h : Nat → Nat} (o : F.Ok (fun i => i < N) h) (H : Nat) (ha : ∀ z, z < N → h z < H → F2.kids z = F.kids z ∧ nd2 z = nd z) : ∀ d y x, y < N → x < N → h y < H → h x < H → MirD F nd d y x → MirD F2 nd2 d y x := by
  intro d
  induction d with
  | zero =>
    intro y x hy hx h1 h2 m
    obtain ⟨a1, a2⟩ := ha y hy h1
    obtain ⟨b1, b2⟩ := ha x hx h2
    exact ⟨by rw [a2, b2]; exact m.1, by rw [a1]; exact m.2.1, by rw [b1]; exact m.2.2⟩
  | succ d ih =>
    intro y x hy hx h1 h2 m
    obtain ⟨a1, a2⟩ := ha y hy h1
    obtain ⟨b1, b2⟩ := ha x hx h2
    obtain ⟨m1, m2, m3⟩ := m
    refine ⟨by rw [a2, b2]; exact m1, by rw [a1, b1]; exact m2, fun j g1 g2 => ?_⟩
    simp only [a1, b1] at g1 g2 ⊢
    have e1 := (o.mem y _).1 (List.getElem_mem g1)
    have e2 := (o.mem x _).1 (List.getElem_mem g2)
    have k1 := o.ht _ _ e1
    have k2 := o.ht _ _ e2
    exact ih _ _ (o.dom _ _ e1).2 (o.dom _ _ e2).2 (by omega) (by omega) (m3 j g1 g2)

theorem mir_cpy (d : Nat) : ∀ (s : FoS) (h : Nat → Nat) (x : Nat), s.F.Ok (fun i => i < s.N) h → x < s.N → h x ≤ d → (cpy d s x).op = false → MirD (cpy d s x).F (cpy d s x).nd d s.N x := by
  induction d with
  | zero =>
    intro s h x o hx hd hop
    have h6 : ¬ 600 ≤ s.N := fun h6 => by
      have e : cpy 0 s x = (s.fresh x).shut := by show (if 600 ≤ s.N then _ else _) = _; rw [if_pos h6]
      rw [e] at hop; cases hop
    have e : cpy 0 s x = s.fresh x := by show (if 600 ≤ s.N then _ else _) = _; rw [if_neg h6]
    have hk : s.F.kids x = [] := List.eq_nil_iff_forall_not_mem.2 fun c hc => by
      have := o.ht _ _ ((o.mem x c).1 hc); omega
    rw [e]
    refine ⟨?_, (fresh_none o (Nat.le_refl _)).2, hk⟩
    show (if s.N = s.N then s.nd x else s.nd s.N) = (if x = s.N then s.nd x else s.nd x)
    rw [if_pos rfl, if_neg (by omega)]
  | succ d ih =>
    intro s h x o hx hd hop
    have h6 : ¬ 600 ≤ s.N := fun h6 => by
      have e : cpy (d + 1) s x = (s.fresh x).shut := by show (if 600 ≤ s.N then _ else _) = _; rw [if_pos h6]
      rw [e] at hop; cases hop
    have e := cpK_end d s x h6
    rw [← e] at hop ⊢
    have hops := cpK_ops o hx hd hop
    -- what holds behind i kids
    have key : ∀ i, i ≤ (s.F.kids x).length → (cpK d s x i).nd s.N = (cpK d s x i).nd x ∧ ∀ j (h1 : j < ((cpK d s x i).F.kids s.N).length) (h2 : j < (s.F.kids x).length), MirD (cpK d s x i).F (cpK d s x i).nd d ((cpK d s x i).F.kids s.N)[j] (s.F.kids x)[j] := by
      intro i
      induction i with
      | zero =>
        intro _
        have hf : (s.fresh x).F.kids s.N = [] := (fresh_none o (Nat.le_refl _)).2
        rw [cpK_zero]
        refine ⟨?_, fun j h1 => by simp only [hf] at h1; simp at h1⟩
        show (if s.N = s.N then s.nd x else s.nd s.N) = (if x = s.N then s.nd x else s.nd x)
        rw [if_pos rfl, if_neg (by omega)]
      | succ i ihi =>
        intro hi
        have hlt : i < (s.F.kids x).length := hi
        obtain ⟨m1, m2⟩ := ihi (Nat.le_of_lt hlt)
        obtain ⟨⟨h', eA⟩, hlen, -⟩ := cpK_ok o hx hd i (Nat.le_of_lt hlt)
        have k1 := (o.mem x _).1 (List.getElem_mem hlt)
        have k2 := (o.dom _ _ k1).2
        have k3 := o.ht _ _ k1
        have hsa := eA.lt
        obtain ⟨hb, eB⟩ := cpy_ok d (cpK d s x i) h' (s.F.kids x)[i] eA.ok (by omega) (by rw [eA.hold _ k2]; omega)
        have hob := (cpK_op o hx hd hlt (hops ((s.F.kids x).length - (i + 1)) (i + 1) (by omega))).2
        have hmb := ih (cpK d s x i) h' (s.F.kids x)[i] eA.ok (by omega) (by rw [eA.hold _ k2]; omega) hob
        have hsucc := cpK_succ d s x hlt
        obtain ⟨a, hA⟩ : ∃ a, a = cpK d s x i := ⟨_, rfl⟩
        obtain ⟨b, hB⟩ : ∃ b, b = cpy d (cpK d s x i) (s.F.kids x)[i] := ⟨_, rfl⟩
        rw [← hB] at hsucc hmb eB
        rw [← hA] at hsucc hmb eB eA m1 m2 hlen hsa
        have hab := eB.lt
        obtain ⟨e2, e3⟩ := ext_step eA k2 eB k3
        rw [hsucc]
        have hndb : (b.putB s.N s.N a.N).nd = b.nd := rfl
        have hhc : hb s.N = h x := (eB.hold _ hsa).trans eA.hnew
        -- kids agree but at the copy itself
        have hag : ∀ z, z < b.N → hb z < h x → (b.putB s.N s.N a.N).F.kids z = b.F.kids z ∧ (b.putB s.N s.N a.N).nd z = b.nd z := fun z _ hz => by
          refine ⟨?_, rfl⟩
          show (if z = s.N then _ else b.F.kids z) = _
          rw [if_neg fun e => by rw [e, hhc] at hz; omega]
        refine ⟨by rw [hndb, eB.ndo _ hsa, eB.ndo x (by omega)]; exact m1, fun j g1 g2 => ?_⟩
        simp only [e3] at g1 ⊢
        rw [List.length_append, List.length_singleton, hlen] at g1
        have hkj := (o.mem x _).1 (List.getElem_mem g2)
        have hkn := (o.dom _ _ hkj).2
        have hkh := o.ht _ _ hkj
        have hkb : hb (s.F.kids x)[j] = h (s.F.kids x)[j] := (eB.hold _ (by omega)).trans (eA.hold _ hkn)
        by_cases ej : j < i
        · have g3 : j < (a.F.kids s.N).length := by omega
          rw [List.getElem_append_left g3]
          have hy := (eA.ok.mem _ _).1 (List.getElem_mem g3)
          have hyn := (eA.ok.dom _ _ hy).2
          have hyh := eA.ok.ht _ _ hy
          rw [eA.hnew] at hyh
          have hm1 := mir_congr (F2 := b.F) (nd2 := b.nd) eA.ok (h x) (fun z hz _ => ⟨eB.kids z hz, eB.ndo z hz⟩) d _ _ hyn (by omega) hyh (by rw [eA.hold _ hkn]; exact hkh) (m2 j g3 g2)
          exact mir_congr eB.ok (h x) hag d _ _ (by omega) (by omega) (by rw [eB.hold _ hyn]; exact hyh) (by rw [hkb]; exact hkh) hm1
        · have e4 : j = i := by omega
          subst e4
          rw [List.getElem_append_right (by omega)]
          simp only [hlen, Nat.sub_self, List.getElem_cons_zero]
          exact mir_congr eB.ok (h x) hag d _ _ hab (by omega) (by rw [eB.hnew, eA.hold _ k2]; exact k3) (by rw [hkb]; exact hkh) hmb
    obtain ⟨m1, m2⟩ := key (s.F.kids x).length (Nat.le_refl _)
    obtain ⟨⟨h', eA⟩, hlen, -⟩ := cpK_ok o hx hd (s.F.kids x).length (Nat.le_refl _)
    have hkx := eA.kids x hx
    refine ⟨m1, by rw [hlen, hkx], fun j g1 g2 => ?_⟩
    simp only [hkx] at g2 ⊢
    exact m2 j g1 g2
end Go.Proofs.Ytmhhfljbocbolaa

namespace Go.Proofs.Ytmhhfljbocbolaa
open Go.RowKit
set_option linter.unusedVariables false

def isElN (nd : Nat → Nd) (c : Nat) : Bool := decide ((nd c).kind = 3)
def elK (F : Fo) (nd : Nat → Nd) (y : Nat) : List Nat := (F.kids y).filter (isElN nd)
def inm (F : Fo) (nd : Nat → Nd) : Nat → Nat → Option Nat
  | 0, y => some y
  | d + 1, y => match elK F nd y with
    | [] => some y
    | [c] => inm F nd d c
    | _ :: _ :: _ => none

theorem inm_leaf {F : Fo} {nd : Nat → Nd} {d y : Nat} (h : elK F nd y = []) : inm F nd d y = some y := by
  cases d with
  | zero => rfl
  | succ d => show (match elK F nd y with | [] => some y | [c] => inm F nd d c | _ :: _ :: _ => none) = _; rw [h]
theorem inm_one {F : Fo} {nd : Nat → Nd} {d y c : Nat} (h : elK F nd y = [c]) : inm F nd (d + 1) y = inm F nd d c := by
  show (match elK F nd y with | [] => some y | [c] => inm F nd d c | _ :: _ :: _ => none) = _; rw [h]
theorem inm_two {F : Fo} {nd : Nat → Nd} {d y a b : Nat} {l : List Nat} (h : elK F nd y = a :: b :: l) : inm F nd (d + 1) y = none := by
  show (match elK F nd y with | [] => some y | [c] => inm F nd d c | _ :: _ :: _ => none) = _; rw [h]

theorem take_prefix {l : List Nat} {p : Nat → Bool} {i : Nat} {m : List Nat} (h : (l.take i).filter p = m) : ∃ r, l.filter p = m ++ r := ⟨(l.drop i).filter p, by rw [← h, ← List.filter_append, List.take_append_drop]⟩

set_option maxRecDepth 100000 in
set_option maxHeartbeats 4000000 in
theorem inmost_any {F : Fo} {S : Nat → Prop} {ht : Nat → Nat} (o : F.Ok S ht) {nd : Nat → Nd} {pl : Nat → Int} {B : Nat} {kb : Nat → Nat} {w : World} (hK : Kno F S nd pl B kb w) (x : Nat) (hx : S x) (hlen : ∀ p, (F.kids p).length ≤ 100000) :
    Calls Try.prog 98 #[.pointer (some ⟨kb x, 0, none⟩)] w fun e w' => e = .returned (ptrTo kb (inm F nd (ht x) x)) ∧ w' = w := by
  have HK := Lib.hid hK
  have HO := Lib.hid o
  have HI := Lib.hid hK.inj
  have HLn := Lib.hid hlen
  obtain ⟨R, hR⟩ : ∃ R, R = inm F nd (ht x) x := ⟨_, rfl⟩
  rw [← hR]
  have HR := Lib.hid hR
  clear hK o hlen hR
  go_enter Try.func98, Try.ntmps98
  go_wp2_with fail
  go_loopw [0, 3, 4] (fun v _ _ wr => ∃ y d, v = .pointer (some ⟨kb y, 0, none⟩) ∧ S y ∧ ht y ≤ d ∧ Hid (R = inm F nd d y) ∧ w = wr) (fun v _ _ _ => hgt S kb ht v)
  case atStart => exact ⟨x, ht x, rfl, hx, Nat.le_refl _, HR, rfl⟩
  case round =>
    obtain ⟨y, d, rfl, hy, hd, HRy, rfl⟩ := hrel
    obtain ⟨-, -, -, ka, kc, c7, -, hown⟩ := HK.out.cells hy
    obtain ⟨_, _, hv, _, hrs⟩ := RSl.own hown
    cases hv
    have hkl := HLn.out y
    have HRs := Lib.hid hrs
    have HMy : Hid (hgt S kb ht (.pointer (some ⟨kb y, 0, none⟩)) = ht y + 1) := hgt_at HI.out ht hy
    clear hown hrs
    go_wp2_with fail
    go_loopw [3, 4] (fun v3 v4 wr => ∃ (i : Nat) (q : Option Nat), i ≤ (F.kids y).length ∧ v4 = .int .i64 i ∧ v3 = ptrTo kb q ∧ Hid (((F.kids y).take i).filter (isElN nd) = q.toList) ∧ w = wr) (fun _ v _ => (F.kids y).length - (intOf v).toNat)
    case atStart => exact ⟨0, none, by omega, rfl, rfl, rfl, rfl⟩
    case round =>
      obtain ⟨i, q, hi, rfl, rfl, hq, rfl⟩ := hrel
      by_cases hlt : i < (F.kids y).length
      · obtain ⟨b, off, rfl, -, hc⟩ := HRs.out.at_ (by rw [ptrs_length]; omega)
        have g1 := hc i (by rw [ptrs_length]; exact hlt)
        rw [ptrs_at hlt] at g1
        have hcp := (HO.out.mem y _).1 (List.getElem_mem hlt)
        have hcS := (HO.out.dom _ _ hcp).2
        have g2 := HK.out.kind hcS
        have HTk : Hid (((F.kids y).take (i + 1)).filter (isElN nd) = q.toList ++ (if isElN nd (F.kids y)[i] then [(F.kids y)[i]] else [])) := by
          rw [Hid, List.take_succ_eq_append_getElem hlt, List.filter_append, hq.out, List.filter_cons, List.filter_nil]
        obtain ⟨z, hz⟩ : ∃ z, z = (F.kids y)[i] := ⟨_, rfl⟩
        rw [← hz] at g1 g2 HTk
        clear hc hz hcp
        by_cases hk3 : (nd z).kind = 3
        · have ez : ((nd z).kind == 3) = true := by rw [hk3]; rfl
          have hel : isElN nd z = true := decide_eq_true hk3
          rw [hel] at HTk
          simp only [if_true] at HTk
          cases q with
          | none =>
            have HN : Hid (((F.kids y).take (i + 1)).filter (isElN nd) = (some z).toList) := HTk
            simp only [ptrTo, Option.map_none]
            clear hk3 hel hq
            go_wp2_with fail
            go_roundw
            case rel => exact ⟨i + 1, some z, hlt, by go_num, rfl, HN, by trivial⟩
            case measure => simp [intOf]; omega
          | some q =>
            have HNone : Hid (R = none) := by
              obtain ⟨r, hr⟩ := take_prefix HTk.out
              have hr2 : elK F nd y = q :: z :: r := hr
              have hyc : ht z < ht y := by
                have hm : z ∈ F.kids y := (List.mem_filter.1 (show z ∈ elK F nd y by rw [hr2]; simp)).1
                exact HO.out.ht _ _ ((HO.out.mem y z).1 hm)
              obtain ⟨d', rfl⟩ : ∃ d', d = d' + 1 := ⟨d - 1, by omega⟩
              rw [Hid, HRy.out]
              exact inm_two hr2
            simp only [ptrTo, Option.map_some]
            clear hk3 hel hq HTk
            go_wp2_with fail
            go_ret
            exact ⟨by rw [HNone.out]; rfl, rfl⟩
        · have ez : ((nd z).kind == 3) = false := by simp [hk3]
          have hel : isElN nd z = false := decide_eq_false hk3
          rw [hel] at HTk
          simp only [Bool.false_eq_true, if_false, List.append_nil] at HTk
          obtain ⟨v, hv⟩ : ∃ v, v = ptrTo kb q := ⟨_, rfl⟩
          have HV := Lib.hid hv
          rw [← hv]
          obtain ⟨pq, hpq⟩ : ∃ pq, v = .pointer pq := ⟨_, hv⟩
          subst hpq
          clear hk3 hel hq hv
          go_wp2_with fail
          go_roundw
          case rel => exact ⟨i + 1, q, hlt, by go_num, HV.out, HTk, by trivial⟩
          case measure => simp [intOf]; omega
      · have HEl : Hid (elK F nd y = q.toList) := by
          have := hq.out
          rw [List.take_of_length_le (by omega)] at this
          exact this
        clear hq
        cases q with
        | none =>
          have HSo : Hid (R = some y) := by rw [Hid, HRy.out]; exact inm_leaf HEl.out
          simp only [ptrTo, Option.map_none]
          go_wp2_with fail
          go_ret
          exact ⟨by rw [HSo.out]; rfl, rfl⟩
        | some q =>
          have hm : q ∈ F.kids y := (List.mem_filter.1 (show q ∈ elK F nd y by rw [HEl.out]; simp)).1
          have hqp := (HO.out.mem y q).1 hm
          have hqS := (HO.out.dom _ _ hqp).2
          have hqh := HO.out.ht _ _ hqp
          obtain ⟨d', rfl⟩ : ∃ d', d = d' + 1 := ⟨d - 1, by omega⟩
          have HRq : Hid (R = inm F nd d' q) := by rw [Hid, HRy.out]; exact inm_one HEl.out
          have HMq : Hid (hgt S kb ht (.pointer (some ⟨kb q, 0, none⟩)) = ht q + 1) := hgt_at HI.out ht hqS
          simp only [ptrTo, Option.map_some]
          clear hm hqp
          go_wp2_with fail
          go_roundw
          case rel => exact ⟨q, d', rfl, hqS, by omega, HRq, by trivial⟩
          case measure => have := HMq.out; have := HMy.out; omega
end Go.Proofs.Ytmhhfljbocbolaa

namespace Go.Proofs.Ytmhhfljbocbolaa
open Go.RowKit
set_option linter.unusedVariables false

def Put2Post (F : Fo) (S : Nat → Prop) (nd : Nat → Nd) (pl : Nat → Int) (B : Nat) (kb : Nat → Nat) (p k x : Nat) (w : World) (e : Ending) (w' : World) : Prop :=
  e = .returned (.tuple #[]) ∧ Kno ((F.cut x).put p k x) S nd pl B kb w' ∧ KTurn S kb w w'

theorem put2_end {F F1 : Fo} {S : Nat → Prop} {nd : Nat → Nd} {pl : Nat → Int} {B : Nat} {kb : Nat → Nat} {p k x : Nat} {w w1 w' : World} (hF : F1 = F.cut x) (T : KTurn S kb w w1) (h : Kno (F1.put p k x) S nd pl B kb w' ∧ KTurn S kb w1 w') : Put2Post F S nd pl B kb p k x w (.returned (.tuple #[])) w' := ⟨rfl, by rw [← hF]; exact h.1, T.trans h.2⟩

set_option maxRecDepth 100000 in
set_option maxHeartbeats 8000000 in
theorem put2_any {F0 : Fo} {S : Nat → Prop} {ht : Nat → Nat} (o : F0.Ok S ht) {nd : Nat → Nd} {pl : Nat → Int} {B : Nat} {kb : Nat → Nat} {w : World} (h0 : Kno F0 S nd pl B kb w) (hBw : B ≤ w.heap.size) (p x : Nat) (hSp : S p) (hSx : S x) (hpx : p ≠ x) (l1 l2 : List Nat) (hk0 : (F0.cut x).kids p = l1 ++ l2) (hlen0 : ∀ p, (F0.kids p).length ≤ 90000) (k : Nat) (hkk : k = l1.length) :
    Calls Try.prog 97 #[.pointer (some ⟨kb p, 0, none⟩), .int .i64 (k : Nat), .pointer (some ⟨kb x, 0, none⟩)] w (Put2Post F0 S nd pl B kb p k x w) := by
  subst hkk
  have HC := Lib.hid (cut_any o h0 hBw x hSx (fun p => by have := hlen0 p; omega))
  have HBw := Lib.hid hBw
  have hlen1 : ((F0.cut x).kids p).length ≤ 100000 := by
    have h1 : ((F0.cut x).kids p).length ≤ (F0.kids p).length := List.length_filter_le _ _
    have := hlen0 p; omega
  clear h0 hBw hlen0 o
  go_enter Try.func97, Try.ntmps97
  go_wp2_with fail
  refine HC.out.mono ?_
  rintro e wc ⟨rfl, h, hT0⟩
  have HT0 := Lib.hid hT0
  have hBw : B ≤ wc.heap.size := Nat.le_trans HBw.out hT0.size
  obtain ⟨F, hFd⟩ : ∃ F, F = F0.cut x := ⟨_, rfl⟩
  have hx : F.par x = none := by rw [hFd]; exact if_pos rfl
  have hlen : (F.kids p).length ≤ 100000 := by rw [hFd]; exact hlen1
  have hk : F.kids p = l1 ++ l2 := by rw [hFd]; exact hk0
  rw [← hFd] at h
  have HFd := Lib.hid hFd
  clear hT0 hlen1 hk0 hFd
  obtain ⟨-, -, -, ka, kc, c7, hkc, hown⟩ := h.cells hSp
  rcases hown.2 with ⟨e, e2⟩ | ⟨b, cap, cur, e, hg, hh, hn, hm, hz, ht⟩
  · rw [e] at c7
    have e3 : F.kids p = [] := List.eq_nil_of_length_eq_zero e2
    rw [hk, List.append_eq_nil_iff] at e3
    obtain ⟨e1, e2⟩ := e3
    clear hown hkc e
    have HFn : Hid (∀ (w2 : World) (a2 : Option Addr) (c2 n : Nat) (L : List Nat), L = l1 ++ [x] ++ l2 → n = L.length → Below wc.heap.size wc w2 → w2.ownsRow wc.heap.size 77 1 (.slice a2 n c2) n (ptrs kb L) →
        Kno (F.put p l1.length x) S nd pl B kb ((w2.setCell ⟨kb p, 7, none⟩ (.slice a2 n c2)).setCell ⟨kb x, 6, none⟩ (.pointer (some ⟨kb p, 0, none⟩))) ∧ KTurn S kb wc ((w2.setCell ⟨kb p, 7, none⟩ (.slice a2 n c2)).setCell ⟨kb x, 6, none⟩ (.pointer (some ⟨kb p, 0, none⟩)))) := by
      intro w2 a2 c2 n L hL hn hb ho
      subst hn
      have hk1 := ((h.up hb).setKids hSp (own_base ho hBw)).setPar hSx (some p)
      have e : (F.setKids p L).setPar x (some p) = F.put p l1.length x := by
        refine Fo.ext2 (fun q => rfl) (fun q => ?_)
        show (if q = p then L else F.kids q) = (if q = p then insL (F.kids q) l1.length x else F.kids q)
        by_cases e : q = p
        · rw [if_pos e, if_pos e, e, hk, insL_split, hL]; simp
        · rw [if_neg e, if_neg e]
      rw [e] at hk1
      exact ⟨hk1, ((KTurn.of_below hb).set hSp 7 _).set hSx 6 _⟩
    have hne : kb p ≠ kb x := fun e => hpx (h.inj p x hSp hSx e)
    have hlp := h.lt hSp
    have hlx := h.lt hSx
    obtain ⟨pf, -⟩ := h.cells hSp
    obtain ⟨xf, x6, -⟩ := h.cells hSx
    rw [hx] at x6
    simp only [ptrTo, Option.map_none] at x6
    have HCell : Hid (∀ W, Below wc.heap.size wc W → W.cell? ⟨kb p, 7, none⟩ = some (.slice none 0 0) ∧ W.frozen? ⟨kb p, 7, none⟩ = false ∧ W.frozen? ⟨kb x, 6, none⟩ = false ∧ W.cell? ⟨kb x, 6, none⟩ = some (.pointer none)) := fun W hb => ⟨(hb.cell (p := ⟨kb p, _, none⟩) hlp).trans c7, (World.frozen?_of_block (hb.block _ hlp)).trans (pf 7), (World.frozen?_of_block (hb.block _ hlx)).trans (xf 6), (hb.cell (p := ⟨kb x, _, none⟩) hlx).trans x6⟩
    have HZ : Hid (∀ (w2 : World) (v : Value), w2.frozen? ⟨kb x, 6, none⟩ = false → w2.cell? ⟨kb x, 6, none⟩ = some (.pointer none) → (w2.setCell ⟨kb p, 7, none⟩ v).frozen? ⟨kb x, 6, none⟩ = false ∧ (w2.setCell ⟨kb p, 7, none⟩ v).cell? ⟨kb x, 6, none⟩ = some (.pointer none)) := fun w2 v h2 h3 => ⟨by rw [World.frozen?_setCell]; exact h2, by rw [World.cell?_setCell_far _ _ _ _ (by exact hne)]; exact h3⟩
    have hb0 : Below wc.heap.size wc (wc.alloc (.cells #[] 77)) := (Below.refl _ _).alloc (Nat.le_refl _) _
    have HB0 := Lib.hid hb0
    have HE : Hid ((wc.alloc (.cells #[] 77)).ownsRow wc.heap.size 77 1 (.slice (some ⟨wc.heap.size, 0, none⟩) 0 0) 0 []) := own_emptyS wc 77 1
    have HB1 : Hid (∀ w1, (wc.alloc (.cells #[] 77)).grownBy w1 (Value.slice (some ⟨wc.heap.size, 0, none⟩) 0 0).ownBlock → Below wc.heap.size wc w1) := fun w1 hg => hb0.grown hg hb0.size (fun k e => by cases e; exact Nat.le_refl _)
    have HB2 : Hid (∀ w1 w2, Below wc.heap.size wc w1 → ∀ {v : Value} {n : Nat} {L : List Value}, w1.ownsRow wc.heap.size 77 1 v n L → w1.grownBy w2 v.ownBlock → Below wc.heap.size wc w2) := fun w1 w2 hb v n L ho hg => hb.grown hg hb.size (fun k e => (ho.lt k e).1)
    have hc0 := (HCell.out wc (Below.refl _ _)).1
    have hcA := (HCell.out _ hb0).1
    subst e1 e2
    have HR1 : Hid (∀ W, Below wc.heap.size wc W → RSl W W.heap.size none (ptrs kb [])) := fun W _ => .inl rfl
    have HR2 := HR1
    clear h hx hk hb0 pf xf x6 c7 
    go_wp2_with (at_builtin; refine wpList_append_kn _ rfl (.tmp 9) (.tmp 15) rfl kb wc.heap.size (.slice (some ⟨wc.heap.size, 0, none⟩) 0 0) [] rfl HE.out none 0 0 ([] : List Nat) rfl rfl (HR1.out _ HB0.out) (by first | omega | (simp only [List.length_nil] <;> omega)) (by simp) ?_)
    intro a1 c1 W1 hown1 hg1 _
    try simp only [List.nil_append] at hown1
    try simp only [List.nil_append]
    have hbb1 := HB1.out W1 hg1
    have HO1 := Lib.hid hown1
    have Hb1 := Lib.hid hbb1
    have hs1 := hbb1.size
    have HO1a : Hid ((W1.alloc (.cells #[.pointer (some ⟨kb x, 0, none⟩)] 77)).ownsRow wc.heap.size 77 1 (.slice a1 ([] : List Nat).length c1) ([] : List Nat).length (ptrs kb ([] : List Nat))) := hown1.alloc _
    have HRx : Hid (RSl (W1.alloc (.cells #[.pointer (some ⟨kb x, 0, none⟩)] 77)) (W1.alloc (.cells #[.pointer (some ⟨kb x, 0, none⟩)] 77)).heap.size (some ⟨W1.heap.size, 0, none⟩) (ptrs kb [x])) := by
      refine .inr ⟨W1.heap.size, 0, rfl, by simp, fun q hq => ?_⟩
      have e0 : q = 0 := by simp [ptrs] at hq; omega
      subst e0
      rw [World.cell?_alloc_mark]; rfl
    have Hb1a : Hid (Below wc.heap.size wc (W1.alloc (.cells #[.pointer (some ⟨kb x, 0, none⟩)] 77))) := hbb1.alloc hbb1.size _
    have hs1a := Hb1a.out.size
    clear hg1 hown1 hbb1
    go_wp2_with (at_builtin; refine wpList_append_kn _ rfl (.tmp 17) (.tmp 19) rfl kb wc.heap.size (.slice a1 ([] : List Nat).length c1) ([] : List Nat) rfl HO1a.out (some ⟨W1.heap.size, 0, none⟩) 1 1 [x] rfl rfl HRx.out (by first | omega | (simp only [List.length_nil, List.length_cons] <;> omega)) hs1a ?_)
    intro a2 c2 W2 hown2 hg2 _
    have hbb2 := HB2.out _ W2 Hb1a.out HO1a.out hg2
    obtain ⟨X, hX⟩ : ∃ X, X = ([] : List Nat) ++ [x] := ⟨_, rfl⟩
    have HXl : Hid (X.length = ([] : List Nat).length + 1) := by rw [hX]; exact List.length_append
    have HO2 : Hid (W2.ownsRow wc.heap.size 77 1 (.slice a2 1 c2) X.length (ptrs kb X)) := by rw [HXl.out, hX]; exact hown2
    have HX := Lib.hid hX
    have Hb2 := Lib.hid hbb2
    have hs2 := hbb2.size
    obtain ⟨q7, -⟩ := HCell.out W2 hbb2
    have hXn : X.length ≤ 200000 := by have h9 := HXl.out; first | omega | (simp only [List.length_nil] at h9; omega)
    clear hg2 hown2 hbb2 hX
    go_wp2_with (at_builtin; refine wpList_append_kn _ rfl (.tmp 22) (.tmp 28) rfl kb wc.heap.size (.slice a2 1 c2) X rfl HO2.out none 0 0 ([] : List Nat) rfl rfl (HR2.out _ Hb2.out) (by first | omega | (simp only [List.length_nil] <;> omega)) hs2 ?_)
    intro a3 c3 W3 hown3 hg3 _
    have hbb3 := HB2.out W2 W3 Hb2.out HO2.out hg3
    obtain ⟨r7, f7, f6, x6⟩ := HCell.out W3 hbb3
    obtain ⟨f6b, x6b⟩ := HZ.out W3 (.slice a3 X.length c3) f6 x6
    have HO3 := Lib.hid hown3
    have Hb3 := Lib.hid hbb3
    clear hg3 hown3 hbb3 q7
    go_wp2_with fail
    go_end0
    exact put2_end HFd.out HT0.out (HFn.out W3 a3 c3 X.length X (by rw [HX.out]; rfl) (by simp) Hb3.out HO3.out)
  · injection e with e1 _ e3
    subst e1 e3
    obtain ⟨off, ho0⟩ : ∃ off : Nat, off = 0 := ⟨_, rfl⟩
    have hc : ∀ q (hq : q < (ptrs kb (F.kids p)).length), wc.cell? ⟨b, off + q, none⟩ = some (ptrs kb (F.kids p))[q] := fun q hq => by
      have := hown.cells (g := b) rfl q (ptrs kb (F.kids p))[q] (List.getElem?_eq_getElem hq)
      rw [Addr.add_lit] at this
      rw [ho0]; exact this
    have hbB := (Array.getElem?_eq_some_iff.1 hh).1
    rw [← ho0] at c7
    clear hown hh hn hm hz ht hg ho0
    by_cases hcap : kc = l1.length
    · have HFn : Hid (∀ (w2 : World) (a2 : Option Addr) (c2 n : Nat) (L : List Nat), L = l1 ++ [x] ++ l2 → n = L.length → Below wc.heap.size wc w2 → w2.ownsRow wc.heap.size 77 1 (.slice a2 n c2) n (ptrs kb L) →
          Kno (F.put p l1.length x) S nd pl B kb ((w2.setCell ⟨kb p, 7, none⟩ (.slice a2 n c2)).setCell ⟨kb x, 6, none⟩ (.pointer (some ⟨kb p, 0, none⟩))) ∧ KTurn S kb wc ((w2.setCell ⟨kb p, 7, none⟩ (.slice a2 n c2)).setCell ⟨kb x, 6, none⟩ (.pointer (some ⟨kb p, 0, none⟩)))) := by
        intro w2 a2 c2 n L hL hn hb ho
        subst hn
        have hk1 := ((h.up hb).setKids hSp (own_base ho hBw)).setPar hSx (some p)
        have e : (F.setKids p L).setPar x (some p) = F.put p l1.length x := by
          refine Fo.ext2 (fun q => rfl) (fun q => ?_)
          show (if q = p then L else F.kids q) = (if q = p then insL (F.kids q) l1.length x else F.kids q)
          by_cases e : q = p
          · rw [if_pos e, if_pos e, e, hk, insL_split, hL]; simp
          · rw [if_neg e, if_neg e]
        rw [e] at hk1
        exact ⟨hk1, ((KTurn.of_below hb).set hSp 7 _).set hSx 6 _⟩
      have hne : kb p ≠ kb x := fun e => hpx (h.inj p x hSp hSx e)
      have hlp := h.lt hSp
      have hlx := h.lt hSx
      obtain ⟨pf, -⟩ := h.cells hSp
      obtain ⟨xf, x6, -⟩ := h.cells hSx
      rw [hx] at x6
      simp only [ptrTo, Option.map_none] at x6
      have HCell : Hid (∀ W, Below wc.heap.size wc W → W.cell? ⟨kb p, 7, none⟩ = some (.slice (some ⟨b, off, none⟩) (F.kids p).length kc) ∧ W.frozen? ⟨kb p, 7, none⟩ = false ∧ W.frozen? ⟨kb x, 6, none⟩ = false ∧ W.cell? ⟨kb x, 6, none⟩ = some (.pointer none)) := fun W hb => ⟨(hb.cell (p := ⟨kb p, _, none⟩) hlp).trans c7, (World.frozen?_of_block (hb.block _ hlp)).trans (pf 7), (World.frozen?_of_block (hb.block _ hlx)).trans (xf 6), (hb.cell (p := ⟨kb x, _, none⟩) hlx).trans x6⟩
      have HZ : Hid (∀ (w2 : World) (v : Value), w2.frozen? ⟨kb x, 6, none⟩ = false → w2.cell? ⟨kb x, 6, none⟩ = some (.pointer none) → (w2.setCell ⟨kb p, 7, none⟩ v).frozen? ⟨kb x, 6, none⟩ = false ∧ (w2.setCell ⟨kb p, 7, none⟩ v).cell? ⟨kb x, 6, none⟩ = some (.pointer none)) := fun w2 v h2 h3 => ⟨by rw [World.frozen?_setCell]; exact h2, by rw [World.cell?_setCell_far _ _ _ _ (by exact hne)]; exact h3⟩
      have hb0 : Below wc.heap.size wc (wc.alloc (.cells #[] 77)) := (Below.refl _ _).alloc (Nat.le_refl _) _
      have HB0 := Lib.hid hb0
      have HE : Hid ((wc.alloc (.cells #[] 77)).ownsRow wc.heap.size 77 1 (.slice (some ⟨wc.heap.size, 0, none⟩) 0 0) 0 []) := own_emptyS wc 77 1
      have HB1 : Hid (∀ w1, (wc.alloc (.cells #[] 77)).grownBy w1 (Value.slice (some ⟨wc.heap.size, 0, none⟩) 0 0).ownBlock → Below wc.heap.size wc w1) := fun w1 hg => hb0.grown hg hb0.size (fun k e => by cases e; exact Nat.le_refl _)
      have HB2 : Hid (∀ w1 w2, Below wc.heap.size wc w1 → ∀ {v : Value} {n : Nat} {L : List Value}, w1.ownsRow wc.heap.size 77 1 v n L → w1.grownBy w2 v.ownBlock → Below wc.heap.size wc w2) := fun w1 w2 hb v n L ho hg => hb.grown hg hb.size (fun k e => (ho.lt k e).1)
      have hc0 := (HCell.out wc (Below.refl _ _)).1
      have hcA := (HCell.out _ hb0).1
      have hkl : (F.kids p).length = l1.length + l2.length := by rw [hk, List.length_append]
      have hl20 : l2 = [] := List.eq_nil_of_length_eq_zero (by omega)
      have HR1 : Hid (∀ W, Below wc.heap.size wc W → RSl W W.heap.size (some ⟨b, off, none⟩) (ptrs kb l1)) := by
        intro W hb
        rcases Nat.eq_zero_or_pos l1.length with h0 | h0
        · rw [List.eq_nil_of_length_eq_zero h0]; exact .inl rfl
        · refine .inr ⟨b, off, rfl, by have := hb.size; omega, fun q hq => ?_⟩
          rw [ptrs_length] at hq
          rw [hb.cell (p := ⟨b, _, none⟩) hbB, hc q (by rw [ptrs_length]; omega), ptrs_at hq, ptrs_at (by omega)]
          simp only [hk]
          rw [List.getElem_append_left hq]
      have HR2 : Hid (∀ W, Below wc.heap.size wc W → RSl W W.heap.size (some ⟨b, off, none⟩) (ptrs kb l2)) := fun W _ => by rw [hl20]; exact .inl rfl
      have HL2 : Hid (0 = l2.length) := by rw [hl20]; rfl
      have hL3 : l1.length + l2.length ≤ 100000 := by omega
      subst hcap
      have hA2 : l1.length ≤ (F.kids p).length := by omega
      have hA3 : (0 : Int) ≤ (l1.length : Int) := by omega
      have hA5 : (l1.length : Int) ≤ ((F.kids p).length : Int) := by omega
      clear h hx hk hb0 pf xf x6 c7 hc hkl hl20
      go_wp2_with (at_builtin; refine wpList_append_kn _ rfl (.tmp 9) (.tmp 15) rfl kb wc.heap.size (.slice (some ⟨wc.heap.size, 0, none⟩) 0 0) [] rfl HE.out (some ⟨b, off, none⟩) l1.length l1.length l1 rfl rfl (HR1.out _ HB0.out) (by first | omega | (simp only [List.length_nil] <;> omega)) (by simp) ?_)
      intro a1 c1 W1 hown1 hg1 _
      try simp only [List.nil_append] at hown1
      try simp only [List.nil_append]
      have hbb1 := HB1.out W1 hg1
      have HO1 := Lib.hid hown1
      have Hb1 := Lib.hid hbb1
      have hs1 := hbb1.size
      have HO1a : Hid ((W1.alloc (.cells #[.pointer (some ⟨kb x, 0, none⟩)] 77)).ownsRow wc.heap.size 77 1 (.slice a1 l1.length c1) l1.length (ptrs kb l1)) := hown1.alloc _
      have HRx : Hid (RSl (W1.alloc (.cells #[.pointer (some ⟨kb x, 0, none⟩)] 77)) (W1.alloc (.cells #[.pointer (some ⟨kb x, 0, none⟩)] 77)).heap.size (some ⟨W1.heap.size, 0, none⟩) (ptrs kb [x])) := by
        refine .inr ⟨W1.heap.size, 0, rfl, by simp, fun q hq => ?_⟩
        have e0 : q = 0 := by simp [ptrs] at hq; omega
        subst e0
        rw [World.cell?_alloc_mark]; rfl
      have Hb1a : Hid (Below wc.heap.size wc (W1.alloc (.cells #[.pointer (some ⟨kb x, 0, none⟩)] 77))) := hbb1.alloc hbb1.size _
      have hs1a := Hb1a.out.size
      clear hg1 hown1 hbb1
      go_wp2_with (at_builtin; refine wpList_append_kn _ rfl (.tmp 17) (.tmp 19) rfl kb wc.heap.size (.slice a1 l1.length c1) l1 rfl HO1a.out (some ⟨W1.heap.size, 0, none⟩) 1 1 [x] rfl rfl HRx.out (by first | omega | (simp only [List.length_nil, List.length_cons] <;> omega)) hs1a ?_)
      intro a2 c2 W2 hown2 hg2 _
      have hbb2 := HB2.out _ W2 Hb1a.out HO1a.out hg2
      obtain ⟨X, hX⟩ : ∃ X, X = l1 ++ [x] := ⟨_, rfl⟩
      have HXl : Hid (X.length = l1.length + 1) := by rw [hX]; exact List.length_append
      have HO2 : Hid (W2.ownsRow wc.heap.size 77 1 (.slice a2 (l1.length + 1) c2) X.length (ptrs kb X)) := by rw [HXl.out, hX]; exact hown2
      have HX := Lib.hid hX
      have Hb2 := Lib.hid hbb2
      have hs2 := hbb2.size
      obtain ⟨q7, -⟩ := HCell.out W2 hbb2
      have hXn : X.length ≤ 200000 := by have h9 := HXl.out; first | omega | (simp only [List.length_nil] at h9; omega)
      clear hg2 hown2 hbb2 hX
      go_wp2_with (at_builtin; refine wpList_append_kn _ rfl (.tmp 22) (.tmp 28) rfl kb wc.heap.size (.slice a2 (l1.length + 1) c2) X rfl HO2.out (some ⟨b, off, none⟩) 0 0 l2 HL2.out rfl (HR2.out _ Hb2.out) (by first | omega | (simp only [List.length_nil] <;> omega)) hs2 ?_)
      intro a3 c3 W3 hown3 hg3 _
      have hbb3 := HB2.out W2 W3 Hb2.out HO2.out hg3
      obtain ⟨r7, f7, f6, x6⟩ := HCell.out W3 hbb3
      obtain ⟨f6b, x6b⟩ := HZ.out W3 (.slice a3 (X.length + l2.length) c3) f6 x6
      have HO3 := Lib.hid hown3
      have Hb3 := Lib.hid hbb3
      clear hg3 hown3 hbb3 q7
      go_wp2_with fail
      go_end0
      exact put2_end HFd.out HT0.out (HFn.out W3 a3 c3 (X.length + l2.length) (X ++ l2) (by rw [HX.out]) (by simp) Hb3.out HO3.out)
    · have HFn : Hid (∀ (w2 : World) (a2 : Option Addr) (c2 n : Nat) (L : List Nat), L = l1 ++ [x] ++ l2 → n = L.length → Below wc.heap.size wc w2 → w2.ownsRow wc.heap.size 77 1 (.slice a2 n c2) n (ptrs kb L) →
          Kno (F.put p l1.length x) S nd pl B kb ((w2.setCell ⟨kb p, 7, none⟩ (.slice a2 n c2)).setCell ⟨kb x, 6, none⟩ (.pointer (some ⟨kb p, 0, none⟩))) ∧ KTurn S kb wc ((w2.setCell ⟨kb p, 7, none⟩ (.slice a2 n c2)).setCell ⟨kb x, 6, none⟩ (.pointer (some ⟨kb p, 0, none⟩)))) := by
        intro w2 a2 c2 n L hL hn hb ho
        subst hn
        have hk1 := ((h.up hb).setKids hSp (own_base ho hBw)).setPar hSx (some p)
        have e : (F.setKids p L).setPar x (some p) = F.put p l1.length x := by
          refine Fo.ext2 (fun q => rfl) (fun q => ?_)
          show (if q = p then L else F.kids q) = (if q = p then insL (F.kids q) l1.length x else F.kids q)
          by_cases e : q = p
          · rw [if_pos e, if_pos e, e, hk, insL_split, hL]; simp
          · rw [if_neg e, if_neg e]
        rw [e] at hk1
        exact ⟨hk1, ((KTurn.of_below hb).set hSp 7 _).set hSx 6 _⟩
      have hne : kb p ≠ kb x := fun e => hpx (h.inj p x hSp hSx e)
      have hlp := h.lt hSp
      have hlx := h.lt hSx
      obtain ⟨pf, -⟩ := h.cells hSp
      obtain ⟨xf, x6, -⟩ := h.cells hSx
      rw [hx] at x6
      simp only [ptrTo, Option.map_none] at x6
      have HCell : Hid (∀ W, Below wc.heap.size wc W → W.cell? ⟨kb p, 7, none⟩ = some (.slice (some ⟨b, off, none⟩) (F.kids p).length kc) ∧ W.frozen? ⟨kb p, 7, none⟩ = false ∧ W.frozen? ⟨kb x, 6, none⟩ = false ∧ W.cell? ⟨kb x, 6, none⟩ = some (.pointer none)) := fun W hb => ⟨(hb.cell (p := ⟨kb p, _, none⟩) hlp).trans c7, (World.frozen?_of_block (hb.block _ hlp)).trans (pf 7), (World.frozen?_of_block (hb.block _ hlx)).trans (xf 6), (hb.cell (p := ⟨kb x, _, none⟩) hlx).trans x6⟩
      have HZ : Hid (∀ (w2 : World) (v : Value), w2.frozen? ⟨kb x, 6, none⟩ = false → w2.cell? ⟨kb x, 6, none⟩ = some (.pointer none) → (w2.setCell ⟨kb p, 7, none⟩ v).frozen? ⟨kb x, 6, none⟩ = false ∧ (w2.setCell ⟨kb p, 7, none⟩ v).cell? ⟨kb x, 6, none⟩ = some (.pointer none)) := fun w2 v h2 h3 => ⟨by rw [World.frozen?_setCell]; exact h2, by rw [World.cell?_setCell_far _ _ _ _ (by exact hne)]; exact h3⟩
      have hb0 : Below wc.heap.size wc (wc.alloc (.cells #[] 77)) := (Below.refl _ _).alloc (Nat.le_refl _) _
      have HB0 := Lib.hid hb0
      have HE : Hid ((wc.alloc (.cells #[] 77)).ownsRow wc.heap.size 77 1 (.slice (some ⟨wc.heap.size, 0, none⟩) 0 0) 0 []) := own_emptyS wc 77 1
      have HB1 : Hid (∀ w1, (wc.alloc (.cells #[] 77)).grownBy w1 (Value.slice (some ⟨wc.heap.size, 0, none⟩) 0 0).ownBlock → Below wc.heap.size wc w1) := fun w1 hg => hb0.grown hg hb0.size (fun k e => by cases e; exact Nat.le_refl _)
      have HB2 : Hid (∀ w1 w2, Below wc.heap.size wc w1 → ∀ {v : Value} {n : Nat} {L : List Value}, w1.ownsRow wc.heap.size 77 1 v n L → w1.grownBy w2 v.ownBlock → Below wc.heap.size wc w2) := fun w1 w2 hb v n L ho hg => hb.grown hg hb.size (fun k e => (ho.lt k e).1)
      have hc0 := (HCell.out wc (Below.refl _ _)).1
      have hcA := (HCell.out _ hb0).1
      have hkl : (F.kids p).length = l1.length + l2.length := by rw [hk, List.length_append]
      have HR1 : Hid (∀ W, Below wc.heap.size wc W → RSl W W.heap.size (some ⟨b, off, none⟩) (ptrs kb l1)) := by
        intro W hb
        rcases Nat.eq_zero_or_pos l1.length with h0 | h0
        · rw [List.eq_nil_of_length_eq_zero h0]; exact .inl rfl
        · refine .inr ⟨b, off, rfl, by have := hb.size; omega, fun q hq => ?_⟩
          rw [ptrs_length] at hq
          rw [hb.cell (p := ⟨b, _, none⟩) hbB, hc q (by rw [ptrs_length]; omega), ptrs_at hq, ptrs_at (by omega)]
          simp only [hk]
          rw [List.getElem_append_left hq]
      have HR2 : Hid (∀ W, Below wc.heap.size wc W → RSl W W.heap.size (some ⟨b, off + l1.length, none⟩) (ptrs kb l2)) := by
        intro W hb
        rcases Nat.eq_zero_or_pos l2.length with h0 | h0
        · rw [List.eq_nil_of_length_eq_zero h0]; exact .inl rfl
        · refine .inr ⟨b, off + l1.length, rfl, by have := hb.size; omega, fun q hq => ?_⟩
          rw [ptrs_length] at hq
          have e : off + l1.length + q = off + (l1.length + q) := by omega
          rw [e, hb.cell (p := ⟨b, _, none⟩) hbB, hc (l1.length + q) (by rw [ptrs_length]; omega), ptrs_at hq, ptrs_at (by omega)]
          simp only [hk]
          rw [List.getElem_append_right (by omega)]
          have e2 : l1.length + q - l1.length = q := by omega
          simp only [e2]
      have HL2 : Hid ((F.kids p).length - l1.length = l2.length) := by unfold Hid; omega
      have hL3 : l1.length + l2.length ≤ 100000 := by omega
      have hA1 : l1.length ≤ kc := by omega
      have hA2 : l1.length ≤ (F.kids p).length := by omega
      have hA3 : (0 : Int) ≤ (l1.length : Int) := by omega
      have hA5 : (l1.length : Int) ≤ ((F.kids p).length : Int) := by omega
      clear h hx hk hb0 pf xf x6 c7 hc hkl
      go_wp2_with (at_builtin; refine wpList_append_kn _ rfl (.tmp 9) (.tmp 15) rfl kb wc.heap.size (.slice (some ⟨wc.heap.size, 0, none⟩) 0 0) [] rfl HE.out (some ⟨b, off, none⟩) l1.length kc l1 rfl rfl (HR1.out _ HB0.out) (by first | omega | (simp only [List.length_nil] <;> omega)) (by simp) ?_)
      intro a1 c1 W1 hown1 hg1 _
      try simp only [List.nil_append] at hown1
      try simp only [List.nil_append]
      have hbb1 := HB1.out W1 hg1
      have HO1 := Lib.hid hown1
      have Hb1 := Lib.hid hbb1
      have hs1 := hbb1.size
      have HO1a : Hid ((W1.alloc (.cells #[.pointer (some ⟨kb x, 0, none⟩)] 77)).ownsRow wc.heap.size 77 1 (.slice a1 l1.length c1) l1.length (ptrs kb l1)) := hown1.alloc _
      have HRx : Hid (RSl (W1.alloc (.cells #[.pointer (some ⟨kb x, 0, none⟩)] 77)) (W1.alloc (.cells #[.pointer (some ⟨kb x, 0, none⟩)] 77)).heap.size (some ⟨W1.heap.size, 0, none⟩) (ptrs kb [x])) := by
        refine .inr ⟨W1.heap.size, 0, rfl, by simp, fun q hq => ?_⟩
        have e0 : q = 0 := by simp [ptrs] at hq; omega
        subst e0
        rw [World.cell?_alloc_mark]; rfl
      have Hb1a : Hid (Below wc.heap.size wc (W1.alloc (.cells #[.pointer (some ⟨kb x, 0, none⟩)] 77))) := hbb1.alloc hbb1.size _
      have hs1a := Hb1a.out.size
      clear hg1 hown1 hbb1
      go_wp2_with (at_builtin; refine wpList_append_kn _ rfl (.tmp 17) (.tmp 19) rfl kb wc.heap.size (.slice a1 l1.length c1) l1 rfl HO1a.out (some ⟨W1.heap.size, 0, none⟩) 1 1 [x] rfl rfl HRx.out (by first | omega | (simp only [List.length_nil, List.length_cons] <;> omega)) hs1a ?_)
      intro a2 c2 W2 hown2 hg2 _
      have hbb2 := HB2.out _ W2 Hb1a.out HO1a.out hg2
      obtain ⟨X, hX⟩ : ∃ X, X = l1 ++ [x] := ⟨_, rfl⟩
      have HXl : Hid (X.length = l1.length + 1) := by rw [hX]; exact List.length_append
      have HO2 : Hid (W2.ownsRow wc.heap.size 77 1 (.slice a2 (l1.length + 1) c2) X.length (ptrs kb X)) := by rw [HXl.out, hX]; exact hown2
      have HX := Lib.hid hX
      have Hb2 := Lib.hid hbb2
      have hs2 := hbb2.size
      obtain ⟨q7, -⟩ := HCell.out W2 hbb2
      have hXn : X.length ≤ 200000 := by have h9 := HXl.out; first | omega | (simp only [List.length_nil] at h9; omega)
      clear hg2 hown2 hbb2 hX
      go_wp2_with (at_builtin; refine wpList_append_kn _ rfl (.tmp 22) (.tmp 28) rfl kb wc.heap.size (.slice a2 (l1.length + 1) c2) X rfl HO2.out (some ⟨b, off + l1.length, none⟩) ((F.kids p).length - l1.length) (kc - l1.length) l2 HL2.out rfl (HR2.out _ Hb2.out) (by first | omega | (simp only [List.length_nil] <;> omega)) hs2 ?_)
      intro a3 c3 W3 hown3 hg3 _
      have hbb3 := HB2.out W2 W3 Hb2.out HO2.out hg3
      obtain ⟨r7, f7, f6, x6⟩ := HCell.out W3 hbb3
      obtain ⟨f6b, x6b⟩ := HZ.out W3 (.slice a3 (X.length + l2.length) c3) f6 x6
      have HO3 := Lib.hid hown3
      have Hb3 := Lib.hid hbb3
      clear hg3 hown3 hbb3 q7
      go_wp2_with fail
      go_end0
      exact put2_end HFd.out HT0.out (HFn.out W3 a3 c3 (X.length + l2.length) (X ++ l2) (by rw [HX.out]) (by simp) Hb3.out HO3.out)
end Go.Proofs.Ytmhhfljbocbolaa

namespace Go.Proofs.Ytmhhfljbocbolaa
open Go.RowKit
set_option linter.unusedVariables false

theorem typ_elN {x : Nd} (h : NdG x) : (typOf x.kind = 3 ↔ x.kind = 3) := by
  unfold typOf
  rcases h.kind with e | e | e | e | e <;> simp [e]

/-- Pointwise alike lists have pointwise alike elements. -/
theorem el_zip {F : Fo} {nd : Nat → Nd} {d : Nat} : ∀ (l m : List Nat), l.length = m.length → (∀ j (h1 : j < l.length) (h2 : j < m.length), MirD F nd d l[j] m[j]) → (l.filter (isElN nd)).length = (m.filter (isElN nd)).length ∧ ∀ j (h1 : j < (l.filter (isElN nd)).length) (h2 : j < (m.filter (isElN nd)).length), MirD F nd d (l.filter (isElN nd))[j] (m.filter (isElN nd))[j] := by
  intro l
  induction l with
  | nil => intro m hl _; cases m with
    | nil => exact ⟨rfl, fun j h1 => by simp at h1⟩
    | cons b m => simp at hl
  | cons a l ih =>
    intro m hl hm
    cases m with
    | nil => simp at hl
    | cons b m =>
      have h0 := hm 0 (by simp) (by simp)
      simp only [List.getElem_cons_zero] at h0
      obtain ⟨k1, k2⟩ := ih m (by simpa using hl) (fun j h1 h2 => by
        have := hm (j + 1) (by simpa using h1) (by simpa using h2)
        simpa using this)
      have hnd : nd a = nd b := by cases d <;> exact h0.1
      have hel : isElN nd a = isElN nd b := by unfold isElN; rw [hnd]
      rw [List.filter_cons, List.filter_cons, hel]
      cases e : isElN nd b
      · simpa using ⟨k1, k2⟩
      · refine ⟨by simp [k1], fun j h1 h2 => ?_⟩
        cases j with
        | zero => simpa using h0
        | succ j => simpa using k2 j (by simpa using h1) (by simpa using h2)

theorem mir_inm {F : Fo} {nd : Nat → Nd} : ∀ (d y x : Nat), MirD F nd d y x → (inm F nd d x).isSome → (inm F nd d y).isSome := by
  intro d
  induction d with
  | zero => intro y x _ _; rfl
  | succ d ih =>
    intro y x hm hs
    obtain ⟨h1, h2, h3⟩ := hm
    obtain ⟨k1, k2⟩ := el_zip (F := F) (nd := nd) (d := d) (F.kids y) (F.kids x) h2 h3
    change (elK F nd y).length = (elK F nd x).length at k1
    change ∀ j (h1 : j < (elK F nd y).length) (h2 : j < (elK F nd x).length), MirD F nd d (elK F nd y)[j] (elK F nd x)[j] at k2
    cases ex : elK F nd x with
    | nil =>
      rw [ex] at k1
      rw [inm_leaf (List.eq_nil_of_length_eq_zero k1)]; rfl
    | cons b l =>
      cases l with
      | nil =>
        rw [inm_one ex] at hs
        cases ey : elK F nd y with
        | nil => rw [ex, ey] at k1; simp at k1
        | cons a l2 =>
          cases l2 with
          | nil =>
            rw [inm_one ey]
            have hab : MirD F nd d a b := by
              have := k2 0 (by rw [ey]; simp) (by rw [ex]; simp)
              simp only [ey, ex, List.getElem_cons_zero] at this
              exact this
            exact ih a b hab hs
          | cons c l3 => rw [ex, ey] at k1; simp at k1
      | cons c l3 => rw [inm_two ex] at hs; cases hs

/-- The innermost one stands beneath. -/
theorem inm_up {F : Fo} {nd : Nat → Nd} (hm : ∀ p c, c ∈ F.kids p → F.par c = some p) : ∀ (d y z : Nat), inm F nd d y = some z → F.Up y z := by
  intro d
  induction d with
  | zero => intro y z h; cases h; exact .self
  | succ d ih =>
    intro y z h
    cases ey : elK F nd y with
    | nil => rw [inm_leaf ey] at h; cases h; exact .self
    | cons a l =>
      cases l with
      | nil =>
        rw [inm_one ey] at h
        have : a ∈ F.kids y := (List.mem_filter.1 (show a ∈ elK F nd y by rw [ey]; simp)).1
        exact up_above (hm y a this) (ih a z h)
      | cons b l => rw [inm_two ey] at h; cases h

set_option maxRecDepth 100000 in
set_option maxHeartbeats 4000000 in
theorem firstEl_any {F : Fo} {S : Nat → Prop} {ht : Nat → Nat} (o : F.Ok S ht) {nd : Nat → Nd} (hnd : ∀ i, S i → NdG (nd i)) {B : Nat} {bl : Nat → Nat} {st : Nat → Dn} {w : World} (hP : Prog F S nd B bl st w) (y : Nat) (hy : S y) :
    Calls Try.prog 66 #[.pointer (some ⟨bl y, 0, none⟩)] w fun e w' => e = .returned (ptrTo bl (elK F nd y).head?) ∧ w' = w := by
  obtain ⟨-, -, c1, -⟩ := hP.dom.cells hy
  rw [(hP.fit y hy).fst, List.head?_eq_getElem?] at c1
  have hC : ∀ j (hj : j < (F.kids y).length), w.cell? ⟨bl (F.kids y)[j], 4, none⟩ = some (ptrTo bl ((F.kids y)[j + 1]?)) ∧ w.cell? ⟨bl (F.kids y)[j], 5, none⟩ = some (.int .u32 (typOf (nd (F.kids y)[j]).kind)) := fun j hj => by
    have h1 := (o.mem y _).1 (List.getElem_mem hj)
    have h2 := (o.dom _ _ h1).2
    obtain ⟨-, -, -, -, -, c4, c5, -⟩ := hP.dom.cells h2
    rw [(hP.self _ h2).typ] at c5
    rw [((hP.fit _ h2).sib y h1).2] at c4
    have e2 : F.kids y = (F.kids y).take j ++ (F.kids y)[j] :: (F.kids y).drop (j + 1) := by rw [List.getElem_cons_drop, List.take_append_drop]
    have hn := o.nodup y
    rw [e2] at hn
    have e3 := nextIn_split ((F.kids y).drop (j + 1)) (F.kids y)[j] ((F.kids y).take j) (nodup_split hn).1
    rw [← e2, List.head?_drop] at e3
    rw [e3] at c4
    exact ⟨c4, c5⟩
  have HC := Lib.hid hC
  have HT : Hid (∀ j (hj : j < (F.kids y).length), (typOf (nd (F.kids y)[j]).kind = 3 ↔ (nd (F.kids y)[j]).kind = 3)) := fun j hj => typ_elN (hnd _ (o.dom _ _ ((o.mem y _).1 (List.getElem_mem hj))).2)
  have HIdx : Hid (∀ i (hi : i < (F.kids y).length), hgt S bl (fun z => (F.kids y).length - (F.kids y).idxOf z) (.pointer (some ⟨bl (F.kids y)[i], 0, none⟩)) = (F.kids y).length - i + 1) := fun i hi => by
    rw [hgt_at hP.dom.inj _ ((o.dom _ _ ((o.mem y _).1 (List.getElem_mem hi))).2)]
    show (F.kids y).length - (F.kids y).idxOf (F.kids y)[i] + 1 = _
    rw [(o.nodup y).idxOf_getElem i hi]
  have HNil : Hid (hgt S bl (fun z => (F.kids y).length - (F.kids y).idxOf z) (.pointer none) = 0) := hgt_nil _ _ _
  obtain ⟨v0, hv0⟩ : ∃ v0, v0 = ptrTo bl ((F.kids y)[0]?) := ⟨_, rfl⟩
  rw [← hv0] at c1
  have HV0 := Lib.hid hv0
  obtain ⟨p0, rfl⟩ : ∃ p0, v0 = .pointer p0 := ⟨_, hv0⟩
  clear hC hv0 o hP hnd
  go_enter Try.func66, Try.ntmps66
  go_wp2_with fail
  go_loopw [3] (fun v wr => ∃ i, i ≤ (F.kids y).length ∧ v = ptrTo bl ((F.kids y)[i]?) ∧ Hid (((F.kids y).take i).filter (isElN nd) = []) ∧ w = wr) (fun v _ => hgt S bl (fun z => (F.kids y).length - (F.kids y).idxOf z) v)
  case atStart => exact ⟨0, Nat.zero_le _, HV0.out, rfl, rfl⟩
  case round =>
    obtain ⟨i, hi, rfl, hno, rfl⟩ := hrel
    by_cases hlt : i < (F.kids y).length
    · have e1 : (F.kids y)[i]? = some (F.kids y)[i] := List.getElem?_eq_getElem hlt
      rw [e1]
      simp only [ptrTo, Option.map_some]
      obtain ⟨n4, n5⟩ := HC.out i hlt
      have hT := HT.out i hlt
      have HM1 := Lib.hid (HIdx.out i hlt)
      by_cases hk : (nd (F.kids y)[i]).kind = 3
      · have ht3 := hT.2 hk
        rw [ht3] at n5
        have HRes : Hid ((elK F nd y).head? = some (F.kids y)[i]) := by
          have e2 : F.kids y = (F.kids y).take i ++ (F.kids y)[i] :: (F.kids y).drop (i + 1) := by rw [List.getElem_cons_drop, List.take_append_drop]
          have hel : isElN nd (F.kids y)[i] = true := decide_eq_true hk
          unfold Hid elK
          conv => lhs; rw [e2]
          rw [List.filter_append, hno.out, List.nil_append, List.filter_cons, hel]
          rfl
        obtain ⟨z, hz⟩ : ∃ z, z = (F.kids y)[i] := ⟨_, rfl⟩
        rw [← hz] at n5 HRes ⊢
        clear e1 n4 hT hk ht3 hz hno
        go_wp2_with fail
        go_ret
        exact ⟨by rw [HRes.out]; rfl, rfl⟩
      · have htn : (typOf (nd (F.kids y)[i]).kind != 3) = true := by
          have : ¬ typOf (nd (F.kids y)[i]).kind = 3 := fun e => hk (hT.1 e)
          simp [this]
        have HN : Hid (((F.kids y).take (i + 1)).filter (isElN nd) = []) := by
          have hel : isElN nd (F.kids y)[i] = false := decide_eq_false hk
          rw [Hid, List.take_succ_eq_append_getElem hlt, List.filter_append, hno.out, List.filter_cons, hel]; rfl
        have HM2 : Hid (hgt S bl (fun z => (F.kids y).length - (F.kids y).idxOf z) (ptrTo bl ((F.kids y)[i + 1]?)) < (F.kids y).length - i + 1) := by
          by_cases h2 : i + 1 < (F.kids y).length
          · have e2 : (F.kids y)[i + 1]? = some (F.kids y)[i + 1] := List.getElem?_eq_getElem h2
            have := HIdx.out (i + 1) h2
            unfold Hid
            rw [e2]
            simp only [ptrTo, Option.map_some]
            omega
          · have e2 : (F.kids y)[i + 1]? = none := List.getElem?_eq_none (by omega)
            have := HNil.out
            unfold Hid
            rw [e2]
            simp only [ptrTo, Option.map_none]
            omega
        obtain ⟨T, hT2⟩ : ∃ T, T = typOf (nd (F.kids y)[i]).kind := ⟨_, rfl⟩
        rw [← hT2] at n5 htn
        obtain ⟨z, hz⟩ : ∃ z, z = bl (F.kids y)[i] := ⟨_, rfl⟩
        rw [← hz] at n4 n5 HM1 ⊢
        obtain ⟨v, hv⟩ : ∃ v, v = ptrTo bl ((F.kids y)[i + 1]?) := ⟨_, rfl⟩
        have HV := Lib.hid hv
        rw [← hv] at n4
        obtain ⟨pv, rfl⟩ : ∃ pv, v = .pointer pv := ⟨_, hv⟩
        clear e1 hT hk hT2 hz hno hv
        go_wp2_with fail
        go_roundw
        case rel => exact ⟨i + 1, hlt, HV.out, HN, by trivial⟩
        case measure => rw [HV.out]; have := HM1.out; have := HM2.out; omega
    · have e1 : (F.kids y)[i]? = none := List.getElem?_eq_none (by omega)
      have HRes : Hid ((elK F nd y).head? = none) := by
        have := hno.out
        rw [List.take_of_length_le (by omega)] at this
        unfold Hid elK
        rw [this]; rfl
      rw [e1]
      simp only [ptrTo, Option.map_none]
      clear e1 hno
      go_wp2_with fail
      go_ret
      exact ⟨by rw [HRes.out]; rfl, rfl⟩
end Go.Proofs.Ytmhhfljbocbolaa

namespace Go.Proofs.Ytmhhfljbocbolaa
open Go.RowKit
set_option linter.unusedVariables false

set_option maxRecDepth 100000 in
set_option maxHeartbeats 1000000 in
theorem single_any (bl : Nat → Nat) (y : Nat) (doc : Option Addr) (w : World) :
    Calls Try.prog 67 #[.pointer (some ⟨bl y, 0, none⟩), .pointer doc] w (fun e w' => e = .returned (.pointer (some ⟨w.heap.size + 1, 0, none⟩)) ∧ SelB w' (w.heap.size + 1) (some ⟨w.heap.size, 0, none⟩) 1 1 doc none ∧ w'.ownsRow w.heap.size 69 1 (.slice (some ⟨w.heap.size, 0, none⟩) 1 1) 1 (ptrs bl [y]) ∧ Below w.heap.size w w') := by
  obtain ⟨W1, hW1⟩ : ∃ W1, W1 = w.alloc (.cells #[.pointer (some ⟨bl y, 0, none⟩)] 69) := ⟨_, rfl⟩
  have hs1 : W1.heap.size = w.heap.size + 1 := by rw [hW1]; simp
  have h1 : W1.heap[w.heap.size]? = some (.cells #[.pointer (some ⟨bl y, 0, none⟩)] 69 (0, 0)) := by rw [hW1]; exact heap_alloc_new w _
  have hb1 : Below w.heap.size w W1 := by rw [hW1]; exact (Below.refl _ _).alloc (Nat.le_refl _) _
  have HF : Hid (SelB (W1.alloc (.cells #[.slice (some ⟨w.heap.size, 0, none⟩) 1 1, .pointer doc, .pointer none] 83)) (w.heap.size + 1) (some ⟨w.heap.size, 0, none⟩) 1 1 doc none ∧ (W1.alloc (.cells #[.slice (some ⟨w.heap.size, 0, none⟩) 1 1, .pointer doc, .pointer none] 83)).ownsRow w.heap.size 69 1 (.slice (some ⟨w.heap.size, 0, none⟩) 1 1) 1 (ptrs bl [y]) ∧ Below w.heap.size w (W1.alloc (.cells #[.slice (some ⟨w.heap.size, 0, none⟩) 1 1, .pointer doc, .pointer none] 83))) := by
    refine ⟨?_, ?_, hb1.alloc hb1.size _⟩
    · rw [← hs1]; exact heap_alloc_new W1 _
    · have ho : W1.ownsRow w.heap.size 69 1 (.slice (some ⟨w.heap.size, 0, none⟩) 1 1) 1 (ptrs bl [y]) := ⟨by simp [ptrs], .inr ⟨w.heap.size, 1, _, rfl, Nat.le_refl _, h1, Nat.le_refl _, by simp [maxLen], rfl, rfl⟩⟩
      exact ho.alloc _
  subst hW1
  clear h1 hb1 hs1
  go_enter Try.func67, Try.ntmps67
  go_wp2_with fail
  go_ret
  exact ⟨rfl, HF.out⟩

set_option maxRecDepth 100000 in
set_option maxHeartbeats 1000000 in
theorem appSel_any {n B : Nat} {bl : Nat → Nat} {s : FoS} (w : World) (g g2 : Nat) (a : Option Addr) (m c : Nat) (hc : w.cell? ⟨g2, 0, none⟩ = some (.slice a m c)) (h : Calls Try.prog 39 #[.pointer (some ⟨g, 0, none⟩), .slice a m c] w (ManPost n B bl g s w)) :
    Calls Try.prog 68 #[.pointer (some ⟨g, 0, none⟩), .pointer (some ⟨g2, 0, none⟩)] w (ManPost n B bl g s w) := by
  have H := Lib.hid h
  clear h
  go_enter Try.func68, Try.ntmps68
  go_wp2_with fail
  refine H.out.mono ?_
  rintro e w2 ⟨rfl, h2⟩
  have H2 := Lib.hid h2
  clear h2
  go_wp2_with fail
  go_ret
  exact ⟨rfl, H2.out⟩
end Go.Proofs.Ytmhhfljbocbolaa

namespace Go.Proofs.Ytmhhfljbocbolaa
set_option linter.unusedVariables false

/-- Of two that stand above one, one stands above the other. -/
theorem up_cmp {F : Fo} {x r z : Nat} (u : F.Up x z) : F.Up r z → F.Up x r ∨ F.Up r x := by
  induction u with
  | self => intro v; exact .inr v
  | @step z p h1 h2 ih =>
    intro v
    cases v with
    | self => exact .inl (.step h1 h2)
    | step h3 h4 => rw [h1] at h3; cases h3; exact ih h4

structure WrP (t : List Nd) (l l2 : List Int) (on : List Nat) (w : Nat) : Prop where
  cho : ChoP t.length l on
  ne : on ≠ []
  wi : ChoP t.length l2 [w]
  kind : (ndT t w).kind = 3
  one : inm (fo0 t) (ndT t) (sz t w) w ≠ none
  apart : ∀ x ∈ on, ¬ (fo0 t).Up w x
  par : ∀ x ∈ on, (fo0 t).par x ≠ none
  pair : ∀ i j (hi : i < on.length) (hj : j < on.length), i ≠ j → ¬ (fo0 t).Up on[i] on[j]

def wrS (t : List Nd) (first w : Nat) : FoS := insOne 4 false ⟨fo0 t, t.length, ndT t, false⟩ first [w]

theorem wr_inv {t : List Nd} (hR : RightP t) {l l2 : List Int} {on : List Nat} {w : Nat} (P : WrP t l l2 on w) {first : Nat} (hf : first ∈ on) : Inv t.length (fo0 t) (sz t) (ndT t) 4 on [w] ⟨fo0 t, t.length, ndT t, false⟩ (sz t) ∧ ∃ h1, Inv t.length (fo0 t) (sz t) (ndT t) 4 on [w] (wrS t first w) h1 := by
  have o0 := fo0_ok hR
  have hw : w < t.length := (P.wi.rng w (by simp)).2
  have I0 : Inv t.length (fo0 t) (sz t) (ndT t) 4 on [w] ⟨fo0 t, t.length, ndT t, false⟩ (sz t) := ⟨o0, Nat.le_refl _, fun _ _ _ _ => ⟨rfl, rfl⟩, fun v hv x hx => by rw [List.mem_singleton] at hv; subst hv; exact P.apart x hx, fun _ => P.par, fun y hy => ⟨y, hy, rfl⟩⟩
  exact ⟨I0, inv_next (.inr (.inr rfl)) o0 I0 (fun v hv => by rw [List.mem_singleton] at hv; subst hv; exact ⟨hw, sz_le hR hw⟩) (fun x hx => (P.cho.rng x hx).2) hf⟩

/-- What stands above the first one is held by none of the others, nor by itself. -/
theorem wr_above {t : List Nd} (hR : RightP t) {l l2 : List Int} {on : List Nat} {w : Nat} (P : WrP t l l2 on w) {first p : Nat} (hf : first ∈ on) (hp : (fo0 t).par first = some p) : ∀ x ∈ on, ¬ (fo0 t).Up x p := by
  intro x hx u
  obtain ⟨i, hi, rfl⟩ := List.getElem_of_mem hx
  obtain ⟨j, hj, e⟩ := List.getElem_of_mem hf
  have u2 : (fo0 t).Up on[i] first := .step hp u
  by_cases h : i = j
  · subst h
    rw [e] at u
    have h1 := (fo0_ok hR).ht _ _ hp
    rcases u.ht (fo0_ok hR) with h2 | h2
    · subst h2; omega
    · omega
  · rw [← e] at u2
    exact P.pair i j hi hj h u2

/-- Behind the copy: what it left. -/
theorem wr_parts {t : List Nd} (hR : RightP t) {l l2 : List Int} {on : List Nat} {w : Nat} (P : WrP t l l2 on w) {first p : Nat} (hf : first ∈ on) (hp : (fo0 t).par first = some p) :
    (∀ y, y < t.length → y ≠ p → (wrS t first w).F.kids y = (fo0 t).kids y) ∧ (∀ y, y < t.length → (wrS t first w).F.par y = (fo0 t).par y) ∧ (wrS t first w).F.par t.length = some p ∧ (∀ y q, t.length < y → (wrS t first w).F.par y = some q → t.length ≤ q) ∧ t.length < (wrS t first w).N := by
  have hw : w < t.length := (P.wi.rng w (by simp)).2
  have hfn : first < t.length := (P.cho.rng first hf).2
  have o0 := fo0_ok hR
  obtain ⟨hb, E⟩ := cpy_ok 200 ⟨fo0 t, t.length, ndT t, false⟩ (sz t) w o0 hw (sz_le hR hw)
  obtain ⟨a, hA⟩ : ∃ a, a = cpy 200 ⟨fo0 t, t.length, ndT t, false⟩ w := ⟨_, rfl⟩
  rw [← hA] at E
  have hk : kpar 4 a.F first = p := by
    unfold kpar
    have : a.F.par first = (fo0 t).par first := E.par first hfn
    rw [if_pos rfl, this, hp]; rfl
  have hS : wrS t first w = a.row p (kpos 4 a.F first p) [t.length] := by
    rw [hA] at hk ⊢
    show (innS false _ [w]).row (kpar 4 (innS false _ [w]).F first) (kpos 4 (innS false _ [w]).F first (kpar 4 (innS false _ [w]).F first)) (innL false _ [w]) = _
    have e1 : innS false ⟨fo0 t, t.length, ndT t, false⟩ [w] = cpy 200 ⟨fo0 t, t.length, ndT t, false⟩ w := rfl
    rw [e1, hk]; rfl
  refine ⟨fun y hy hyp => ?_, fun y hy => ?_, ?_, fun y q hy hq => ?_, by rw [hS]; exact E.lt⟩
  · rw [hS]
    show (if y = p then _ else a.F.kids y) = _
    rw [if_neg hyp]; exact E.kids y hy
  · rw [hS]
    show (if y ∈ [t.length] then some p else a.F.par y) = _
    rw [if_neg (by simp; omega)]; exact E.par y hy
  · rw [hS]
    show (if t.length ∈ [t.length] then some p else a.F.par t.length) = _
    rw [if_pos (by simp)]
  · rw [hS] at hq
    change (if y ∈ [t.length] then some p else a.F.par y) = some q at hq
    rw [if_neg (by simp; omega)] at hq
    exact E.newp y q (Nat.le_of_lt hy) hq
end Go.Proofs.Ytmhhfljbocbolaa

namespace Go.Proofs.Ytmhhfljbocbolaa
set_option linter.unusedVariables false

theorem inm_congr {F F2 : Fo} {nd nd2 : Nat → Nd} (hm : ∀ p c, c ∈ F.kids p → F.par c = some p) : ∀ (d y : Nat), (∀ z, F.Up y z → F2.kids z = F.kids z) → (∀ z, F.Up y z → nd2 z = nd z) → inm F2 nd2 d y = inm F nd d y := by
  intro d
  induction d with
  | zero => intro y _ _; rfl
  | succ d ih =>
    intro y hk hn
    have e : elK F2 nd2 y = elK F nd y := by
      unfold elK
      rw [hk y .self]
      refine List.filter_congr fun c hc => ?_
      unfold isElN
      rw [hn c (up_above (hm y c hc) .self)]
    cases h : elK F nd y with
    | nil => rw [inm_leaf (e.trans h), inm_leaf h]
    | cons c l =>
      have hc : c ∈ F.kids y := by
        have h1 : c ∈ elK F nd y := by rw [h]; exact List.mem_cons_self
        exact (List.mem_filter.1 h1).1
      cases l with
      | nil => rw [inm_one (e.trans h), inm_one h]; exact ih c (fun z u => hk z (up_above (hm y c hc) u)) (fun z u => hn z (up_above (hm y c hc) u))
      | cons c2 l => rw [inm_two (e.trans h), inm_two h]

theorem inm_fuel {F : Fo} {S : Nat → Prop} {h : Nat → Nat} (o : F.Ok S h) (nd : Nat → Nd) : ∀ (d d' y : Nat), h y ≤ d → h y ≤ d' → inm F nd d y = inm F nd d' y := by
  intro d
  induction d with
  | zero =>
    intro d' y h1 _
    have hk : elK F nd y = [] := List.eq_nil_iff_forall_not_mem.2 fun c hc => by
      have := o.ht _ _ ((o.mem y c).1 (List.mem_filter.1 hc).1); omega
    rw [inm_leaf hk, inm_leaf hk]
  | succ d ih =>
    intro d' y h1 h2
    cases hy : elK F nd y with
    | nil => rw [inm_leaf hy, inm_leaf hy]
    | cons c l =>
      have hc : c ∈ F.kids y := by
        have h1 : c ∈ elK F nd y := by rw [hy]; exact List.mem_cons_self
        exact (List.mem_filter.1 h1).1
      have hh := o.ht _ _ ((o.mem y c).1 hc)
      obtain ⟨d2, rfl⟩ : ∃ d2, d' = d2 + 1 := ⟨d' - 1, by omega⟩
      cases l with
      | nil => rw [inm_one hy, inm_one hy]; exact ih d2 c (by omega) (by omega)
      | cons c2 l => rw [inm_two hy, inm_two hy]

def wrTo (t : List Nd) (first w : Nat) : Nat := (inm (wrS t first w).F (wrS t first w).nd 200 t.length).getD 0
def wrE (t : List Nd) (on : List Nat) (w : Nat) : FoS := insOne 1 true (wrS t (on.headD 0) w) (wrTo t (on.headD 0) w) on

theorem headD_mem {on : List Nat} (h : on ≠ []) : on.headD 0 ∈ on := by
  cases on with
  | nil => exact absurd rfl h
  | cons a l => simp

structure WrT (t : List Nd) (on : List Nat) (w : Nat) (to : Nat) (s : FoS) (h : Nat → Nat) : Prop where
  inn : inm s.F s.nd 200 t.length = some to
  hr : h t.length ≤ 200
  hx : ∀ x ∈ on, h x ≤ 200
  tn : to < s.N
  inv : Inv s.N s.F h s.nd 1 [to] on s h
  nds : ∀ y, y < s.N → ∃ z, z < t.length ∧ s.nd y = ndT t z
  le : s.N ≤ 400
  ge : t.length < s.N

theorem wr_two {t : List Nd} (hR : RightP t) {l l2 : List Int} {on : List Nat} {w : Nat} (P : WrP t l l2 on w) {first p : Nat} (hf : first ∈ on) (hp : (fo0 t).par first = some p) (hop : (wrS t first w).op = false) :
    ∃ h, WrT t on w (wrTo t first w) (wrS t first w) h := by
  have hw : w < t.length := (P.wi.rng w (by simp)).2
  have hfn : first < t.length := (P.cho.rng first hf).2
  have o0 := fo0_ok hR
  have hpn := (o0.dom _ _ hp).1
  obtain ⟨q1, q2, q3, q4, q5⟩ := wr_parts hR P hf hp
  have hab := wr_above hR P hf hp
  obtain ⟨hb, E⟩ := cpy_ok 200 ⟨fo0 t, t.length, ndT t, false⟩ (sz t) w o0 hw (sz_le hR hw)
  have hM := mir_cpy 200 ⟨fo0 t, t.length, ndT t, false⟩ (sz t) w o0 hw (sz_le hR hw)
  have hLn := cpy_len 200 ⟨fo0 t, t.length, ndT t, false⟩ (sz t) w o0 hw (sz_le hR hw)
  have e2 : (fo0 t).lst 200 w = (fo0 t).all (sz t) w := (fo0 t).lst_fuel o0 _ _ _ (sz_le hR hw) (Nat.le_refl _)
  have e3 := all_bound o0 (n := t.length) (x := w) (fun i hi => hi) hw
  change (cpy 200 ⟨fo0 t, t.length, ndT t, false⟩ w).N ≤ t.length + ((fo0 t).lst 200 w).length at hLn
  rw [e2] at hLn
  have hle := hR.le
  obtain ⟨a, hA⟩ : ∃ a, a = cpy 200 ⟨fo0 t, t.length, ndT t, false⟩ w := ⟨_, rfl⟩
  rw [← hA] at E hM hLn
  have hk : kpar 4 a.F first = p := by
    unfold kpar
    have : a.F.par first = (fo0 t).par first := E.par first hfn
    rw [if_pos rfl, this, hp]; rfl
  have hS : wrS t first w = a.row p (kpos 4 a.F first p) [t.length] := by
    rw [hA] at hk ⊢
    show (innS false _ [w]).row (kpar 4 (innS false _ [w]).F first) (kpos 4 (innS false _ [w]).F first (kpar 4 (innS false _ [w]).F first)) (innL false _ [w]) = _
    have e1 : innS false ⟨fo0 t, t.length, ndT t, false⟩ [w] = cpy 200 ⟨fo0 t, t.length, ndT t, false⟩ w := rfl
    rw [e1, hk]; rfl
  have hlt : t.length < a.N := E.lt
  have hupa : ∀ {y q : Nat}, q < t.length → ((fo0 t).Up y q ↔ a.F.Up y q) := fun {y q} hq => up_old (s := ⟨fo0 t, t.length, ndT t, false⟩) (a := a) o0 E.par hq
  have hrp : ¬ a.F.Up t.length p := fun u => by
    have := ((hupa hpn).2 u).lt_of o0 hpn
    omega
  have hpf : a.F.par first = some p := (E.par first hfn).trans hp
  obtain ⟨l1, l3, k1, k2, k3, -⟩ := kpos_parts 4 (.inr (.inr rfl)) E.ok (x := first) (fun _ => by rw [hpf]; simp)
  rw [hk] at k1 k2
  obtain ⟨h', ok', hh'⟩ := row_ok E.ok k1 (show p < a.N by omega) (L := [t.length]) (fun r hr => by rw [List.mem_singleton] at hr; subst hr; exact ⟨hlt, E.root, hrp⟩) (by simp)
  rw [k2] at ok'
  have ok2 : (wrS t first w).F.Ok (fun i => i < (wrS t first w).N) h' := by rw [hS]; exact ok'
  have hopa : a.op = false := by rw [hS] at hop; exact hop
  have hNa : (wrS t first w).N = a.N := by rw [hS]; rfl
  have hnda : (wrS t first w).nd = a.nd := by rw [hS]; rfl
  have hka : ∀ z, z ≠ p → (wrS t first w).F.kids z = a.F.kids z := fun z hz => by rw [hS]; exact if_neg hz
  have hx : ∀ x ∈ on, h' x ≤ 200 := fun x hx => by
    have hxn := (P.cho.rng x hx).2
    rw [hh' x (fun u => hab x hx ((hupa hpn).2 u)), E.hold x hxn]
    exact sz_le hR hxn
  have hr : h' t.length ≤ 200 := by rw [hh' _ hrp, E.hnew]; exact sz_le hR hw
  -- the innermost element of the copy
  have hin : ∃ z, inm (wrS t first w).F (wrS t first w).nd 200 t.length = some z := by
    have g1 : (inm a.F a.nd 200 w).isSome := by
      rw [inm_congr (F := fo0 t) (nd := ndT t) (fun p c => (o0.mem p c).1) 200 w (fun z u => E.kids z (o0.up_mem (S := fun i => i < t.length) hw u)) (fun z u => E.ndo z (o0.up_mem (S := fun i => i < t.length) hw u)), inm_fuel o0 (ndT t) 200 (sz t w) w (sz_le hR hw) (Nat.le_refl _)]
      cases h : inm (fo0 t) (ndT t) (sz t w) w with
      | none => exact absurd h P.one
      | some z => rfl
    have g2 := mir_inm 200 t.length w (hM hopa) g1
    rw [hnda, inm_congr (F := a.F) (nd := a.nd) (fun p c => (E.ok.mem p c).1) 200 t.length (fun z u => hka z fun e => hrp (by rw [← e]; exact u)) (fun _ _ => rfl)]
    exact Option.isSome_iff_exists.1 g2
  obtain ⟨to, hto⟩ := hin
  have eto : wrTo t first w = to := by unfold wrTo; rw [hto]; rfl
  rw [eto]
  have uto := inm_up (fun p c => (ok2.mem p c).1) _ _ _ hto
  have htn : to < (wrS t first w).N := ok2.up_mem (S := fun i => i < (wrS t first w).N) q5 uto
  have hnx : ∀ x ∈ on, ¬ (wrS t first w).F.Up x to := fun x hx v => by
    have hxn := (P.cho.rng x hx).2
    have hupw : ∀ {y q : Nat}, q < t.length → ((fo0 t).Up y q ↔ (wrS t first w).F.Up y q) := fun {y q} hq => up_old (s := ⟨fo0 t, t.length, ndT t, false⟩) (a := wrS t first w) o0 q2 hq
    rcases up_cmp v uto with h1 | h1
    · cases h1 with
      | self => omega
      | step h3 h4 =>
        rw [q3] at h3; cases h3
        exact hab x hx ((hupw hpn).2 h4)
    · have := ((hupw hxn).2 h1).lt_of o0 hxn
      omega
  refine ⟨h', hto, hr, hx, htn, ⟨ok2, Nat.le_refl _, fun _ _ _ _ => ⟨rfl, rfl⟩, fun x hx y hy => ?_, fun e => absurd e (by decide), fun y hy => ⟨y, hy, rfl⟩⟩, fun y hy => ?_, by omega, q5⟩
  · rw [List.mem_singleton] at hy; subst hy; exact hnx x hx
  · rw [hnda]
    rw [hNa] at hy
    by_cases e : y < t.length
    · exact ⟨y, e, E.ndo y e⟩
    · obtain ⟨z, h1, h2⟩ := E.newn y (by exact Nat.le_of_not_lt e) hy
      exact ⟨z, h1, h2⟩

theorem wr_final {t : List Nd} (hR : RightP t) {l l2 : List Int} {on : List Nat} {w : Nat} (P : WrP t l l2 on w) (hop : (wrS t (on.headD 0) w).op = false) :
    ∃ h', (wrE t on w).F.Ok (fun i => i < (wrE t on w).N) h' ∧ t.length < (wrE t on w).N ∧ (wrE t on w).N ≤ 400 ∧ (∀ y, y < (wrE t on w).N → ∃ z, z < t.length ∧ (wrE t on w).nd y = ndT t z) ∧ (wrE t on w).op = false := by
  have hm := headD_mem P.ne
  obtain ⟨p, hp⟩ := Option.ne_none_iff_exists'.1 (P.par _ hm)
  obtain ⟨h, T⟩ := wr_two hR P hm hp hop
  have hge := T.ge
  obtain ⟨h2, k1, k2, k3, k4⟩ := inv_last (.inl rfl) T.inv P.cho.nodup (fun x hx => by have := (P.cho.rng x hx).2; omega) (fun x hx => by rw [List.mem_singleton] at hx; subst hx; exact T.tn) (List.mem_singleton.2 rfl)
  refine ⟨h2, k1, ?_, ?_, fun y hy => ?_, k4.trans hop⟩
  · show _ < (insOne 1 true _ _ on).N; rw [k2]; exact T.ge
  · show (insOne 1 true _ _ on).N ≤ _; rw [k2]; exact T.le
  · obtain ⟨z, h1, h3⟩ := T.nds y (by rw [← k2]; exact hy)
    exact ⟨z, h1, by rw [← h3]; exact congrFun k3 y⟩

def WrG (t : List Nd) (l l2 : List Int) (F : Fo) (S : Nat → Prop) (h : Nat → Nat) (nd : Nat → Nd) : Prop :=
  ∃ on w, WrP t l l2 on w ∧ F = (wrE t on w).F ∧ nd = (wrE t on w).nd ∧ (wrS t (on.headD 0) w).op = false ∧ F.Ok (fun i => i < (wrE t on w).N) h

theorem wrG_det {t : List Nd} {l l2 : List Int} {on : List Nat} {w : Nat} (P : WrP t l l2 on w) {h : Nat → Nat} (ok : (wrE t on w).F.Ok (fun i => i < (wrE t on w).N) h) : Det t.length (WrG t l l2) (wrE t on w).F h (wrE t on w).nd := by
  rintro F' S' h' nd' ⟨on', w', P', rfl, rfl, _, ok'⟩
  have e1 : on' = on := toI_inj (P'.cho.eq.symm.trans P.cho.eq)
  have e2 : [w'] = [w] := toI_inj (P'.wi.eq.symm.trans P.wi.eq)
  have e3 : w' = w := by simpa using e2
  subst e1 e3
  have e4 : (wrE t on' w').F.all h' = (wrE t on' w').F.all h := funext fun x => Fo.all_indep ok' ok _ x (Nat.le_refl _)
  constructor
  · unfold outL; rw [e4]
  · unfold placeL; rw [e4]
end Go.Proofs.Ytmhhfljbocbolaa

namespace Go.Proofs.Ytmhhfljbocbolaa
open Go.RowKit
set_option linter.unusedVariables false

section
variable {n g fc fb : Nat} {kb : Nat → Nat} {w : World} {s : FoS} {kb' : Nat → Nat} {wr : World}
theorem RS.put (R : RS n g fc fb kb w s kb' wr) {p k x : Nat} {e : Ending} {w2 : World} (P : PutPost s.F (fun i => i < s.N) s.nd (plN n) fb kb' p k x wr e w2) :
    e = .returned (.tuple #[]) ∧ RS n g fc fb kb w { s with F := s.F.put p k x } kb' w2 := by
  obtain ⟨rfl, hK, hT⟩ := P
  exact ⟨rfl, hK, R.fst_kept hT, R.old, R.new, R.kfb_of hT⟩
theorem RS.put2 (R : RS n g fc fb kb w s kb' wr) {p k x : Nat} {e : Ending} {w2 : World} (P : Put2Post s.F (fun i => i < s.N) s.nd (plN n) fb kb' p k x wr e w2) :
    e = .returned (.tuple #[]) ∧ RS n g fc fb kb w { s with F := (s.F.cut x).put p k x } kb' w2 := by
  obtain ⟨rfl, hK, hT⟩ := P
  exact ⟨rfl, hK, R.fst_kept hT, R.old, R.new, R.kfb_of hT⟩
end

theorem wr_len {t : List Nd} (hR : RightP t) {w : Nat} (hw : w < t.length) : (cpy 200 ⟨fo0 t, t.length, ndT t, false⟩ w).N ≤ 400 ∧ t.length < (cpy 200 ⟨fo0 t, t.length, ndT t, false⟩ w).N := by
  have o0 := fo0_ok hR
  obtain ⟨hb, E⟩ := cpy_ok 200 ⟨fo0 t, t.length, ndT t, false⟩ (sz t) w o0 hw (sz_le hR hw)
  have hLn := cpy_len 200 ⟨fo0 t, t.length, ndT t, false⟩ (sz t) w o0 hw (sz_le hR hw)
  have e2 : (fo0 t).lst 200 w = (fo0 t).all (sz t) w := (fo0 t).lst_fuel o0 _ _ _ (sz_le hR hw) (Nat.le_refl _)
  have e3 := all_bound o0 (n := t.length) (x := w) (fun i hi => hi) hw
  change (cpy 200 ⟨fo0 t, t.length, ndT t, false⟩ w).N ≤ t.length + ((fo0 t).lst 200 w).length at hLn
  rw [e2] at hLn
  have hle := hR.le
  exact ⟨by omega, E.lt⟩

/-- Phase one in the reference: place, put. -/
theorem wr_put {t : List Nd} (hR : RightP t) {l l2 : List Int} {on : List Nat} {w : Nat} (P : WrP t l l2 on w) {x : Nat} (hf : x ∈ on) :
    ∃ h p l1 l3, (cpy 200 ⟨fo0 t, t.length, ndT t, false⟩ w).F.Ok (fun i => i < (cpy 200 ⟨fo0 t, t.length, ndT t, false⟩ w).N) h ∧ x < (cpy 200 ⟨fo0 t, t.length, ndT t, false⟩ w).N ∧ t.length < (cpy 200 ⟨fo0 t, t.length, ndT t, false⟩ w).N ∧ (cpy 200 ⟨fo0 t, t.length, ndT t, false⟩ w).F.par t.length = none ∧ p < (cpy 200 ⟨fo0 t, t.length, ndT t, false⟩ w).N ∧ p ≠ t.length ∧
      (cpy 200 ⟨fo0 t, t.length, ndT t, false⟩ w).F.kids p = l1 ++ x :: l3 ∧ (cpy 200 ⟨fo0 t, t.length, ndT t, false⟩ w).F.par x = some p ∧ { cpy 200 ⟨fo0 t, t.length, ndT t, false⟩ w with F := (cpy 200 ⟨fo0 t, t.length, ndT t, false⟩ w).F.put p l1.length t.length } = wrS t x w := by
  have hw : w < t.length := (P.wi.rng w (by simp)).2
  obtain ⟨-, hm, p, l1, l2, g1, g2, g3, g4, g5, g6, g7, g8, g9, g10⟩ := prog_step (.inr rfl) (wr_inv hR P hf).1 (by simp) (fun v hv => by rw [List.mem_singleton] at hv; subst hv; exact ⟨hw, sz_le hR hw⟩) (fun x hx => (P.cho.rng x hx).2) hf false (j := 0) (by simp)
  obtain ⟨h1, h2⟩ := g9 rfl
  have e0 : progS 4 false ⟨fo0 t, t.length, ndT t, false⟩ x ([w].take 0) = ⟨fo0 t, t.length, ndT t, false⟩ := progS_nil 4 false _ x
  rw [e0] at g1 g2 g3 g4 g5 g6 g7 h1 g10
  obtain ⟨l3, rfl⟩ : ∃ l3, l2 = x :: l3 := by
    cases l2 with
    | nil => simp at h2
    | cons a l => simp at h2; subst h2; exact ⟨l, rfl⟩
  exact ⟨hm, p, l1, l3, g1, g2, g3, g4, g5, g6, g7, h1, g10⟩

/-- Phase two in the reference: one put more. -/
theorem wr_put2 {t : List Nd} (hR : RightP t) {l l2 : List Int} {on : List Nat} {w : Nat} (P : WrP t l l2 on w) (hop : (wrS t (on.headD 0) w).op = false) {j : Nat} (hj : j < on.length) :
    (∃ h, (progS 1 true (wrS t (on.headD 0) w) (wrTo t (on.headD 0) w) (on.take j)).F.Ok (fun i => i < (progS 1 true (wrS t (on.headD 0) w) (wrTo t (on.headD 0) w) (on.take j)).N) h) ∧
    (progS 1 true (wrS t (on.headD 0) w) (wrTo t (on.headD 0) w) (on.take j)).N = (wrS t (on.headD 0) w).N ∧ wrTo t (on.headD 0) w ≠ on[j] ∧
    ((progS 1 true (wrS t (on.headD 0) w) (wrTo t (on.headD 0) w) (on.take j)).F.cut on[j]).kids (wrTo t (on.headD 0) w) = (progS 1 true (wrS t (on.headD 0) w) (wrTo t (on.headD 0) w) (on.take j)).F.kids (wrTo t (on.headD 0) w) ∧
    { progS 1 true (wrS t (on.headD 0) w) (wrTo t (on.headD 0) w) (on.take j) with F := ((progS 1 true (wrS t (on.headD 0) w) (wrTo t (on.headD 0) w) (on.take j)).F.cut on[j]).put (wrTo t (on.headD 0) w) ((progS 1 true (wrS t (on.headD 0) w) (wrTo t (on.headD 0) w) (on.take j)).F.kids (wrTo t (on.headD 0) w)).length on[j] } = progS 1 true (wrS t (on.headD 0) w) (wrTo t (on.headD 0) w) (on.take (j + 1)) := by
  have hm := headD_mem P.ne
  obtain ⟨p, hp⟩ := Option.ne_none_iff_exists'.1 (P.par _ hm)
  obtain ⟨h, T⟩ := wr_two hR P hm hp hop
  obtain ⟨q1, q2, q3, q4, q5⟩ := wr_parts hR P hm hp
  obtain ⟨s, hs⟩ : ∃ s, s = wrS t (on.headD 0) w := ⟨_, rfl⟩
  obtain ⟨to, hto⟩ : ∃ to, to = wrTo t (on.headD 0) w := ⟨_, rfl⟩
  rw [← hs, ← hto] at T ⊢
  rw [← hs] at q1 q2 q3 q4 q5
  have hge := T.ge
  have hxn := (P.cho.rng _ (List.getElem_mem hj)).2
  have o0 := fo0_ok hR
  have huto := inm_up (fun p c => (T.inv.ok.mem p c).1) _ _ _ T.inn
  have htn : t.length ≤ to := by
    by_cases e : t.length ≤ to
    · exact e
    · have hup : (fo0 t).Up t.length to := (up_old (s := ⟨fo0 t, t.length, ndT t, false⟩) (a := s) o0 q2 (by exact Nat.lt_of_not_le e)).2 huto
      have := hup.lt_of o0 (Nat.lt_of_not_le e)
      omega
  obtain ⟨⟨hP, g0, -⟩, hM, p2, l1, l3, g1, g2, g3, g4, g5, g6, g7, g8, g9, g10⟩ := prog_step (.inl rfl) T.inv P.cho.nodup (fun x hx => ⟨by have := (P.cho.rng x hx).2; omega, T.hx x hx⟩) (fun x hx => by rw [List.mem_singleton] at hx; subst hx; exact T.tn) (List.mem_singleton.2 rfl) true hj
  obtain ⟨rfl, rfl⟩ := g8 rfl
  rw [List.append_nil] at g7
  have hN : (progS 1 true s p2 (on.take j)).N = s.N := (innT T.inv.ok (on.take j)).N
  have hpar : (progS 1 true s p2 (on.take j)).F.par on[j] ≠ some p2 := by
    have hnm : on[j] ∉ on.take j := fun hm => by
      obtain ⟨q, hq, e⟩ := List.getElem_of_mem hm
      rw [List.getElem_take] at e
      have := (List.getElem_inj P.cho.nodup).1 e
      simp only [List.length_take] at hq
      omega
    show (if on[j] ∈ on.take j then some _ else (innS true s (on.take j)).F.par on[j]) ≠ _
    rw [if_neg hnm, (innT T.inv.ok (on.take j)).par, if_neg hnm, q2 _ hxn]
    intro e
    have := (o0.dom _ _ e).1
    omega
  have hnk : on[j] ∉ (progS 1 true s p2 (on.take j)).F.kids p2 := fun hmem => hpar ((g0.mem _ _).1 hmem)
  have hck : ((progS 1 true s p2 (on.take j)).F.cut on[j]).kids p2 = (progS 1 true s p2 (on.take j)).F.kids p2 := filter_ne_self hnk
  have hl1 : l1 = (progS 1 true s p2 (on.take j)).F.kids p2 := by rw [← hck]; exact g7.symm
  refine ⟨⟨hP, g0⟩, hN, fun e => by omega, hck, ?_⟩
  rw [← g10, hl1]; rfl
end Go.Proofs.Ytmhhfljbocbolaa

namespace Go.Proofs.Ytmhhfljbocbolaa
open Go.RowKit
set_option linter.unusedVariables false

def WrapPost (t : List Nd) (g fc fb : Nat) (kb : Nat → Nat) (l l2 : List Int) (on : List Nat) (wi : Nat) (w : World) (e : Ending) (w' : World) : Prop :=
  ∃ b, e = .returned (.bool b) ∧ (b = true → WrP t l l2 on wi ∧ ∃ W kb', Below w.heap.size w W ∧ ((wrS t (on.headD 0) wi).op = true → RS t.length g fc fb kb W (wrS t (on.headD 0) wi) kb' w') ∧ ((wrS t (on.headD 0) wi).op = false → RS t.length g fc fb kb W (wrE t on wi) kb' w')) ∧ Below fb w w'

set_option maxRecDepth 100000 in
set_option maxHeartbeats 8000000 in
theorem wrapAll_any {t : List Nd} (hRt : RightP t) (hnb : ∀ i, i < t.length → NdB (ndT t i) ∧ (ndT t i).attrs.length ≤ 1000) {g fc fb : Nat} {kb : Nat → Nat} {w : World} (hR : RS t.length g fc fb kb w ⟨fo0 t, t.length, ndT t, false⟩ kb w) (hfw : fb ≤ w.heap.size)
    (l l2 : List Int) (on : List Nat) (hon : ChoP t.length l on) (hne : on ≠ []) (wi : Nat) (hwi : ChoP t.length l2 [wi]) {base : Nat} (a : Option Addr) (c : Nat) (ho1 : w.ownsRow base 77 1 (.slice a on.length c) on.length (ptrs kb on)) :
    Calls Try.prog 76 #[.pointer (some ⟨fb, 0, none⟩), .int .i64 10, .slice a on.length c, .pointer (some ⟨kb wi, 0, none⟩)] w (WrapPost t g fc fb kb l l2 on wi w) := by
  have o0 := fo0_ok hRt
  have hle := hRt.le
  have hwn : wi < t.length := (hwi.rng wi (by simp)).2
  have hxs : ∀ x ∈ on, x < t.length := fun x h => (hon.rng x h).2
  have hxl : on.length ≤ 200 := by have := nodup_len hon.nodup hxs; omega
  have hk1 := hR.kno.kind (i := wi) hwn
  have HIn := Lib.hid (inmost_any o0 hR.kno wi hwn (fun p => by have := o0.kids_le (fun i hi => hi) p; omega))
  have hpn : ((fo0 t).Up wi wi) := .self
  obtain ⟨W1, hW1⟩ : ∃ W1, W1 = w.alloc (.cells #[.pointer (some ⟨kb wi, 0, none⟩)] 77) := ⟨_, rfl⟩
  have hb1 : Below w.heap.size w W1 := by rw [hW1]; exact (Below.refl _ _).alloc (Nat.le_refl _) _
  have HAp : Hid (Calls Try.prog 92 #[.slice (some ⟨w.heap.size, 0, none⟩) 1 1, .slice a on.length c] W1 fun e w' => ∃ b, e = .returned (.bool b) ∧ (b = true → Apart (fo0 t) [wi] on) ∧ Below W1.heap.size W1 w') :=
    apart_any o0 (hmax (sz t) t.length) [wi] on (fun m hm => by rw [List.mem_singleton] at hm; subst hm; exact hwn) hxs (by simp) (by omega) _ _ a c W1 (hR.kno.up hb1) (by rw [hW1]; exact rsl_new w kb wi _ rfl) ((rsl_own ho1).up hb1)
  have HSt : Hid (∀ W, Below w.heap.size w W → Calls Try.prog 93 #[.slice a on.length c] W fun e w' => ∃ b, e = .returned (.bool b) ∧ (b = true → ∀ m ∈ on, (fo0 t).par m ≠ none) ∧ W = w') := fun W hb => stand_any on hxs (by omega) a c W (hR.kno.up hb) ((rsl_own ho1).up hb)
  have HBw : Hid (∀ W, Below w.heap.size w W → Below fb w W) := fun W hb => hb.mono hfw
  have HR := Lib.hid hR
  have HO1 := Lib.hid ho1
  have HNe := Lib.hid hne
  have HXs := Lib.hid hxs
  have HNb := Lib.hid hnb
  clear hpn hR ho1 hnb hne o0 hxs
  go_enter Try.func76, Try.ntmps76
  have HQ0 : Hid (Below fb w w) := Below.refl _ _
  by_cases hk3 : (ndT t wi).kind = 3
  case neg =>
    have ez : ((ndT t wi).kind != 3) = true := by simpa using hk3
    clear hk3
    go_wp2_with fail
    go_ret
    exact ⟨false, rfl, by simp, HQ0.out⟩
  have HK3 := Lib.hid hk3
  have ez : ((ndT t wi).kind != 3) = false := by rw [hk3]; rfl
  clear hk3
  go_wp2_with fail
  refine HIn.out.mono ?_
  rintro e w1 ⟨rfl, rfl⟩
  cases hin : inm (fo0 t) (ndT t) (sz t wi) wi with
  | none =>
    simp only [ptrTo, Option.map_none]
    go_wp2_with fail
    go_ret
    exact ⟨false, rfl, by simp, HQ0.out⟩
  | some z =>
    simp only [ptrTo, Option.map_some]
    have HOne : Hid (inm (fo0 t) (ndT t) (sz t wi) wi ≠ none) := by rw [Hid, hin]; simp
    clear hin HIn
    go_wp2_with fail
    rw [← hW1]
    refine HAp.out.mono ?_
    rintro e w2 ⟨b2, rfl, hA, hb2⟩
    have HB2 := Lib.hid (bnext hb1 hb2)
    have HA0 := Lib.hid hA
    clear hb1 hb2 hA hW1 HAp
    cases b2
    · go_wp2_with fail
      go_ret
      exact ⟨false, rfl, by simp, HBw.out _ HB2.out⟩
    have HA := Lib.hid (HA0.out rfl)
    clear HA0
    have HS2 := Lib.hid (HSt.out w2 HB2.out)
    go_wp2_with fail
    refine HS2.out.mono ?_
    rintro e w3 ⟨b3, rfl, hP, rfl⟩
    cases b3
    · go_wp2_with fail
      go_ret
      exact ⟨false, rfl, by simp, HBw.out _ HB2.out⟩
    have HPar := Lib.hid (hP rfl)
    clear hP HS2 HSt
    go_wp2_with fail
    obtain ⟨W2, hW2⟩ : ∃ W2, W2 = w2.alloc (.cells #[.slice a on.length c] 74) := ⟨_, rfl⟩
    rw [← hW2]
    have hbW : Below w1.heap.size w1 W2 := by rw [hW2]; exact HB2.out.alloc HB2.out.size _
    have HG : Hid (W2.cell? ⟨w2.heap.size, 0, none⟩ = some (.slice a on.length c)) := by rw [hW2, Hid, World.cell?_alloc_mark]; rfl
    have HBW := Lib.hid hbW
    clear hbW hW2
    go_loopw [11, 12, 13, 14, 15, 16, 17, 18] (fun v _ _ _ _ _ _ _ wr => (v = .int .i64 0 ∧ wr = W2) ∨ (v = .int .i64 1 ∧ WrapPost t g fc fb kb l l2 on wi w1 (.returned (.bool true)) wr)) (fun v _ _ _ _ _ _ _ _ => (1 - intOf v).toNat)
    case atStart => exact .inl ⟨rfl, rfl⟩
    case round =>
      rcases hrel with ⟨rfl, rfl⟩ | ⟨rfl, hD⟩
      case inr =>
        have HD := Lib.hid hD
        clear hD
        go_wp2_with fail
        go_ret
        exact HD.out
      have g0 := HG.out
      have hs2 := HBW.out.size
      obtain ⟨W3, hW3⟩ : ∃ W3, W3 = wr.alloc (.cells #[] 77) := ⟨_, rfl⟩
      have hb3 : Below w1.heap.size w1 W3 := by rw [hW3]; exact HBW.out.alloc hs2 _
      have hb23 : Below wr.heap.size wr W3 := by rw [hW3]; exact (Below.refl _ _).alloc (Nat.le_refl _) _
      have HE : Hid (W3.ownsRow wr.heap.size 77 1 (.slice (some ⟨wr.heap.size, 0, none⟩) 0 0) 0 []) := by rw [hW3]; exact own_emptyS wr 77 1
      have HR3 : Hid (RSl W3 W3.heap.size a (ptrs kb on)) := (rsl_own HO1.out).up hb3
      have g0' : W3.cell? ⟨w2.heap.size, 0, none⟩ = some (.slice a on.length c) := (hb23.cell (p := ⟨w2.heap.size, 0, none⟩) (World.block_lt_of_cell? wr _ g0)).trans g0
      have HB3 := Lib.hid hb3
      have hs3 := hb23.size
      have HB23 := Lib.hid hb23
      clear hb3 hb23
      subst hW3
      go_wp2_with (at_builtin; refine wpList_append_kn _ rfl (.tmp 104) (.tmp 108) rfl kb wr.heap.size (.slice (some ⟨wr.heap.size, 0, none⟩) 0 0) [] rfl HE.out a on.length c on rfl rfl HR3.out (by simp only [List.length_nil]; omega) hs3 ?_)
      intro la lc W4 hown hgr _
      have hb4 : Below w1.heap.size w1 W4 := HB3.out.grown hgr HB3.out.size (fun k e => by cases e; exact hs2)
      have HB4 := Lib.hid hb4
      try simp only [List.nil_append] at hown
      try simp only [List.nil_append]
      have HRw := Lib.hid (rsl_own hown)
      have HOwn := Lib.hid hown
      have HHo : Hid (∀ W, Below w1.heap.size w1 W → ∀ k x, k < t.length → x < t.length → Calls Try.prog 99 #[.pointer (some ⟨kb k, 0, none⟩), .pointer (some ⟨kb x, 0, none⟩)] W fun e w' => e = .returned (.bool ((fo0 t).upB k x)) ∧ w' = W) := fun W hb k x hk hx => holds_any (fo0_ok hRt) (HR.out.kno.up hb) k x hk hx (hmax (sz t) t.length)
      clear hb4 hown hgr g0 g0'
      go_wp2_with fail
      go_loopw [13] (fun x wr => ∃ k : Nat, k ≤ on.length ∧ x = .int .i64 k ∧ Hid (∀ i, i < k → AptA (fo0 t) on i on.length) ∧ Below W4.heap.size W4 wr) (fun x _ => on.length - (intOf x).toNat)
      case atStart => exact ⟨0, by omega, rfl, (fun i h => by omega), Below.refl _ _⟩
      case round =>
        obtain ⟨k, hk, rfl, hyes, hb⟩ := hrel
        obtain ⟨W5, rfl⟩ : ∃ W5 : World, W5 = wr := ⟨_, rfl⟩
        have HB5 := Lib.hid hb
        clear hb
        by_cases hlt : k < on.length
        case pos =>
          go_wp2_with fail
          go_loopw [14] (fun x wr => ∃ j : Nat, j ≤ on.length ∧ x = .int .i64 j ∧ Hid (AptA (fo0 t) on k j) ∧ Below W4.heap.size W4 wr) (fun x _ => on.length - (intOf x).toNat)
          case atStart => exact ⟨0, by omega, rfl, (fun _ j _ h => by omega), HB5.out⟩
          case round =>
            obtain ⟨j, hj, rfl, hay, hb⟩ := hrel
            have HB := Lib.hid hb
            obtain ⟨W6, rfl⟩ : ∃ W6 : World, W6 = wr := ⟨_, rfl⟩
            by_cases hlj : j < on.length
            · obtain ⟨b, o, rfl, hbB, hc⟩ := (HRw.out.up hb).at_ (by rw [ptrs_length]; omega)
              have g1 := hc k (by rw [ptrs_length]; exact hlt)
              have g2 := hc j (by rw [ptrs_length]; exact hlj)
              rw [ptrs_at hlt] at g1
              rw [ptrs_at hlj] at g2
              have HCk : Hid (∀ n, Calls Try.prog 99 #[.pointer (some ⟨kb on[k], 0, none⟩), .pointer (some ⟨kb on[j], 0, none⟩)] (W6.drewN n) fun e w' => e = .returned (.bool ((fo0 t).upB on[k] on[j])) ∧ w' = W6.drewN n) := fun n => HHo.out (W6.drewN n) (bnext HB4.out (below_drewN HB.out n)) _ _ (HXs.out _ (List.getElem_mem hlt)) (HXs.out _ (List.getElem_mem hlj))
              obtain ⟨B1, hB1⟩ : ∃ b, b = (fo0 t).upB on[k] on[j] := ⟨_, rfl⟩
              have HB1 := Lib.hid hB1
              rw [← hB1] at HCk
              obtain ⟨x, hx⟩ : ∃ x, x = on[k] := ⟨_, rfl⟩
              obtain ⟨y, hy⟩ : ∃ y, y = on[j] := ⟨_, rfl⟩
              rw [← hx] at g1 HCk
              rw [← hy] at g2 HCk
              clear hc hb hB1 hx hy
              by_cases e : j = k
              · have e1 : ((k : Int) != (j : Int)) = false := by simp; omega
                have HN : Hid (AptA (fo0 t) on k (j + 1)) := fun hi q hq hqj hne => by
                  by_cases e2 : q = j
                  · omega
                  · exact hay.out hi q hq (by omega) hne
                clear e
                go_wp2_with fail
                go_quiet (first | (go_at_call 99; exact (HCk.out _).mono (fun _ _ hh => ⟨hh.1, _, hh.2⟩)))
                go_wp2_with fail
                go_roundw
                case rel => exact ⟨j + 1, by omega, by go_num, HN, below_drewN HB.out _⟩
                case measure => simp [intOf]; omega
              · have e1 : ((k : Int) != (j : Int)) = true := by simp; omega
                cases B1
                · have HN : Hid (AptA (fo0 t) on k (j + 1)) := fun hi q hq hqj hne => by
                    by_cases e2 : q = j
                    · subst e2; exact Fo.upB_no HB1.out.symm
                    · exact hay.out hi q hq (by omega) hne
                  clear e
                  go_wp2_with fail
                  go_quiet (first | (go_at_call 99; exact (HCk.out _).mono (fun _ _ hh => ⟨hh.1, _, hh.2⟩)))
                  go_wp2_with fail
                  go_roundw
                  case rel => exact ⟨j + 1, by omega, by go_num, HN, below_drewN HB.out _⟩
                  case measure => simp [intOf]; omega
                · clear e
                  go_wp2_with fail
                  go_quiet (first | (go_at_call 99; exact (HCk.out _).mono (fun _ _ hh => ⟨hh.1, _, hh.2⟩)))
                  go_wp2_with fail
                  go_ret
                  exact ⟨false, rfl, by simp, HBw.out _ (bnext HB4.out (below_drewN HB.out _))⟩
            · have HA2 : Hid (∀ i, i < k + 1 → AptA (fo0 t) on i on.length) := fun i hi => by
                by_cases e2 : i = k
                · subst e2; exact fun hi q hq _ hne => hay.out hi q hq (by omega) hne
                · exact hyes.out i (by omega)
              clear hb hay
              go_wp2_with fail
              go_roundw
              case rel => exact ⟨k + 1, by omega, by go_num, HA2, HB.out⟩
              case measure => simp [intOf]; omega
        case neg =>
          have HP : Hid (WrP t l l2 on wi) := by
            refine ⟨hon, HNe.out, hwi, HK3.out, HOne.out, fun x hx u => ?_, HPar.out, fun i j hi hj hne => hyes.out i (by omega) hi j hj hj hne⟩
            obtain ⟨j, hj, rfl⟩ := List.getElem_of_mem hx
            exact HA.out.2 0 j (by simp) hj u
          have hRS := HR.out.self (Nat.le_refl _) (bnext HB4.out HB5.out)
          have hro : W5.ownsRow wr.heap.size 77 1 (.slice la on.length lc) on.length (ptrs kb on) := own_kept HOwn.out (fun b _ h2 => HB5.out.block b h2)
          have hty : ∀ i, i < t.length → (Value.slice la on.length lc).ownBlock ≠ some (kb i) := fun i hi => by
            obtain ⟨_, _, _, _, _, hhn, _, _⟩ := hRS.kno.node i hi; exact own_ne hro hhn (by decide)
          have HRow : Hid (∀ s kb' wr, RS t.length g fc fb kb W5 s kb' wr → RSl wr wr.heap.size la (ptrs kb on)) := fun s kb' wr R => rsl_own (R.kept hro hty (own_ne hro hRS.fst (by decide)))
          have hbf : fb ≤ W5.heap.size := Nat.le_trans hfw (bnext HB4.out HB5.out).size
          have HBel : Hid (∀ s kb' wr, RS t.length g fc fb kb W5 s kb' wr → Below fb w1 wr) := fun s kb' wr R => (HBw.out _ (bnext HB4.out HB5.out)).trans (R.below hbf fun i hi => (hRS.kno.node i hi).1)
          have HCp := Lib.hid (copied_any 200 (fo0_ok hRt) hRS.kno hbf hwn (sz_le hRt hwn) (fun y hy => if_neg (Nat.not_lt.2 hy)) hRS.fst (by have := (wr_len hRt hwn).1; omega) HNb.out)
          have hx0 : on[0]'(List.length_pos_iff.2 HNe.out) = on.headD 0 := by
            cases on with
            | nil => exact absurd rfl HNe.out
            | cons a l => rfl
          have HX0 := Lib.hid hx0
          have hlp : 0 < on.length := List.length_pos_iff.2 HNe.out
          have HRS := Lib.hid hRS
          have HW5 : Hid (Below w1.heap.size w1 W5) := bnext HB4.out HB5.out
          clear hyes hro hty hx0 hRS
          go_wp2_with fail
          refine HCp.out.mono ?_
          intro e w6 hP
          obtain ⟨kb4, rfl, hR4, -, -⟩ := HRS.out.copied (Nat.le_refl _) (wr_len hRt hwn).2 hP (base := W5.heap.size) (la := none) (j := 0) (lc := 0) (L := []) (World.ownsRow_nil _ _ _ _) (by simp) (fun y _ u _ => KApt.nil _ _ _)
          obtain ⟨b, o, rfl, hbB, hc⟩ := (HRow.out _ _ _ hR4).at_ (by rw [ptrs_length]; omega)
          have g1 := hc 0 (by rw [ptrs_length]; exact hlp)
          rw [ptrs_at hlp, HX0.out] at g1
          have hm0 := headD_mem HNe.out
          obtain ⟨hh, p, l1, l3, p1, p2, p3, p4, p5, p6, p7, p8, p9⟩ := wr_put hRt HP.out hm0
          have hx0n := HXs.out _ hm0
          rw [← hR4.old _ hx0n, Nat.add_zero] at g1
          have c6 := (hR4.kno.cells (i := on.headD 0) p2).2.1
          rw [p8] at c6
          simp only [ptrTo, Option.map_some] at c6
          have hN0 := (wr_len hRt hwn).1
          have R6 := hR4.up (Below.refl _ _).drew
          have hbf6 : fb ≤ w6.drew.heap.size := Nat.le_trans hbf R6.turn.size
          have hkl : ∀ q, ((cpy 200 ⟨fo0 t, t.length, ndT t, false⟩ wi).F.kids q).length ≤ 90000 := fun q => by have := p1.kids_le (fun i hi => hi) q; omega
          have HPl : Hid (Calls Try.prog 96 #[.pointer (some ⟨kb4 (on.headD 0), 0, none⟩)] w6.drew fun e w' => e = .returned (.int .i64 l1.length) ∧ w' = w6.drew) := (place_some p1 R6.kno _ p p8 l1 l3 p7 (by have := hkl p; omega)).mono (fun e w' hh => ⟨hh.1, hh.2.symm⟩)
          have HPut : Hid (Calls Try.prog 97 #[.pointer (some ⟨kb4 p, 0, none⟩), .int .i64 l1.length, .pointer (some ⟨kb4 t.length, 0, none⟩)] w6.drew fun e w7 => e = .returned (.tuple #[]) ∧ RS t.length g fc fb kb W5 (wrS t (on.headD 0) wi) kb4 w7) := (put_any R6.kno hbf6 p t.length p5 p3 p6 p4 l1 (on.headD 0 :: l3) p7 (by have := hkl p; omega)).mono (fun e w7 hP => by have := R6.put hP; rw [p9] at this; exact this)
          have HRow6 : Hid (∀ wr, RS t.length g fc fb kb W5 (wrS t (on.headD 0) wi) kb4 wr → RSl wr wr.heap.size (some ⟨b, o, none⟩) (ptrs kb on)) := fun wr R => HRow.out _ _ _ R
          have HRow7 : Hid (∀ s wr, RS t.length g fc fb kb W5 s kb4 wr → RSl wr wr.heap.size (some ⟨b, o, none⟩) (ptrs kb on)) := fun s wr R => HRow.out _ _ _ R
          have HBf : Hid (∀ s wr, RS t.length g fc fb kb W5 s kb4 wr → fb ≤ wr.heap.size) := fun s wr R => Nat.le_trans hbf R.turn.size
          obtain ⟨x0, hx0⟩ : ∃ x0, x0 = kb4 (on.headD 0) := ⟨_, rfl⟩
          rw [← hx0] at g1 c6 HPl
          have c6w : w6.drew.cell? ⟨x0, 6, none⟩ = some (.pointer (some ⟨kb4 p, 0, none⟩)) := c6
          clear hP hc hx0 p1 p2 p3 p4 p5 p6 p7 p8 p9 R6 hR4 hkl hbf6
          go_wp2_with fail
          refine wp_region_still_tail 7 (by kernel_rfl) (by kernel_rfl) ?_
          simp only [List.take_succ_cons, List.take_zero, List.drop_succ_cons, List.drop_zero]
          iterate 5 still_step
          still_call HPl.out
          iterate 1 still_step
          refine wpStill_nil ?_
          change wpList _ _ _ _ _ w6.drew
          go_wp2_with fail
          refine HPut.out.mono ?_
          rintro e w7 ⟨rfl, hR7⟩
          have f7 : w7.cell? ⟨fb, 2, none⟩ = some (.bool (wrS t (on.headD 0) wi).op) := by rw [cell_of_row w7 _ 2 _ _ _ hR7.fst]; rfl
          have hge7 := (wr_len hRt hwn).2
          have HR7 := Lib.hid hR7
          cases hop : (wrS t (on.headD 0) wi).op with
          | true =>
            rw [hop] at f7
            obtain ⟨hI0, h1, I1⟩ := wr_inv hRt HP.out hm0
            have hN1 : (wrS t (on.headD 0) wi).N = (cpy 200 ⟨fo0 t, t.length, ndT t, false⟩ wi).N := rfl
            have HInm := Lib.hid (inmost_any I1.ok hR7.kno t.length (by rw [hN1]; exact hge7) (fun q => by have := I1.ok.kids_le (fun i hi => hi) q; rw [hN1] at this; omega))
            obtain ⟨pq, hpq⟩ : ∃ pq, ptrTo kb4 (inm (wrS t (on.headD 0) wi).F (wrS t (on.headD 0) wi).nd (h1 t.length) t.length) = .pointer pq := ⟨_, rfl⟩
            rw [hpq] at HInm
            have HFin : Hid (WrapPost t g fc fb kb l l2 on wi w1 (.returned (.bool true)) w7) := ⟨true, rfl, fun _ => ⟨HP.out, W5, kb4, HW5.out, fun _ => HR7.out, (fun e => by rw [hop] at e; cases e)⟩, HBel.out _ _ _ HR7.out⟩
            clear hR7 hI0 I1 hpq hop hm0
            go_wp2_with fail
            refine HInm.out.mono ?_
            rintro e w8 ⟨rfl, rfl⟩
            go_wp2_with fail
            go_ret
            exact HFin.out
          | false =>
            rw [hop] at f7
            obtain ⟨p, hp⟩ := Option.ne_none_iff_exists'.1 (HP.out.par _ hm0)
            obtain ⟨h1, T⟩ := wr_two hRt HP.out hm0 hp hop
            have HInm : Hid (Calls Try.prog 98 #[.pointer (some ⟨kb4 t.length, 0, none⟩)] w7 fun e w' => e = .returned (.pointer (some ⟨kb4 (wrTo t (on.headD 0) wi), 0, none⟩)) ∧ w' = w7) := by
              have := inmost_any T.inv.ok hR7.kno t.length T.ge (fun q => by have := T.inv.ok.kids_le (fun i hi => hi) q; have := T.le; omega)
              rw [inm_fuel T.inv.ok _ (h1 t.length) 200 t.length (Nat.le_refl _) T.hr, T.inn] at this
              exact this
            have HTn : Hid (wrTo t (on.headD 0) wi < (wrS t (on.headD 0) wi).N) := T.tn
            have HNn : Hid ((wrS t (on.headD 0) wi).N ≤ 400) := T.le
            have HGe : Hid (t.length ≤ (wrS t (on.headD 0) wi).N) := Nat.le_of_lt T.ge
            have HStep : Hid (∀ j (hj : j < on.length), _) := fun j hj => wr_put2 hRt HP.out hop hj
            have HR70 : Hid (RS t.length g fc fb kb W5 (progS 1 true (wrS t (on.headD 0) wi) (wrTo t (on.headD 0) wi) (on.take 0)) kb4 w7) := by rw [List.take_zero, progS_nil]; exact hR7
            have HFin : Hid (∀ wr, RS t.length g fc fb kb W5 (progS 1 true (wrS t (on.headD 0) wi) (wrTo t (on.headD 0) wi) (on.take on.length)) kb4 wr → WrapPost t g fc fb kb l l2 on wi w1 (.returned (.bool true)) wr) := fun wr R => ⟨true, rfl, fun _ => ⟨HP.out, W5, kb4, HW5.out, (fun e => by rw [hop] at e; cases e), (fun _ => by rw [List.take_length] at R; exact R)⟩, HBel.out _ _ _ R⟩
            obtain ⟨to, hto⟩ : ∃ to, to = wrTo t (on.headD 0) wi := ⟨_, rfl⟩
            rw [← hto] at HInm HTn HStep HR70 HFin
            clear hR7 T hp hop hm0 hto
            go_wp2_with fail
            refine HInm.out.mono ?_
            rintro e w8 ⟨rfl, rfl⟩
            go_wp2_with fail
            clear f7 g1 c6 c6w
            go_loopw [18] (fun v wr => ∃ j : Nat, j ≤ on.length ∧ v = .int .i64 j ∧ RS t.length g fc fb kb W5 (progS 1 true (wrS t (on.headD 0) wi) to (on.take j)) kb4 wr) (fun v _ => on.length - (intOf v).toNat)
            case atStart => exact ⟨0, Nat.zero_le _, rfl, HR70.out⟩
            case round =>
              obtain ⟨j, hj, rfl, hRj⟩ := hrel
              obtain ⟨W8, rfl⟩ : ∃ W8 : World, W8 = wr := ⟨_, rfl⟩
              by_cases hlj : j < on.length
              · obtain ⟨_, _, hbo, -, hc⟩ := (HRow7.out _ _ hRj).at_ (by rw [ptrs_length]; omega)
                cases hbo
                have g2 := hc j (by rw [ptrs_length]; exact hlj)
                have hxn := HXs.out _ (List.getElem_mem hlj)
                rw [ptrs_at hlj, ← hRj.old _ hxn] at g2
                obtain ⟨⟨h2, ok2⟩, hN2, hne2, hck2, hfin2⟩ := HStep.out j hlj
                have hNb := HNn.out
                have htn2 : to < (progS 1 true (wrS t (on.headD 0) wi) to (on.take j)).N := by rw [hN2]; exact HTn.out
                obtain ⟨-, -, -, ka, kc, c7, -⟩ := hRj.kno.cells htn2
                have R8 := hRj.up (Below.refl _ _).drew
                have HPut2 : Hid (Calls Try.prog 97 #[.pointer (some ⟨kb4 to, 0, none⟩), .int .i64 ((progS 1 true (wrS t (on.headD 0) wi) to (on.take j)).F.kids to).length, .pointer (some ⟨kb4 on[j], 0, none⟩)] W8.drew fun e w9 => e = .returned (.tuple #[]) ∧ RS t.length g fc fb kb W5 (progS 1 true (wrS t (on.headD 0) wi) to (on.take (j + 1))) kb4 w9) :=
                  (put2_any ok2 R8.kno (HBf.out _ _ R8) to on[j] htn2 (by rw [hN2]; have := HGe.out; omega) hne2 _ [] (by rw [hck2, List.append_nil]) (fun q => by have := ok2.kids_le (fun i hi => hi) q; rw [hN2] at this; omega) _ rfl).mono (fun e w9 hP => by have := R8.put2 hP; rw [hfin2] at this; exact this)
                obtain ⟨K, hK⟩ : ∃ K, K = ((progS 1 true (wrS t (on.headD 0) wi) to (on.take j)).F.kids to).length := ⟨_, rfl⟩
                rw [← hK] at c7 HPut2
                obtain ⟨y, hy⟩ : ∃ y, y = kb4 on[j] := ⟨_, rfl⟩
                rw [← hy] at g2 HPut2
                clear hc hxn ok2 hN2 hne2 hck2 hfin2 htn2 R8 hK hy hRj
                go_wp2_with fail
                refine wp_region_still_tail 10 (by kernel_rfl) (by kernel_rfl) ?_
                simp only [List.take_succ_cons, List.take_zero, List.drop_succ_cons, List.drop_zero]
                iterate 10 still_step
                refine wpStill_nil ?_
                change wpList _ _ _ _ _ W8.drew
                go_wp2_with fail
                refine HPut2.out.mono ?_
                rintro e w9 ⟨rfl, hR9⟩
                have HR9 := Lib.hid hR9
                clear hR9 g2 c7
                go_wp2_with fail
                go_roundw
                case rel => exact ⟨j + 1, hlj, by go_num, HR9.out⟩
                case measure => simp [intOf]; omega
              · have e : j = on.length := by omega
                subst e
                have HD := Lib.hid (HFin.out _ hRj)
                clear hRj
                go_wp2_with fail
                go_roundw
                case rel => exact .inr ⟨by go_num, HD.out⟩
                case measure => simp [intOf]
end Go.Proofs.Ytmhhfljbocbolaa

namespace Go.Proofs.Ytmhhfljbocbolaa
open Go.RowKit
set_option linter.unusedVariables false

def StepWrY (t : List Nd) (g fc fb : Nat) (kb : Nat → Nat) (l l2 : List Int) (w' : World) : Prop :=
  ∃ xs wi, WrP t l l2 xs wi ∧ ∃ W kb', ((wrS t (xs.headD 0) wi).op = true → RS t.length g fc fb kb W (wrS t (xs.headD 0) wi) kb' w') ∧ ((wrS t (xs.headD 0) wi).op = false → RS t.length g fc fb kb W (wrE t xs wi) kb' w') ∧ w'.ownsRow fb 77 1 (.slice (some ⟨g, 0, none⟩) t.length fc) t.length (ptrs kb' (List.range t.length))
def StepWr (t : List Nd) (g fc fb : Nat) (kb : Nat → Nat) (l l2 : List Int) (w : World) (e : Ending) (w' : World) : Prop :=
  ∃ b, e = .returned (.bool b) ∧ (b = true → StepWrY t g fc fb kb l l2 w') ∧ Below fb w w'

set_option maxRecDepth 100000 in
set_option maxHeartbeats 4000000 in
theorem step_10 {t : List Nd} (hRt : RightP t) (hnb : ∀ i, i < t.length → NdB (ndT t i) ∧ (ndT t i).attrs.length ≤ 1000) {g fc fb : Nat} {kb : Nat → Nat} {w : World} (hR : RS t.length g fc fb kb w ⟨fo0 t, t.length, ndT t, false⟩ kb w) (hfw : fb ≤ w.heap.size)
    (hrow : w.ownsRow fb 77 1 (.slice (some ⟨g, 0, none⟩) t.length fc) t.length (ptrs kb (List.range t.length))) (ad : Option Addr) (c : Nat) (l : List Int) (hl : l.length ≤ 2147483647) (hi : ISl w w.heap.size ad l) (ad2 : Option Addr) (c2 : Nat) (l2 : List Int) (hl2 : l2.length ≤ 2147483647) (hi2 : ISl w w.heap.size ad2 l2) :
    Calls Try.prog 48 #[.pointer (some ⟨fb, 0, none⟩), .agg #[.int .i64 10, .slice ad l.length c, .slice ad2 l2.length c2, .string ⟨#[]⟩, .string ⟨#[]⟩, .slice none 0 0]] w
      (StepWr t g fc fb kb l l2 w) := by
  have hn : t.length ≤ 200 := hRt.le
  have hf : w.cell? ⟨fb, 0, none⟩ = some (.slice (some ⟨g, 0, none⟩) t.length fc) := by rw [cell_of_row w _ 0 _ _ _ hR.fst]; rfl
  have hel : ∀ j, j < t.length → w.cell? ⟨g, j, none⟩ = some (.pointer (some ⟨kb j, 0, none⟩)) := fun j hj => by
    have := hrow.cells (g := g) rfl j (.pointer (some ⟨kb j, 0, none⟩)) (by simp [ptrs, hj])
    rw [Addr.add_lit, Nat.zero_add] at this
    exact this
  obtain ⟨W0, hW0⟩ : ∃ W0, W0 = w.alloc (.cells #[.int .i64 10, .slice ad l.length c, .slice ad2 l2.length c2, .string ⟨#[]⟩, .string ⟨#[]⟩, .slice none 0 0] 27) := ⟨_, rfl⟩
  have hb0 : Below w.heap.size w W0 := by rw [hW0]; exact (Below.refl _ _).alloc (Nat.le_refl _) _
  have hx : ∀ {p : Addr} {v : Value}, w.cell? p = some v → ∀ {W : World}, Below w.heap.size w W → W.cell? p = some v := fun hp W hb => (hb.cell (World.block_lt_of_cell? w _ hp)).trans hp
  have HC := Lib.hid (kchosen_any t.length fb g fc kb hn W0 (hx hf hb0) (fun j hj => hx (hel j hj) hb0) ad c l hl (hi.up hb0))
  have HC2 := Lib.hid (fun W (hb : Below w.heap.size w W) => kchosen_any t.length fb g fc kb hn W (hx hf hb) (fun j hj => hx (hel j hj) hb) ad2 c2 l2 hl2 (hi2.up hb))
  have HB0 := Lib.hid hb0
  have hs0 : W0.heap.size = w.heap.size + 1 := by rw [hW0]; simp
  have HQ : Hid (∀ W, Below W0.heap.size W0 W → W.cell? ⟨w.heap.size, 0, none⟩ = some (.int .i64 10) ∧ W.cell? ⟨w.heap.size, 1, none⟩ = some (.slice ad l.length c) ∧ W.cell? ⟨w.heap.size, 2, none⟩ = some (.slice ad2 l2.length c2)) := by
    intro W hb
    have : W.heap[w.heap.size]? = some (.cells #[.int .i64 10, .slice ad l.length c, .slice ad2 l2.length c2, .string ⟨#[]⟩, .string ⟨#[]⟩, .slice none 0 0] 27 (0, 0)) := by
      rw [hb.block _ (by omega), hW0]; exact heap_alloc_new w _
    exact ⟨by rw [cell_of_row W _ _ _ _ _ this]; rfl, by rw [cell_of_row W _ _ _ _ _ this]; rfl, by rw [cell_of_row W _ _ _ _ _ this]; rfl⟩
  have HIns : Hid (∀ w2, Below w.heap.size w w2 → ∀ xs wi, ChoP t.length l xs → ChoP t.length l2 [wi] → xs ≠ [] → ∀ a1 c1, w2.ownsRow fb 77 1 (.slice a1 xs.length c1) xs.length (ptrs kb xs) →
      Calls Try.prog 76 #[.pointer (some ⟨fb, 0, none⟩), .int .i64 10, .slice a1 xs.length c1, .pointer (some ⟨kb wi, 0, none⟩)] w2 (StepWr t g fc fb kb l l2 w)) := by
    intro w2 hb xs wi hx hw hne a1 c1 q1
    have R2 := hR.self (Nat.le_refl _) hb
    have hrow2 := own_kept hrow (fun b _ h2 => hb.block b h2)
    refine (wrapAll_any hRt hnb R2 (Nat.le_trans hfw hb.size) l l2 xs hx hne wi hw a1 c1 q1).mono ?_
    rintro e w3 ⟨b, rfl, hy, hb3⟩
    refine ⟨b, rfl, fun e => ?_, (hb.mono hfw).trans hb3⟩
    obtain ⟨y1, W, kb', hbW, y2, y3⟩ := hy e
    have hrowW := own_kept hrow2 (fun b _ h2 => hbW.block b h2)
    have R2W := R2.self (Nat.le_refl _) hbW
    have key : ∀ s, RS t.length g fc fb kb W s kb' w3 → w3.ownsRow fb 77 1 (.slice (some ⟨g, 0, none⟩) t.length fc) t.length (ptrs kb' (List.range t.length)) := fun s R => by
      have k := R.kept hrowW (fun i hi => by obtain ⟨_, _, _, _, _, hhn, _, _⟩ := R2W.kno.node i hi; exact own_ne hrowW hhn (by decide)) (own_ne hrowW R2W.fst (by decide))
      rw [ptrs_congr2 (kb := kb) (kb2 := kb') fun y hy => R.old y (by simpa using hy)]
      exact k
    refine ⟨xs, wi, y1, W, kb', y2, y3, ?_⟩
    cases hop : (wrS t (xs.headD 0) wi).op with
    | true => exact key _ (y2 hop)
    | false => exact key _ (y3 hop)
  have HBl : Hid (fb ≤ w.heap.size) := hfw
  clear hb0 hx hf hel hi hi2 hR hrow hRt hnb
  go_enter Try.func48, Try.ntmps48
  go_wp2_with fail
  rw [← hW0]
  clear hW0
  refine HC.out.mono ?_
  rintro e w1 ⟨a1, c1, m1, b1, rfl, hyes1, hb1⟩
  obtain ⟨z0, z1, z2⟩ := HQ.out w1 hb1
  have HB1 := Lib.hid hb1
  have HB01 := Lib.hid (bnext HB0.out hb1)
  have HY1 := Lib.hid hyes1
  clear hb1 hyes1
  go_wp2_with fail
  refine (HC2.out w1 HB01.out).mono ?_
  rintro e w2 ⟨a2, c2', m2, b2, rfl, hyes2, hb2⟩
  have HB2 := Lib.hid (bnext HB1.out hb2)
  have HB12 := Lib.hid hb2
  have HB02 := Lib.hid (bnext HB01.out hb2)
  have HBf : Hid (Below fb w w2) := HB02.out.mono HBl.out
  have HY2 := Lib.hid hyes2
  clear hb2 hyes2 z0 z1 z2
  obtain ⟨z0, z1, z2⟩ := HQ.out w2 HB2.out
  cases b1
  · go_wp2_with fail
    go_ret
    exact ⟨false, rfl, by simp, HBf.out⟩
  obtain ⟨xs, hX, rfl, hown1⟩ := HY1.out rfl
  cases b2
  · clear hX hown1
    go_wp2_with fail
    go_ret
    exact ⟨false, rfl, by simp, HBf.out⟩
  obtain ⟨ws, hW, rfl, hown2⟩ := HY2.out rfl
  have hown1' : w2.ownsRow W0.heap.size 77 1 (.slice a1 xs.length c1) xs.length (ptrs kb xs) := own_kept hown1 (fun b _ h2 => HB12.out.block b h2)
  rcases Nat.eq_zero_or_pos xs.length with h0 | h0
  · have ez : ((xs.length : Int) == 0) = true := beq_iff_eq.2 (by omega)
    clear h0 hX hW hown1 hown1' hown2
    go_wp2_with fail
    go_ret
    exact ⟨false, rfl, by simp, HBf.out⟩
  have ez : ((xs.length : Int) == 0) = false := beq_eq_false_iff_ne.2 (by omega)
  have hne0 : xs ≠ [] := fun e => by rw [e] at h0; simp at h0
  by_cases h1 : ws.length = 1
  case neg =>
    have e1 : ((ws.length : Int) == 1) = false := beq_eq_false_iff_ne.2 (by omega)
    clear h0 h1 hX hW hown1 hown1' hown2 hne0
    go_wp2_with fail
    go_quiet (fail)
    go_wp2_with fail
    go_ret
    exact ⟨false, rfl, by simp, below_drewN HBf.out _⟩
  obtain ⟨wi, rfl⟩ : ∃ wi, ws = [wi] := List.length_eq_one_iff.1 h1
  have HCall : Hid (∀ W, Below w2.heap.size w2 W → Calls Try.prog 76 #[.pointer (some ⟨fb, 0, none⟩), .int .i64 10, .slice a1 xs.length c1, .pointer (some ⟨kb wi, 0, none⟩)] W (StepWr t g fc fb kb l l2 w)) := fun W hbW => HIns.out W (bnext HB02.out hbW) xs wi hX hW hne0 a1 c1 (own_kept (own_base hown1' (by have := HBl.out; have := HB0.out.size; omega)) (fun b _ h2 => hbW.block b h2))
  obtain ⟨gw, gl, rfl, -, gc⟩ := (rsl_own hown2).at_ (by rw [ptrs_length]; simp)
  have gw0 := gc 0 (by rw [ptrs_length]; simp)
  have ew : (ptrs kb [wi])[0]'(by rw [ptrs_length]; simp) = .pointer (some ⟨kb wi, 0, none⟩) := by simp [ptrs]
  rw [ew, Nat.add_zero] at gw0
  simp only [List.length_singleton]
  clear h0 h1 hX hW hown1 hown1' hown2 hne0 gc ew
  go_wp2_with fail
  refine wp_region_still_tail 11 (by kernel_rfl) (by kernel_rfl) ?_
  simp only [List.take_succ_cons, List.take_zero, List.drop_succ_cons, List.drop_zero]
  iterate 11 still_step
  refine wpStill_nil ?_
  change wpList _ _ _ _ _ w2.drew
  go_wp2_with fail
  refine (HCall.out w2.drew (Below.refl _ _).drew).mono ?_
  rintro e w3 ⟨b, rfl, hy, hb3⟩
  have HY := Lib.hid hy
  have HB3 := Lib.hid hb3
  clear hy hb3
  go_wp2_with fail
  go_ret
  exact ⟨b, rfl, HY.out, HB3.out⟩

theorem changedWr_any (ad : Option Addr) (c : Nat) (t : List Nd) (hf : fits1 t = true) (w : World) (h : NSl w w.heap.size ad t) (sb : Nat) (oa : Option Addr) (oc : Nat) (l : List Int) (hl : l.length ≤ 2147483647) (hi : ISl w w.heap.size oa l) (wa : Option Addr) (wc : Nat) (l2 : List Int) (hl2 : l2.length ≤ 2147483647) (hi2 : ISl w w.heap.size wa l2)
    (hs : w.heap[sb]? = some (.cells #[.int .i64 10, .slice oa l.length oc, .slice wa l2.length wc, .string ⟨#[]⟩, .string ⟨#[]⟩, .slice none 0 0] 27 (0, 0))) :
    Calls Try.prog 30 #[.slice ad t.length c, .slice (some ⟨sb, 0, none⟩) 1 1] w (ChangedPost t (WrG t l l2) w) := by
  refine changedM_any ad c t hf w h sb 10 oa l.length oc wa l2.length wc hs (WrG t l l2) ?_
  intro hR W kb g fc fb hb hfb hfb2 hKF hm
  have hRS : RS t.length g fc fb kb W ⟨fo0 t, t.length, ndT t, false⟩ kb W := ⟨hKF.kno, hm, fun _ _ => rfl, fun y h1 h2 => absurd (show y < t.length from h2) (by omega), KTurn.refl _ _ _⟩
  refine (step_10 hR (fun i hi => ⟨hKF.ndb i hi, nd_small hR hi⟩) hRS (Nat.le_of_lt hfb2) hKF.row oa oc l hl (hi.up hb) wa wc l2 hl2 (hi2.up hb)).mono ?_
  rintro e W' ⟨b, rfl, hyes, hk⟩
  refine ⟨b, rfl, fun e => ?_, hk⟩
  obtain ⟨xs, wi, hP, W1, kb', y1, y2, hrow⟩ := hyes e
  have hpos := hR.pos
  have hle := hR.le
  cases hop : (wrS t (xs.headD 0) wi).op with
  | true =>
    have R := y1 hop
    obtain ⟨-, h1, I1⟩ := wr_inv hR hP (headD_mem hP.ne)
    have hlw := wr_len hR (hP.wi.rng wi (by simp)).2
    have hN1 : (wrS t (xs.headD 0) wi).N = (cpy 200 ⟨fo0 t, t.length, ndT t, false⟩ wi).N := rfl
    refine ⟨(wrS t (xs.headD 0) wi).F, fun i => i < (wrS t (xs.headD 0) wi).N, h1, (wrS t (xs.headD 0) wi).nd, kb', true, ⟨I1.ok, R.kno, fun i hi => ?_, fun i hi => by rw [hN1]; have := hlw.2; omega, ⟨_, by have := R.fst; rw [hop] at this; exact this⟩, hrow, ?_⟩, fun e => by cases e⟩
    · obtain ⟨z, hz, e⟩ := I1.nds i hi
      rw [e]; exact hKF.ndb z hz
    · have := all_bound I1.ok (n := (wrS t (xs.headD 0) wi).N) (x := 0) (fun i hi => hi) (by rw [hN1]; have := hlw.2; omega)
      rw [hN1] at this
      have := hlw.1
      omega
  | false =>
    have R := y2 hop
    obtain ⟨h', ok, k1, k2, k3, k4⟩ := wr_final hR hP hop
    refine ⟨(wrE t xs wi).F, fun i => i < (wrE t xs wi).N, h', (wrE t xs wi).nd, kb', (wrE t xs wi).op, ⟨ok, R.kno, fun i hi => ?_, fun i hi => by omega, ⟨_, R.fst⟩, hrow, ?_⟩, fun e => ⟨xs, wi, hP, rfl, rfl, hop, ok⟩⟩
    · obtain ⟨z, hz, e⟩ := k3 i hi
      rw [e]; exact hKF.ndb z hz
    · have := all_bound ok (n := (wrE t xs wi).N) (x := 0) (fun i hi => hi) (by omega)
      omega
end Go.Proofs.Ytmhhfljbocbolaa

namespace Go.Proofs.Ytmhhfljbocbolaa
open Go.RowKit
set_option linter.unusedVariables false

theorem cut_up {F : Fo} {x z y : Nat} (u : (F.cut x).Up z y) : F.Up z y := by
  induction u with
  | self => exact .self
  | @step y p h1 _ ih =>
    refine .step ?_ ih
    change (if y = x then none else F.par y) = some p at h1
    split at h1
    · cases h1
    · exact h1

theorem wr_prog {t : List Nd} (hR : RightP t) {l l2 : List Int} {on : List Nat} {w : Nat} (P : WrP t l l2 on w) (hop : (wrS t (on.headD 0) w).op = false) :
    ∃ h p, WrT t on w (wrTo t (on.headD 0) w) ((wrS t (on.headD 0) w).cut (on.headD 0)) h ∧ (wrS t (on.headD 0) w).F.Ok (fun i => i < (wrS t (on.headD 0) w).N) h ∧ (wrS t (on.headD 0) w).F.par (on.headD 0) = some p ∧ insOne 1 true ((wrS t (on.headD 0) w).cut (on.headD 0)) (wrTo t (on.headD 0) w) on = wrE t on w := by
  have hm := headD_mem P.ne
  obtain ⟨p, hp⟩ := Option.ne_none_iff_exists'.1 (P.par _ hm)
  obtain ⟨h, T⟩ := wr_two hR P hm hp hop
  obtain ⟨q1, q2, q3, q4, q5⟩ := wr_parts hR P hm hp
  have o0 := fo0_ok hR
  have hfn : on.headD 0 < t.length := (P.cho.rng _ hm).2
  have hpn := (o0.dom _ _ hp).1
  have hE : insOne 1 true ((wrS t (on.headD 0) w).cut (on.headD 0)) (wrTo t (on.headD 0) w) on = wrE t on w := by
    have e1 : innS true ((wrS t (on.headD 0) w).cut (on.headD 0)) on = innS true (wrS t (on.headD 0) w) on := by
      have hne := P.ne
      cases on with
      | nil => exact absurd rfl hne
      | cons f r =>
        show r.foldl _ (((wrS t f w).cut f).cut f) = r.foldl _ ((wrS t f w).cut f)
        have e2 : ((wrS t f w).cut f).cut f = (wrS t f w).cut f := by
          show { (wrS t f w).cut f with F := ((wrS t f w).F.cut f).cut f } = _
          have ok1 : ((wrS t f w).F.cut f).Ok (fun i => i < (wrS t f w).N) h := T.inv.ok.cut f
          rw [Fo.cut_none ok1 (show (if f = f then none else _) = none from if_pos rfl)]; rfl
        rw [e2]
    unfold wrE insOne
    rw [e1]; rfl
  obtain ⟨s, hs⟩ : ∃ s, s = wrS t (on.headD 0) w := ⟨_, rfl⟩
  obtain ⟨f, hf⟩ : ∃ f, f = on.headD 0 := ⟨_, rfl⟩
  rw [← hs, ← hf] at T hE ⊢
  rw [← hs] at q1 q2 q3 q4 q5
  rw [← hf] at hfn hp hm
  have hpf : s.F.par f = some p := (q2 f hfn).trans hp
  refine ⟨h, p, ⟨?_, T.hr, T.hx, T.tn, ⟨T.inv.ok.cut f, Nat.le_refl _, fun _ _ _ _ => ⟨rfl, rfl⟩, fun x hx y hy u => T.inv.up x hx y hy (cut_up u), fun e => absurd e (by decide), fun y hy => ⟨y, hy, rfl⟩⟩, T.nds, T.le, T.ge⟩, T.inv.ok, hpf, hE⟩
  refine (inm_congr (F := s.F) (F2 := (s.cut f).F) (nd := s.nd) (nd2 := s.nd) (fun p c => (T.inv.ok.mem p c).1) 200 t.length (fun z u => ?_) (fun _ _ => rfl)).trans T.inn
  refine List.filter_eq_self.2 fun c hc => ?_
  have hcz := (T.inv.ok.mem z c).1 hc
  by_cases e : c = f
  · subst e
    rw [hpf] at hcz; cases hcz
    have h1 := T.inv.ok.ht _ _ q3
    rcases u.ht T.inv.ok with h2 | h2
    · omega
    · omega
  · simp [e]

theorem PW.trans {n n2 B : Nat} {bl : Nat → Nat} {w : World} {s s2 : FoS} {bl' bl2 : Nat → Nat} {st' st2 : Nat → Dn} {wr w2 : World} (H : PW n B bl w s bl' st' wr) (hn : n ≤ n2) (hn2 : n2 ≤ s.N) (K : PW n2 B bl' wr s2 bl2 st2 w2) (hs : s.N = n2) : PW n B bl w s2 bl2 st2 w2 := by
  refine ⟨K.prog, fun y hy => (K.old y (by omega)).trans (H.old y hy), fun y h1 h2 => ?_, kturn_ext H.turn K.turn H.old fun y h1 h2 => H.new y h1 (by omega)⟩
  by_cases e : y < n2
  · rw [K.old y e]; exact H.new y h1 (by omega)
  · have := K.new y (by omega) h2
    have := H.turn.size
    omega
end Go.Proofs.Ytmhhfljbocbolaa

namespace Go.Proofs.Ytmhhfljbocbolaa
open Go.RowKit
set_option linter.unusedVariables false

theorem PW.up {n B : Nat} {bl : Nat → Nat} {w : World} {s : FoS} {bl' : Nat → Nat} {st' : Nat → Dn} {wr : World} (H : PW n B bl w s bl' st' wr) {w2 : World} (hb : Below wr.heap.size wr w2) : PW n B bl w s bl' st' w2 := ⟨H.prog.kept hb, H.old, H.new, H.turn.trans (KTurn.of_below hb)⟩

theorem innS_true_op : ∀ (ws : List Nat) (s : FoS), (innS true s ws).op = s.op := by
  intro ws
  induction ws with
  | nil => intro s; rfl
  | cons a ws ih => intro s; exact ih (s.cut a)

theorem wrE_op {t : List Nd} {on : List Nat} {w : Nat} (hop : (wrE t on w).op = false) : (wrS t (on.headD 0) w).op = false := by
  have : (wrE t on w).op = (innS true (wrS t (on.headD 0) w) on).op := rfl
  rw [this, innS_true_op] at hop
  exact hop

set_option maxRecDepth 100000 in
set_option maxHeartbeats 8000000 in
theorem wrapAllNode_any {t : List Nd} (hRt : RightP t) (hal : ∀ i, i < t.length → (atsOf (ndT t i)).length ≤ 1000) (hnd : ∀ i, i < t.length → NdG (ndT t i)) {l l2 : List Int} {on : List Nat} {wi : Nat} (P : WrP t l l2 on wi) (hop : (wrS t (on.headD 0) wi).op = false) {B : Nat} {bl : Nat → Nat} {st : Nat → Dn} {w : World} (hP : Prog (fo0 t) (fun i => i < t.length) (ndT t) B bl st w) (hBw : B ≤ w.heap.size)
    (C g : Nat) (doc : Option Addr) (hsel : SelOf bl on C g doc w) :
    Calls Try.prog 44 #[.pointer (some ⟨g, 0, none⟩), .pointer (some ⟨bl wi, 0, none⟩)] w (ManPost t.length B bl g (wrE t on wi) w) := by
  have o0 := fo0_ok hRt
  obtain ⟨a1, c1, prev, hsb, hCg, hown, -⟩ := hsel
  obtain ⟨z0, zd, -⟩ := hsb.cells
  have hle := hRt.le
  have hne := P.ne
  have hpl : 0 < on.length := List.length_pos_iff.2 hne
  have hxs : ∀ x ∈ on, x < t.length := fun x hx => (P.cho.rng x hx).2
  have hxl : on.length ≤ 200 := by have := nodup_len P.cho.nodup hxs; omega
  have hwn : wi < t.length := (P.wi.rng wi (by simp)).2
  have hm0 := headD_mem hne
  have hx0 : on[0]'hpl = on.headD 0 := by
    cases on with
    | nil => exact absurd rfl hne
    | cons a l => rfl
  have hSz := size_sel g a1 on.length c1 w z0
  have hcop : (cpy 200 ⟨fo0 t, t.length, ndT t, false⟩ wi).op = false := hop
  have hCl := clone_any 200 o0 hP hBw hwn (sz_le hRt hwn) hcop hal
  have HPW0 : PW t.length B bl w ⟨fo0 t, t.length, ndT t, false⟩ bl st w := ⟨hP, fun _ _ => rfl, fun y h1 h2 => absurd (show y < t.length from h2) (by omega), KTurn.refl _ _ _⟩
  have HSz := Lib.hid hSz
  have HCl := Lib.hid hCl
  have HPW := Lib.hid HPW0
  -- what was there stays
  have hkeep : ∀ {C3 e size m : Nat} {v : Value} {xs : List Value}, w.ownsRow C3 e size v m xs → e = 69 → ∀ s bl' st' wr, PW t.length B bl w s bl' st' wr → wr.ownsRow C3 e size v m xs := fun ho he s bl' st' wr H => KTurn.own H.turn ho (fun i hi => by obtain ⟨_, _, _, hhn, _⟩ := hP.dom.node i hi; exact own_ne ho hhn (by rw [he]; decide))
  have HKeep := Lib.hid (hkeep hown rfl)
  have HSel : Hid (∀ s bl' st' wr, PW t.length B bl w s bl' st' wr → wr.cell? ⟨g, 0, none⟩ = some (.slice a1 on.length c1) ∧ wr.cell? ⟨g, 1, none⟩ = some (.pointer doc)) := fun s bl' st' wr H => by
    have hb := H.turn.block g hsb.lt (fun i hi e => by obtain ⟨_, _, _, hhn, _⟩ := hP.dom.node i hi; exact types_ne hsb hhn (by decide) e)
    have hsb2 : SelB wr g a1 on.length c1 doc prev := hb.trans hsb
    exact ⟨hsb2.cells.1, hsb2.cells.2.1⟩
  have hput := wr_put hRt P hm0
  obtain ⟨hQ, pq, TQ, okQ, hparQ, hEnd⟩ := wr_prog hRt P hop
  have HP := Lib.hid P
  have HHop := Lib.hid hop
  have HNd := Lib.hid hnd
  have HAl := Lib.hid hal
  have ez : ((on.length : Int) == 0) = false := beq_eq_false_iff_ne.2 (by omega)
  clear hkeep hsb hown hSz hCl HPW0 P hop hnd hal hcop hP
  go_enter Try.func44, Try.ntmps44
  go_wp2_with fail
  refine HSz.out.mono ?_
  rintro e w1 ⟨rfl, rfl⟩
  go_wp2_with fail
  refine HCl.out.mono ?_
  intro e w2 hp2
  obtain ⟨bl2, st2, rfl, hH2⟩ := HPW.out.clone (Nat.le_refl _) hp2
  obtain ⟨y0, yd⟩ := HSel.out _ _ _ _ hH2
  obtain ⟨b, o, hbo, -, hc⟩ := (rsl_own (HKeep.out _ _ _ _ hH2)).at_ (by rw [ptrs_length]; omega)
  cases hbo
  have g1 := hc 0 (by rw [ptrs_length]; exact hpl)
  rw [ptrs_at hpl, hx0, Nat.add_zero, ← hH2.old _ (hxs _ hm0)] at g1
  obtain ⟨hh, p, l1, l3, p1, p2, p3, p4, p5, p6, p7, p8, p9⟩ := hput
  obtain ⟨-, c0, -⟩ := hH2.prog.dom.cells p2
  rw [(hH2.prog.fit _ p2).par, p8] at c0
  simp only [ptrTo, Option.map_some] at c0
  have HIns : Hid (Calls Try.prog 62 #[.pointer (some ⟨bl2 p, 0, none⟩), .pointer (some ⟨bl2 t.length, 0, none⟩), .pointer (some ⟨bl2 (on.headD 0), 0, none⟩)] w2 fun e w3 => e = .returned (.tuple #[]) ∧ ∃ st3, PW t.length B bl w1 (wrS t (on.headD 0) wi) bl2 st3 w3) := by
    have := insertP_any p1 w2 B bl2 st2 hH2.prog p t.length p5 p3 p4 p6 l1 (on.headD 0 :: l3) p7
    refine this.mono fun e w3 hp3 => ?_
    obtain ⟨e1, st3, H3⟩ := hH2.put hp3
    rw [p9] at H3
    exact ⟨e1, st3, H3⟩
  have hfN : on.headD 0 < (wrS t (on.headD 0) wi).N := by have := TQ.ge; have := hxs _ hm0; show _ < ((wrS t (on.headD 0) wi).cut (on.headD 0)).N; omega
  obtain ⟨f, hf⟩ : ∃ f, f = on.headD 0 := ⟨_, rfl⟩
  rw [← hf] at g1 c0 HIns
  have HRem : Hid (∀ st3 w3, PW t.length B bl w1 (wrS t f wi) bl2 st3 w3 → w3.cell? ⟨bl2 f, 0, none⟩ = some (.pointer (some ⟨bl2 pq, 0, none⟩)) ∧ Calls Try.prog 52 #[.pointer (some ⟨bl2 pq, 0, none⟩), .pointer (some ⟨bl2 f, 0, none⟩)] w3 fun e w4 => e = .returned (.tuple #[]) ∧ ∃ st4, PW t.length B bl w1 ((wrS t f wi).cut f) bl2 st4 w4) := by
    intro st3 w3 H3
    rw [← hf] at okQ hparQ hfN
    obtain ⟨-, d0, -⟩ := H3.prog.dom.cells hfN
    rw [(H3.prog.fit _ hfN).par, hparQ] at d0
    refine ⟨d0, (removeP_any okQ w3 B bl2 st3 H3.prog pq f hparQ).mono fun e w4 hp4 => ?_⟩
    exact H3.put hp4
  have HF := Lib.hid hf
  rw [← hf] at TQ hEnd
  have HTQ := Lib.hid TQ
  have HEnd := Lib.hid hEnd
  clear hp2 hc hH2 p1 p2 p3 p4 p5 p6 p7 p8 p9 okQ hparQ hfN hm0 hx0 TQ hEnd hf
  go_wp2_with fail
  refine HIns.out.mono ?_
  rintro e w3 ⟨rfl, st3, hH3⟩
  obtain ⟨d0, hRem⟩ := HRem.out st3 w3 hH3
  have HRm := Lib.hid hRem
  clear hRem hH3 c0 g1 y0 yd
  go_wp2_with fail
  refine HRm.out.mono ?_
  rintro e w4 ⟨rfl, st4, hH4⟩
  obtain ⟨y0, yd⟩ := HSel.out _ _ _ _ hH4
  obtain ⟨s2, hs2⟩ : ∃ s2, s2 = (wrS t f wi).cut f := ⟨_, rfl⟩
  obtain ⟨to, hto⟩ : ∃ to, to = wrTo t f wi := ⟨_, rfl⟩
  have HS2 := Lib.hid hs2
  rw [← hs2] at hH4 HTQ HEnd
  rw [← hto] at HTQ HEnd
  have HNd2 : Hid (∀ i, i < s2.N → NdG (s2.nd i)) := fun i hi => by obtain ⟨z, hz, e⟩ := HTQ.out.nds i hi; rw [e]; exact HNd.out z hz
  have HFe : Hid (∀ y, y < s2.N → Calls Try.prog 66 #[.pointer (some ⟨bl2 y, 0, none⟩)] w4 fun e w' => e = .returned (ptrTo bl2 (elK s2.F s2.nd y).head?) ∧ w' = w4) := fun y hy => firstEl_any HTQ.out.inv.ok HNd2.out hH4.prog y hy
  have HInj : Hid (∀ y, y < s2.N → hgt (fun i => i < s2.N) bl2 hQ (.pointer (some ⟨bl2 y, 0, none⟩)) = hQ y + 1) := fun y hy => hgt_at hH4.prog.dom.inj hQ hy
  have HF0 := Lib.hid (HFe.out t.length HTQ.out.ge)
  have HStart : Hid (inm s2.F s2.nd 200 t.length = some to ∧ hQ t.length ≤ 200 ∧ t.length < s2.N) := ⟨HTQ.out.inn, HTQ.out.hr, HTQ.out.ge⟩
  have HUp : Hid (∀ y c, c ∈ s2.F.kids y → c < s2.N ∧ hQ c < hQ y) := fun y c hc => ⟨(HTQ.out.inv.ok.dom _ _ ((HTQ.out.inv.ok.mem y c).1 hc)).2, HTQ.out.inv.ok.ht _ _ ((HTQ.out.inv.ok.mem y c).1 hc)⟩
  have HH4 := Lib.hid hH4
  clear hH4 d0 hs2 hto
  go_wp2_with fail
  refine HF0.out.mono ?_
  rintro e w5 ⟨rfl, rfl⟩
  obtain ⟨v0, hv0⟩ : ∃ v0, v0 = ptrTo bl2 (elK s2.F s2.nd t.length).head? := ⟨_, rfl⟩
  have HV0 := Lib.hid hv0
  rw [← hv0]
  obtain ⟨q0, rfl⟩ : ∃ q0, v0 = .pointer q0 := ⟨_, hv0⟩
  clear hv0
  go_wp2_with fail
  go_loopw [5, 7] (fun v5 v7 wr => ∃ y d, v5 = .pointer (some ⟨bl2 y, 0, none⟩) ∧ v7 = ptrTo bl2 (elK s2.F s2.nd y).head? ∧ y < s2.N ∧ hQ y ≤ d ∧ Hid (inm s2.F s2.nd d y = some to) ∧ w5 = wr) (fun v5 _ _ => hgt (fun i => i < s2.N) bl2 hQ v5)
  case atStart => exact ⟨t.length, 200, rfl, HV0.out, HStart.out.2.2, HStart.out.2.1, HStart.out.1, rfl⟩
  case round =>
    obtain ⟨y, d, rfl, rfl, hy, hd, hin, hwr⟩ := hrel
    subst hwr
    cases hel : elK s2.F s2.nd y with
    | nil =>
      have hyt : y = to := by have := hin.out; rw [inm_leaf hel] at this; exact Option.some.inj this
      subst hyt
      simp only [List.head?_nil, ptrTo, Option.map_none]
      have HSg := Lib.hid (single_any bl2 y doc w5)
      have HMan : Hid (∀ w6, SelB w6 (w5.heap.size + 1) (some ⟨w5.heap.size, 0, none⟩) 1 1 doc none → w6.ownsRow w5.heap.size 69 1 (.slice (some ⟨w5.heap.size, 0, none⟩) 1 1) 1 (ptrs bl2 [y]) → Below w5.heap.size w5 w6 → Calls Try.prog 68 #[.pointer (some ⟨w5.heap.size + 1, 0, none⟩), .pointer (some ⟨g, 0, none⟩)] w6 (fun e w7 => e = .returned (.pointer (some ⟨w5.heap.size + 1, 0, none⟩)) ∧ ∃ bl' st', PW t.length B bl w1 (wrE t on wi) bl' st' w7)) := by
        intro w6 hsb6 hown6 hb6
        have H6 := HH4.out.up hb6
        obtain ⟨x0, xd⟩ := HSel.out _ _ _ _ H6
        have hrow6 := HKeep.out _ _ _ _ H6
        rw [← ptrs_congr2 (kb := bl) (kb2 := bl2) fun z hz => H6.old z (hxs z hz)] at hrow6
        have hop2 : s2.op = false := by rw [HS2.out, HF.out]; exact HHop.out
        have es : (⟨s2.F, s2.N, s2.nd, false⟩ : FoS) = s2 := by rw [← hop2]
        have hBs : B ≤ w6.heap.size := by have := H6.turn.size; omega
        have hE1 : insN 1 s2 [y] on [y].length = wrE t on wi := HEnd.out
        have hge := HTQ.out.ge
        have := man_1 (n := s2.N) (F0 := s2.F) (h0 := hQ) (nd0 := s2.nd) (xs := [y]) (ws := on) HTQ.out.hx (fun i hi => by obtain ⟨z, hz, e⟩ := HTQ.out.nds i hi; rw [e]; exact HAl.out z hz) HTQ.out.le (fun x hx => by rw [List.mem_singleton] at hx; subst hx; exact hy) (fun x hx => by have := hxs x hx; omega) (by simp) HP.out.cho.nodup (by simp)
          (fun i hi => by
            have e0 : i = 0 := by simpa using hi
            subst e0
            rw [es]
            exact ⟨hQ, HTQ.out.inv⟩) (by rw [es]; show (innS true s2 on).op = false; rw [innS_true_op, hop2]) H6.prog hBs w5.heap.size (w5.heap.size + 1) doc ⟨_, _, _, hsb6, by omega, hown6⟩ (some ⟨b, o, none⟩) c1 hrow6
        rw [es, hE1] at this
        refine (appSel_any w6 _ g (some ⟨b, o, none⟩) on.length c1 x0 (AppendNodes_nodes w6 _ _ _ _ this)).mono ?_
        rintro e w7 ⟨rfl, bl7, st7, H7⟩
        exact ⟨rfl, bl7, st7, H6.trans (Nat.le_of_lt hge) (Nat.le_refl _) H7 rfl⟩
      clear hel hin
      go_wp2_with fail
      refine HSg.out.mono ?_
      rintro e w6 ⟨rfl, hsb6, hown6, hb6⟩
      have HA := Lib.hid (HMan.out w6 hsb6 hown6 hb6)
      clear hsb6 hown6 hb6 y0 yd
      go_wp2_with fail
      refine HA.out.mono ?_
      rintro e w7 ⟨rfl, hH7⟩
      have HH7 := Lib.hid hH7
      clear hH7
      go_wp2_with fail
      go_ret
      exact ⟨rfl, HH7.out⟩
    | cons c l =>
      have hck : c ∈ s2.F.kids y := (List.mem_filter.1 (show c ∈ elK s2.F s2.nd y by rw [hel]; simp)).1
      obtain ⟨k1, k2⟩ := HUp.out y c hck
      obtain ⟨d', rfl⟩ : ∃ d', d = d' + 1 := ⟨d - 1, by omega⟩
      have HN : Hid (inm s2.F s2.nd d' c = some to) := by
        have := hin.out
        cases l with
        | nil => rw [inm_one hel] at this; exact this
        | cons a l => rw [inm_two hel] at this; cases this
      have HFc := Lib.hid (HFe.out c k1)
      have HM1 := Lib.hid (HInj.out y hy)
      have HM2 := Lib.hid (HInj.out c k1)
      simp only [List.head?_cons, ptrTo, Option.map_some]
      clear hel hin hck
      go_wp2_with fail
      refine HFc.out.mono ?_
      rintro e w6 ⟨rfl, rfl⟩
      obtain ⟨v1, hv1⟩ : ∃ v1, v1 = ptrTo bl2 (elK s2.F s2.nd c).head? := ⟨_, rfl⟩
      have HV1 := Lib.hid hv1
      rw [← hv1]
      obtain ⟨q1, rfl⟩ : ∃ q1, v1 = .pointer q1 := ⟨_, hv1⟩
      clear hv1
      go_wp2_with fail
      go_roundw
      case rel => exact ⟨c, d', rfl, HV1.out, k1, by omega, HN, by trivial⟩
      case measure => have := HM1.out; have := HM2.out; omega
end Go.Proofs.Ytmhhfljbocbolaa

namespace Go.Proofs.Ytmhhfljbocbolaa
open Go.RowKit
set_option linter.unusedVariables false

set_option maxRecDepth 100000 in
set_option maxHeartbeats 4000000 in
theorem of_10 (a : Option Addr) (c : Nat) (t : List Nd) (hR : RightP t) (ad : Option Addr) (c2 : Nat) (l : List Int) (l2 : List Int) (xs : List Nat) (wi : Nat) (hIP : WrP t l l2 xs wi) (hop : (wrS t (xs.headD 0) wi).op = false) {h' : Nat → Nat} (ok : (wrE t xs wi).F.Ok (fun i => i < (wrE t xs wi).N) h')
    (hl : l.length ≤ 2147483647) (w : World) (h : NSl w w.heap.size a t) (hi : ISl w w.heap.size ad l) :
    Calls Try.prog 27 #[.slice a t.length c, .slice ad l.length c2, .int .i64 (wi : Int)] w (OfPost (wrE t xs wi).F h' (wrE t xs wi).nd t.length w) := by
  have HSl := Lib.hid (selected_any a c t hR ad c2 l xs hIP.cho.ord hl w h hi)
  have HR := Lib.hid hR
  have HOk := Lib.hid ok
  have HNb : Hid (∀ i, i < t.length → NdB (ndT t i)) := fun i hi => by
    unfold ndT; rw [getD_at hi]
    exact (h.2.1 _ (List.getElem_mem hi)).ndb
  obtain ⟨-, -, k1, k2, k3, -⟩ := wr_final hR hIP hop
  have hwn : wi < t.length := (hIP.wi.rng wi (by simp)).2
  have HK3 := Lib.hid k3
  have hpos := hR.pos
  have hle := hR.le
  have HMan : Hid (∀ W bl st g doc, w.heap.size ≤ W.heap.size → Prog (fo0 t) (fun i => i < t.length) (ndT t) w.heap.size bl st W → SelOf bl xs w.heap.size g doc W → Calls Try.prog 44 #[.pointer (some ⟨g, 0, none⟩), .pointer (some ⟨bl wi, 0, none⟩)] W (ManPost t.length w.heap.size bl g (wrE t xs wi) W)) := fun W bl st g doc hs hP hsel =>
    wrapAllNode_any hR (fun i hi => ats_small hR hi) (fun i hi => ndG_of hR hi) hIP hop hP hs w.heap.size g doc hsel
  clear hR h hi hIP ok k3 hop
  go_enter Try.func27, Try.ntmps27
  go_wp2_with fail
  refine HSl.out.mono ?_
  rintro e w1 ⟨L, bl, st, gw, g0, g, doc, rfl, hL, hT, hW, hsel, hgw, hb1⟩
  have HT := Lib.hid hT
  have HW := Lib.hid hW
  have HB1 := Lib.hid hb1
  have HSel := Lib.hid hsel
  have hgl : gw < w1.heap.size := (Array.getElem?_eq_some_iff.1 hW).1
  have z0 : w1.cell? ⟨gw, 0, none⟩ = some (.slice (some ⟨L, 0, none⟩) t.length t.length) := cell_of_row w1 gw 0 _ _ _ hW
  have z1 : w1.cell? ⟨L, wi, none⟩ = some (.pointer (some ⟨bl wi, 0, none⟩)) := by
    obtain ⟨cur, h1, h2, h3⟩ := hT.row
    rw [cell_of_row w1 L wi _ _ _ h1, h3 wi hwn]; rfl
  have e0 : decide ((wi : Int) < 0) = false := decide_eq_false (by omega)
  have e1 : decide ((t.length : Int) ≤ (wi : Int)) = false := decide_eq_false (by omega)
  have HMn : Hid (∀ W, Below w1.heap.size w1 W → Calls Try.prog 44 #[.pointer (some ⟨g, 0, none⟩), .pointer (some ⟨bl wi, 0, none⟩)] W (ManPost t.length w.heap.size bl g (wrE t xs wi) W)) := fun W hb => HMan.out W bl st g doc (bnext hb1 hb).size ((hT.kept hb).prog HR.out) (by
    obtain ⟨q1, q2, q3, q4, q5, q6, q7⟩ := hsel
    exact ⟨q1, q2, q3, q4.below hb q4.lt, q5, own_kept q6 (fun b _ h2 => hb.block b h2), q7⟩)
  clear hT hW hb1 hsel
  go_wp2_with fail
  refine (HMn.out w1 (Below.refl _ _)).mono ?_
  rintro e w3 ⟨rfl, bl2, st2, hH⟩
  have hP3 := hH.prog
  have hW3 : WorldB w3 gw L t.length g0 := (hH.turn.block gw (Array.getElem?_eq_some_iff.1 HW.out).1 (fun i hi e => by
    obtain ⟨_, _, _, hh, _⟩ := HT.out.dom.node i hi
    exact types_ne HW.out hh (by decide) e)).trans HW.out
  have hL3 : ∀ j, j < t.length → w3.cell? ⟨L, j, none⟩ = some (.pointer (some ⟨bl2 j, 0, none⟩)) := fun j hj => by
    obtain ⟨cur, h1, h2, h3⟩ := HT.out.row
    have h4 := hH.turn.block L (Array.getElem?_eq_some_iff.1 h1).1 (fun i hi e => by
      obtain ⟨_, _, _, hh, _⟩ := HT.out.dom.node i hi
      exact types_ne h1 hh (by decide) e)
    rw [cell_of_row w3 L j _ _ _ (h4.trans h1), h3 j hj, hH.old j hj]; rfl
  have HB3 : Hid (Below w.heap.size w w3) := by
    have h5 := hH.turn.below (B := w.heap.size) HB1.out.size (fun i hi => (HT.out.dom.node i hi).1)
    exact HB1.out.trans h5
  have hlen : ((wrE t xs wi).F.all h' 0).length ≤ 100000 := by
    have := all_bound HOk.out (n := (wrE t xs wi).N) (x := 0) (fun i hi => hi) (by omega)
    omega
  have HEn := Lib.hid (ends_any HOk.out (fun i hi => by obtain ⟨z, hz, e⟩ := HK3.out i hi; rw [e]; exact ndG_of HR.out hz) (fun i hi => by obtain ⟨z, hz, e⟩ := HK3.out i hi; rw [e]; exact HNb.out z hz) hpos hle (fun i hi => by omega) hlen w3 hP3 gw L g0 hW3 hL3)
  clear hP3 hW3 hL3 hH hlen
  go_wp2_with fail
  refine HEn.out.mono ?_
  rintro e w4 ⟨a3, m3, c3', a4, m4, c4, rfl, hOut, hb3⟩
  have HFin : Hid (OfPost (wrE t xs wi).F h' (wrE t xs wi).nd t.length w (.returned (.tuple #[.slice a3 m3 c3', .slice a4 m4 c4, .bool true])) w4) :=
    ⟨_, _, _, _, _, _, rfl, hOut, bnext HB3.out hb3⟩
  clear hOut hb3
  go_wp2_with fail
  go_ret3
  exact HFin.out
end Go.Proofs.Ytmhhfljbocbolaa

namespace Go.Proofs.Ytmhhfljbocbolaa
open Go.RowKit
set_option linter.unusedVariables false

set_option maxRecDepth 100000 in
set_option maxHeartbeats 4000000 in
theorem FnWrapAllOf_walk (ad : Option Addr) (len c : Nat) (t : List Nd) (a2 : Option Addr) (len2 c2 : Nat) (l : List Int) (I : Int) (w : World) (h : NSl w w.heap.size ad t ∧ len = t.length) (hi : ISl w w.heap.size a2 l ∧ len2 = l.length) (hI : (Lit.int .i64 I).wf = true) :
    Calls Try.prog 10 #[.slice ad len c, .slice a2 len2 c2, .int .i64 I] w fun e w' => e = .returned (.bool true) ∧ Below w.heap.size w w' := by
  obtain ⟨h, rfl⟩ := h
  obtain ⟨hi, rfl⟩ := hi
  have hIb := wf_bounds hI
  have HH := Lib.hid h
  have hll := hi.len
  have HI := Lib.hid hi
  unfold maxLen at hll
  clear h hi hI
  go_enter Try.func10, Try.ntmps10
  go_wp2_with fail
  refine (zzFits1_any _ _ t _ HH.out).mono ?_
  rintro e w1 ⟨rfl, hb1⟩
  have HB1 := Lib.hid hb1
  clear hb1
  cases hf : fits1 t
  · go_wp2_with fail
    go_ret
    exact ⟨rfl, HB1.out⟩
  by_cases k1 : 2147483647 < l.length
  · go_wp2_with fail
    go_ret
    exact ⟨rfl, HB1.out⟩
  have hl : l.length ≤ 2147483647 := by omega
  have hl1 : [I].length ≤ 2147483647 := by simp
  obtain ⟨W1, hW1⟩ : ∃ W1, W1 = w1.alloc (.cells #[.int .i64 I] 3) := ⟨_, rfl⟩
  have hbA0 : Below w1.heap.size w1 W1 := by rw [hW1]; exact (Below.refl _ _).alloc (Nat.le_refl _) _
  have HBA := Lib.hid (bnext HB1.out hbA0)
  have HOn : Hid (ISl W1 W1.heap.size (some ⟨w1.heap.size, 0, none⟩) [I]) := by rw [hW1]; exact isl_one w1 I hIb
  have HC : Hid (ChC t ad c (WrG t l [I]) 10 a2 l.length c2 (some ⟨w1.heap.size, 0, none⟩) 1 1 W1) := fun W sb hb hs => changedWr_any ad c t hf W (HH.out.up (bnext HBA.out hb)) sb a2 c2 l hl (HI.out.up (bnext HBA.out hb)) (some ⟨w1.heap.size, 0, none⟩) 1 [I] hl1 (HOn.out.up hb) hs
  have HSt := Lib.hid (step7_any 10 a2 l.length c2 (some ⟨w1.heap.size, 0, none⟩) 1 1 W1)
  have HX1 : Hid (∃ x, x = w1.heap.size) := ⟨_, rfl⟩
  clear hbA0
  subst hW1
  go_wp2_with fail
  refine HSt.out.mono ?_
  rintro e w2 ⟨rfl, hb2⟩
  obtain ⟨W2, hW2⟩ : ∃ W2, W2 = w2.alloc (.cells #[.int .i64 10, .slice a2 l.length c2, .slice (some ⟨w1.heap.size, 0, none⟩) 1 1, .string ⟨#[]⟩, .string ⟨#[]⟩, .slice none 0 0] 27) := ⟨_, rfl⟩
  have hbA : Below w2.heap.size w2 W2 := by rw [hW2]; exact (Below.refl _ _).alloc (Nat.le_refl _) _
  have hsA : W2.heap.size = w2.heap.size + 1 := by rw [hW2, World.size_alloc]
  have HB2 := Lib.hid (bnext hb2 hbA)
  have HCW := Lib.hid (HC.out.up HB2.out)
  have HQ : Hid (∀ W, Below W2.heap.size W2 W → W.cell? ⟨w2.heap.size, 0, none⟩ = some (.int .i64 10) ∧ W.cell? ⟨w2.heap.size, 1, none⟩ = some (.slice a2 l.length c2) ∧ W.cell? ⟨w2.heap.size, 2, none⟩ = some (.slice (some ⟨w1.heap.size, 0, none⟩) 1 1) ∧ W.cell? ⟨w2.heap.size, 3, none⟩ = some (.string ⟨#[]⟩) ∧ W.cell? ⟨w2.heap.size, 4, none⟩ = some (.string ⟨#[]⟩) ∧ W.cell? ⟨w2.heap.size, 5, none⟩ = some (.slice none 0 0)) := by
    intro W hb
    have q : W.heap[w2.heap.size]? = some (.cells #[.int .i64 10, .slice a2 l.length c2, .slice (some ⟨w1.heap.size, 0, none⟩) 1 1, .string ⟨#[]⟩, .string ⟨#[]⟩, .slice none 0 0] 27 (0, 0)) := by
      rw [hb.block _ (by omega), hW2]; exact heap_alloc_new w2 _
    exact ⟨by rw [cell_of_row W _ _ _ _ _ q]; rfl, by rw [cell_of_row W _ _ _ _ _ q]; rfl, by rw [cell_of_row W _ _ _ _ _ q]; rfl, by rw [cell_of_row W _ _ _ _ _ q]; rfl, by rw [cell_of_row W _ _ _ _ _ q]; rfl, by rw [cell_of_row W _ _ _ _ _ q]; rfl⟩
  clear hb2 hbA hsA
  go_wp2_with fail
  rw [← hW2]
  clear hW2
  refine (sure7_any HCW.out).mono ?_
  rintro e w3 ⟨b, rfl, hy, hb3⟩
  have HB3 := Lib.hid hb3
  have HB03 := Lib.hid (bnext HBA.out (bnext HB2.out hb3))
  cases b
  · clear hy hb3
    go_wp2_with fail
    go_ret
    exact ⟨rfl, HB03.out⟩
  obtain ⟨hR, F, S, hh, nd, xs, wi, hIP, rfl, rfl, hop, ok⟩ := hy rfl
  have hIw : I = (wi : Int) := by have := hIP.wi.eq; simpa [toI] using this
  have HIw := Lib.hid hIw
  have HR := Lib.hid hR
  have HIP := Lib.hid hIP
  have HOk := Lib.hid ok
  have HE := Lib.hid (of_10 ad c t hR a2 c2 l [I] xs wi hIP hop ok hl w3 (HH.out.up HB03.out) (HI.out.up HB03.out))
  rw [← hIw] at HE
  have HOp := Lib.hid hop
  clear hy hb3 hR hIP hop ok hIw
  go_wp2_with fail
  refine HE.out.mono ?_
  rintro e w4 ⟨b3, m3, d3, b4, m4, d4, rfl, hO, hb4⟩
  have HB4 := Lib.hid (bnext HB03.out hb4)
  have hb24 := bnext HB3.out hb4
  obtain ⟨z0, z1, z2, z3, z4, z5⟩ := HQ.out w4 hb24
  obtain ⟨-, -, y1, y2, y3, -⟩ := wr_final HR.out HIP.out HOp.out
  have hle := HR.out.le
  have hposT := HR.out.pos
  have HAs := Lib.hid (as7_any (HCW.out.up hb24) (wrG_det HIP.out HOk.out) (fun y hy => by
    obtain ⟨z, hz, e⟩ := y3 y (HOk.out.all_mem (S := fun i => i < (wrE t xs wi).N) (by show 0 < _; omega) hy)
    rw [e]; exact ndW_t HR.out hz) (by have := all_bound HOk.out (n := (wrE t xs wi).N) (x := 0) (fun i hi => hi) (by omega); omega) HR.out.le b3 m3 d3 b4 m4 d4 hO)
  clear hO hb4 hb24 y1 y2 y3 hposT
  go_wp2_with fail
  refine HAs.out.mono ?_
  rintro e w5 ⟨rfl, hb5⟩
  have HB5 := Lib.hid (bnext HB4.out hb5)
  clear hb5
  go_wp2_with fail
  go_ret
  exact ⟨by trivial, HB5.out⟩
end Go.Proofs.Ytmhhfljbocbolaa
