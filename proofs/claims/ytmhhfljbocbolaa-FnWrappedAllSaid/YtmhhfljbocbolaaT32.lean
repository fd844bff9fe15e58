/- Nodes back to their places; lists of places compared. -/
import Derived.Test.YtmhhfljbocbolaaT24
namespace Go.Proofs.Ytmhhfljbocbolaa
open Go.RowKit
set_option linter.unusedVariables false

def toI (ns : List Nat) : List Int := ns.map fun (k : Nat) => (k : Int)
theorem toI_length (ns : List Nat) : (toI ns).length = ns.length := by simp [toI]
theorem toI_snoc (ns : List Nat) (i : Nat) : toI (ns ++ [i]) = toI ns ++ [(i : Int)] := by simp [toI]
theorem ivs_snoc (l : List Int) (i : Int) : ivs (l ++ [i]) = ivs l ++ [.int .i64 i] := by simp [ivs]
theorem toI_inj {a b : List Nat} (h : toI a = toI b) : a = b := by
  unfold toI at h
  exact List.map_inj_right (fun x y e => by omega) |>.1 h
theorem toI_at {ns : List Nat} {i : Nat} (h : i < ns.length) : (toI ns)[i]'(by rw [toI_length]; exact h) = (ns[i] : Int) := by simp [toI]
theorem mem_toI {ns : List Nat} {i : Nat} : (i : Int) ∈ toI ns ↔ i ∈ ns := by
  unfold toI
  rw [List.mem_map]
  constructor
  · rintro ⟨a, ha, e⟩
    have : a = i := by omega
    rw [← this]; exact ha
  · intro h; exact ⟨i, h, rfl⟩
theorem OrdP.toI {n : Nat} {l : List Int} {ns : List Nat} (h : OrdP n l ns) : l = toI ns := h.eq

/-- A row of numbers that the call owns. -/
def OwnI (B : Nat) (l : List Int) (v : Value) (w : World) : Prop := ∃ a c, v = .slice a l.length c ∧ w.ownsRow B 3 1 (.slice a l.length c) l.length (ivs l)

theorem OwnI.of {B : Nat} {ns : List Nat} {a : Option Addr} {c : Nat} {w : World} (h : w.ownsRow B 3 1 (.slice a ns.length c) ns.length (ivs (toI ns))) : OwnI B (toI ns) (.slice a ns.length c) w := by
  unfold OwnI
  rw [toI_length]
  exact ⟨a, c, rfl, h⟩

def PlacePost (w : World) (i : Nat) (e : Ending) (w' : World) : Prop := e = .returned (.int .i64 i) ∧ w = w'

set_option maxRecDepth 100000 in
set_option maxHeartbeats 1000000 in
theorem placeOf_any (bl : Nat → Nat) (n L : Nat) (hn : n ≤ 200) (w : World) (hN : NodesAt bl n w) (hc : ∀ j, j < n → w.cell? ⟨L, j, none⟩ = some (.pointer (some ⟨bl j, 0, none⟩))) (i : Nat) (hi : i < n) :
    Calls Try.prog 83 #[.slice (some ⟨L, 0, none⟩) n n, .pointer (some ⟨bl i, 0, none⟩)] w (PlacePost w i) := by
  have HN := Lib.hid hN
  have HC := Lib.hid hc
  clear hN hc
  go_enter Try.func83, Try.ntmps83
  go_wp2_with fail
  go_loopw [8] (fun x wr => ∃ k : Nat, k ≤ i ∧ x = .int .i64 k ∧ w = wr) (fun x _ => n - (intOf x).toNat)
  case atStart => exact ⟨0, by omega, rfl, rfl⟩
  case round =>
    obtain ⟨k, hk, rfl, rfl⟩ := hrel
    have g1 := HC.out k (by omega)
    by_cases e : k = i
    · subst e
      have heq := ptr_same k bl w
      go_wp2_with fail
      go_ret
      exact ⟨rfl, rfl⟩
    · have hne : bl k ≠ bl i := fun h2 => e (HN.out.inj _ _ (by omega) hi h2)
      have heq := ptr_other bl w hne (HN.out.blk _ (by omega)) (HN.out.blk _ hi)
      obtain ⟨bk, hbk⟩ : ∃ bk, bk = bl k := ⟨_, rfl⟩
      rw [← hbk] at g1 hne heq
      clear hbk
      have hlt : k < i := by omega
      clear e
      go_wp2_with fail
      go_roundw
      case rel => exact ⟨k + 1, by omega, by go_num, by trivial⟩
      case measure => simp [intOf]; omega

def PlacesPost (ns : List Nat) (w : World) (e : Ending) (w' : World) : Prop := ∃ v, e = .returned v ∧ OwnI w.heap.size (toI ns) v w' ∧ Below w.heap.size w w'

def PlacesRel (ns : List Nat) (w : World) (v x : Value) (wr : World) : Prop :=
  ∃ k a c, k ≤ ns.length ∧ x = .int .i64 (k : Nat) ∧ v = .slice a k c ∧ wr.ownsRow w.heap.size 3 1 (.slice a k c) k (ivs (toI (ns.take k))) ∧ Below w.heap.size w wr

set_option maxRecDepth 100000 in
set_option maxHeartbeats 2000000 in
theorem placesOf_any (bl : Nat → Nat) (n L : Nat) (hn : n ≤ 200) (ns : List Nat) (hns : ∀ k ∈ ns, k < n) (hlen : ns.length ≤ 100000) (a : Option Addr) (c : Nat) (w : World) (hL : L < w.heap.size) (hN : NodesAt bl n w) (hc : ∀ j, j < n → w.cell? ⟨L, j, none⟩ = some (.pointer (some ⟨bl j, 0, none⟩))) (h : RSl w w.heap.size a (ptrs bl ns)) :
    Calls Try.prog 55 #[.slice (some ⟨L, 0, none⟩) n n, .slice a ns.length c] w (PlacesPost ns w) := by
  obtain ⟨i0, hinf, hz0, hz1, hz2⟩ := info_parts Try.info3
  have HN := Lib.hid hN
  have HC := Lib.hid hc
  have HH := Lib.hid h
  have HNs := Lib.hid hns
  clear hN hc h hns
  go_enter Try.func55, Try.ntmps55
  go_wp2_with fail
  go_loopw [5, 10] (fun v x wr => PlacesRel ns w v x wr) (fun _ x _ => ns.length - (intOf x).toNat)
  case atStart => exact ⟨0, none, 0, by omega, rfl, rfl, World.ownsRow_nil _ _ _ _, Below.refl _ _⟩
  case round =>
    obtain ⟨k, a1, c1, hk, rfl, rfl, hown, hb⟩ := hrel
    by_cases hlt : k < ns.length
    · obtain ⟨b, o, rfl, hbB, hcc⟩ := HH.out.at_ (by rw [ptrs_length]; omega)
      have g1 := hcc k (by rw [ptrs_length]; exact hlt)
      rw [ptrs_at hlt] at g1
      replace g1 := (hb.cell (p := ⟨b, _, none⟩) hbB).trans g1
      have hi := HNs.out ns[k] (List.getElem_mem hlt)
      obtain ⟨j, hj⟩ : ∃ j, j = ns[k] := ⟨_, rfl⟩
      rw [← hj] at g1 hi
      have HJ : Hid (ns.take (k + 1) = ns.take k ++ [j]) := by
        rw [Hid, List.take_succ_eq_append_getElem hlt, hj]
      have HP := Lib.hid (placeOf_any bl n L hn wr (HN.out.kept hb) (fun q hq => (hb.cell (p := ⟨L, q, none⟩) hL).trans (HC.out q hq)) j hi)
      have HW := Lib.hid hown
      have hsz := hb.size
      clear hcc hj hown
      go_wp2_with fail
      refine HP.out.mono ?_
      rintro e w1 ⟨rfl, rfl⟩
      go_wp2_with (at_builtin; refine wpList_append_own _ rfl _ _ 23 rfl w.heap.size 3 i0 (.int .i64 0) 1 8 Try.underlying23 hinf hz0 hz1 hz2 rfl (by decide) _ _ _ rfl (HW.out.alloc _) ⟨wr.heap.size, 0, none⟩ 1 1 [.int .i64 (j : Int)] rfl rfl ?c1 ?c2 ?c3 ?c4 ?c5 ?_)
      case c1 =>
        intro q u hq
        match q, hq with
        | 0, hq => simp at hq; subst hq; simp [Addr.add]
      case c2 => intro u hu; simp at hu; subst hu; rfl
      case c3 => unfold maxLen; omega
      case c4 => omega
      case c5 => simp; omega
      · intro v' w1 hown' hgrow _
        obtain ⟨a2, c2, hv2⟩ := own_slice hown'
        rw [hv2] at hown' ⊢
        have hb1 : Below w.heap.size w w1 := (hb.alloc hb.size _).grown hgrow (by simp; omega) (fun q hq => (HW.out.lt q hq).1)
        have HO1 : Hid (w1.ownsRow w.heap.size 3 1 (.slice a2 (k + 1) c2) (k + 1) (ivs (toI (ns.take (k + 1))))) := by
          rw [Hid, HJ.out, toI_snoc, ivs_snoc]; exact hown'
        clear hown' hgrow hv2
        go_wp2_with fail
        go_roundw
        case rel => exact ⟨k + 1, a2, c2, by omega, by go_num, rfl, HO1.out, hb1⟩
        case measure => simp [intOf]; omega
    · go_wp2_with fail
      go_ret
      have e : k = ns.length := by omega
      subst e
      rw [List.take_length] at hown
      exact ⟨_, rfl, OwnI.of hown, hb⟩

/-- Two lists are the same. -/
def SameIPost (p : Bool) (w : World) (e : Ending) (w' : World) : Prop := ∃ q, e = .returned (.bool p) ∧ w' = w.drewN q

theorem same_step {la lb : List Int} (hl : la.length = lb.length) (h : ∀ i (h1 : i < la.length) (h2 : i < lb.length), la[i] = lb[i]) : la = lb := List.ext_getElem hl h

set_option maxRecDepth 100000 in
set_option maxHeartbeats 1000000 in
theorem sameList_any (a : Option Addr) (c : Nat) (la : List Int) (a2 : Option Addr) (c2 : Nat) (lb : List Int) (hla : la.length ≤ 2147483647) (hlb : lb.length ≤ 2147483647) (w : World) (h1 : RSl w w.heap.size a (ivs la)) (h2 : RSl w w.heap.size a2 (ivs lb)) :
    Calls Try.prog 21 #[.slice a la.length c, .slice a2 lb.length c2] w (SameIPost (decide (la = lb)) w) := by
  have H1 := Lib.hid h1
  have H2 := Lib.hid h2
  clear h1 h2
  by_cases hl : la.length = lb.length
  · have HL := Lib.hid hl
    have hz : ((la.length : Int) == (lb.length : Int)) = true := beq_iff_eq.2 (by omega)
    have hz' : ((la.length : Int) != (lb.length : Int)) = false := by simp [hl]
    clear hl
    go_enter Try.func21, Try.ntmps21
    go_wp2_with fail
    go_loopw [5] (fun x wr => ∃ k q : Nat, k ≤ la.length ∧ x = .int .i64 k ∧ Hid (∀ i (h1 : i < la.length) (h2 : i < lb.length), i < k → la[i] = lb[i]) ∧ wr = w.drewN q) (fun x _ => la.length - (intOf x).toNat)
    case atStart => exact ⟨0, 0, by omega, rfl, (fun i _ _ h => by omega), rfl⟩
    case round =>
      obtain ⟨k, q, hk, rfl, hsame, rfl⟩ := hrel
      by_cases hlt : k < la.length
      · have hlt2 : k < lb.length := by have := HL.out; omega
        obtain ⟨b, o, rfl, hbB, hc⟩ := H1.out.at_ (by rw [ivs_length]; omega)
        obtain ⟨b2, o2, rfl, hbB2, hc2⟩ := H2.out.at_ (by rw [ivs_length]; omega)
        have g1 := hc k (by rw [ivs_length]; exact hlt)
        have g2 := hc2 k (by rw [ivs_length]; exact hlt2)
        rw [ivs_at hlt] at g1
        rw [ivs_at hlt2] at g2
        clear hc hc2
        obtain ⟨x, hx⟩ : ∃ x, x = la[k] := ⟨_, rfl⟩
        obtain ⟨y, hy⟩ : ∃ y, y = lb[k] := ⟨_, rfl⟩
        rw [← hx] at g1
        rw [← hy] at g2
        by_cases e : x = y
        · have HS : Hid (∀ i (h1 : i < la.length) (h2 : i < lb.length), i < k + 1 → la[i] = lb[i]) := by
            intro i h1 h2 hi
            by_cases e2 : i = k
            · subst e2; rw [← hx, ← hy]; exact e
            · exact hsame.out i h1 h2 (by omega)
          clear hx hy
          subst e
          go_wp2_with fail
          go_quiet (fail)
          go_wp2_with fail
          go_roundw
          case rel => exact ⟨k + 1, _, by omega, by go_num, HS, rfl⟩
          case measure => simp [intOf]; omega
        · have HF : Hid (decide (la = lb) = false) := by
            rw [Hid, decide_eq_false_iff_not]
            intro h3
            subst h3
            exact e (hx.trans hy.symm)
          have z1 : (x == y) = false := beq_eq_false_iff_ne.2 e
          have z2 : (x != y) = true := by simp [e]
          clear hx hy e
          go_wp2_with fail
          go_quiet (fail)
          go_wp2_with fail
          go_ret
          exact ⟨_, ret_b HF.out, by rw [World.drewN_drewN]⟩
      · have HT : Hid (decide (la = lb) = true) := by
          rw [Hid, decide_eq_true_eq]
          exact same_step HL.out (fun i h1 h2 => hsame.out i h1 h2 (by omega))
        go_wp2_with fail
        go_ret
        exact ⟨q, ret_b HT.out, rfl⟩
  · have HF : Hid (decide (la = lb) = false) := by
      rw [Hid, decide_eq_false_iff_not]
      intro h3
      subst h3
      exact hl rfl
    have hz : ((la.length : Int) == (lb.length : Int)) = false := beq_eq_false_iff_ne.2 (by omega)
    have hz' : ((la.length : Int) != (lb.length : Int)) = true := by simp; omega
    clear hl
    go_enter Try.func21, Try.ntmps21
    go_wp2_with fail
    all_goals (go_ret; exact ⟨0, ret_b HF.out, rfl⟩)


end Go.Proofs.Ytmhhfljbocbolaa
