/- Lists of texts as arguments; 'brother': one of some elements with one parent. -/
import Derived.Test.YtgilbckfkngaiaaT157
import Derived.Test.YtgilbckfkngaiaaT83
import Derived.Test.YtgilbckfkngaiaaT3
namespace Go.Proofs.Ytgilbckfkngaiaa
open Go.RowKit
set_option linter.unusedVariables false

/-- A list of texts in memory. -/
def SSl (w : World) (B : Nat) (a : Option Addr) (l : List ByteArray) : Prop :=
  l.length ≤ maxLen ∧ (∀ x ∈ l, x.size ≤ maxLen) ∧
    (l = [] ∨ ∃ b o, a = some ⟨b, o, none⟩ ∧ b < B ∧ ∀ i (h : i < l.length), w.cell? ⟨b, o + i, none⟩ = some (.string l[i]))
theorem SSl.below {w w' : World} {B : Nat} {a : Option Addr} {l : List ByteArray} (h : SSl w B a l) (hb : Below B w w') : SSl w' B a l := by
  obtain ⟨hm, hs, hr⟩ := h
  refine ⟨hm, hs, ?_⟩
  rcases hr with h0 | ⟨b, o, ha, hbB, hc⟩
  · exact .inl h0
  · exact .inr ⟨b, o, ha, hbB, fun i hi => (hb.cell (p := ⟨b, _, none⟩) hbB).trans (hc i hi)⟩
theorem SSl.more {w : World} {B B' : Nat} {a : Option Addr} {l : List ByteArray} (h : SSl w B a l) (hB : B ≤ B') : SSl w B' a l := by
  obtain ⟨hm, hs, hr⟩ := h
  refine ⟨hm, hs, ?_⟩
  rcases hr with h0 | ⟨b, o, ha, hbB, hc⟩
  · exact .inl h0
  · exact .inr ⟨b, o, ha, by omega, hc⟩
theorem SSl.next {w w' : World} {a : Option Addr} {l : List ByteArray} (h : SSl w w.heap.size a l) (hb : Below w.heap.size w w') : SSl w' w'.heap.size a l := (h.below hb).more hb.size
theorem SSl.at_ {w : World} {B : Nat} {a : Option Addr} {l : List ByteArray} (h : SSl w B a l) (hn : 0 < l.length) : ∃ b o, a = some ⟨b, o, none⟩ ∧ b < B ∧ ∀ i (h : i < l.length), w.cell? ⟨b, o + i, none⟩ = some (.string l[i]) :=
  h.2.2.resolve_left (fun h0 => by rw [h0] at hn; simp at hn)
def strB (l : List ByteArray) : List Value := l.map .string
theorem strB_snoc (l : List ByteArray) (x : ByteArray) : strB (l ++ [x]) = strB l ++ [.string x] := by simp [strB]
theorem ssl_own {w : World} {B : Nat} {a : Option Addr} {c : Nat} {l : List ByteArray} (h : w.ownsRow B 9 1 (.slice a l.length c) l.length (strB l)) (hm : l.length ≤ maxLen) (hs : ∀ x ∈ l, x.size ≤ maxLen) : SSl w w.heap.size a l := by
  refine ⟨hm, hs, ?_⟩
  rcases h.2 with ⟨_, h0⟩ | ⟨g, cap, cur, hv, _⟩
  · exact .inl (List.eq_nil_of_length_eq_zero h0)
  · cases hv
    refine .inr ⟨g, 0, rfl, (h.lt g rfl).2, fun i hi => ?_⟩
    have g0 := h.cells (g := g) rfl i (.string l[i]) (by simp [strB, hi])
    rw [Addr.add_lit] at g0
    exact g0

def SomeLe (P : Prop) (w : World) (e : Ending) (w' : World) : Prop := ∃ b, e = .returned (.bool b) ∧ (b = true → P) ∧ Below w.heap.size w w'

set_option maxHeartbeats 1000000 in
theorem zzFits8_any (a : Option Addr) (c : Nat) (l : List ByteArray) (w : World) (h : SSl w w.heap.size a l) :
    Calls Try.prog 21 #[.slice a l.length c] w (SomeLe (l.length ≤ 2147483647 ∧ ∀ x ∈ l, x.size ≤ 2147483647) w) := by
  have hm := h.1
  unfold maxLen at hm
  have HS := Lib.hid h
  clear h
  by_cases hl : 2147483647 < l.length
  · go_enter Try.func21, Try.ntmps21
    go_wp2_with fail
    go_ret
    exact ⟨false, rfl, by simp, Below.refl _ _⟩
  go_enter Try.func21, Try.ntmps21
  go_wp2_with fail
  go_loopw [10] (fun x wr => ∃ k : Nat, k ≤ l.length ∧ x = .int .i64 k ∧ Hid (∀ i (h : i < l.length), i < k → l[i].size ≤ 2147483647) ∧ w = wr) (fun x _ => l.length - (intOf x).toNat)
  case atStart => exact ⟨0, by omega, rfl, (fun _ _ h => by omega), rfl⟩
  case round =>
    obtain ⟨k, hk, rfl, hno, rfl⟩ := hrel
    by_cases hlt : k < l.length
    · obtain ⟨b, o, rfl, hbB, hc⟩ := HS.out.at_ (by omega)
      have g1 := hc k hlt
      have hsz := HS.out.2.1 _ (List.getElem_mem hlt)
      unfold maxLen at hsz
      obtain ⟨y, hy⟩ : ∃ y, y = l[k] := ⟨_, rfl⟩
      rw [← hy] at g1 hsz
      have HY := Lib.hid hy
      clear hc hy
      by_cases h2 : 2147483647 < y.size
      · go_wp2_with fail
        go_ret
        exact ⟨false, rfl, by simp, Below.refl _ _⟩
      · go_wp2_with fail
        go_roundw
        case rel =>
          refine ⟨k + 1, by omega, by go_num, (fun i hi hik => ?_), by trivial⟩
          by_cases e : i = k
          · subst e; rw [← HY.out]; omega
          · exact hno.out i hi (by omega)
        case measure => simp [intOf]; omega
    · go_wp2_with fail
      go_ret
      refine ⟨true, rfl, fun _ => ⟨by omega, fun x hx => ?_⟩, Below.refl _ _⟩
      obtain ⟨i, hi, rfl⟩ := List.getElem_of_mem hx
      exact hno.out i hi (by omega)

set_option maxHeartbeats 1000000 in
theorem countable_any (a : Option Addr) (c : Nat) (l : List ByteArray) (at_ : Int) (w : World) (h : SSl w w.heap.size a l) (hs : ∀ x ∈ l, x.size ≤ 2147483647) (hn : l.length ≤ 2147483647) (hat : -9223372036854775808 ≤ at_ ∧ at_ ≤ 9223372036854775807) :
    Calls Try.prog 22 #[.slice a l.length c, .int .i64 at_] w (SomeLe (l.length ≤ 200 ∧ 0 ≤ at_ ∧ at_ < l.length) w) := by
  have HS := Lib.hid h
  have HZ := Lib.hid hs
  clear h hs
  by_cases c1 : 200 < l.length
  · go_enter Try.func22, Try.ntmps22
    go_wp2_with fail
    go_ret
    exact ⟨false, rfl, by simp, Below.refl _ _⟩
  by_cases c2 : at_ < 0
  · go_enter Try.func22, Try.ntmps22
    go_wp2_with fail
    go_ret
    exact ⟨false, rfl, by simp, Below.refl _ _⟩
  by_cases c3 : (l.length : Int) ≤ at_
  · go_enter Try.func22, Try.ntmps22
    go_wp2_with fail
    go_ret
    exact ⟨false, rfl, by simp, Below.refl _ _⟩
  go_enter Try.func22, Try.ntmps22
  go_wp2_with fail
  go_loopw [5] (fun x wr => ∃ k : Nat, k ≤ l.length ∧ x = .int .i64 k ∧ w = wr) (fun x _ => l.length - (intOf x).toNat)
  case atStart => exact ⟨0, by omega, rfl, rfl⟩
  case round =>
    obtain ⟨k, hk, rfl, rfl⟩ := hrel
    by_cases hlt : k < l.length
    · obtain ⟨b, o, rfl, hbB, hc⟩ := HS.out.at_ (by omega)
      have g1 := hc k hlt
      have hsz := HZ.out _ (List.getElem_mem hlt)
      obtain ⟨y, hy⟩ : ∃ y, y = l[k] := ⟨_, rfl⟩
      rw [← hy] at g1 hsz
      clear hc hy
      go_wp2_with fail
      refine (name_any _ _ hsz).mono ?_
      rintro e w1 ⟨r1, rfl, rfl⟩
      cases r1
      · go_wp2_with fail
        go_ret
        exact ⟨false, rfl, by simp, Below.refl _ _⟩
      · go_wp2_with fail
        go_roundw
        case rel => exact ⟨k + 1, by omega, by go_num, by trivial⟩
        case measure => simp [intOf]; omega
    · go_wp2_with fail
      go_ret
      exact ⟨true, rfl, fun _ => ⟨by omega, by omega, by omega⟩, Below.refl _ _⟩

def BroPost (N : List ByteArray) (a : Nat) (w : World) (e : Ending) (w' : World) : Prop :=
  ∃ bl st, e = .returned (.pointer (some ⟨bl (a + 1), 0, none⟩)) ∧ Dom w' w.heap.size (fun i => 0 ≤ i ∧ i < N.length + 1) bl st ∧ Bro N st ∧ Below w.heap.size w w'
def BroRel (N : List ByteArray) (a : Nat) (w : World) (x y : Value) (wr : World) : Prop :=
  ∃ (k : Nat) (bl : Nat → Nat) (st : Nat → Dn), k ≤ N.length ∧ y = .int .i64 k ∧ x = .pointer (if a < k then some ⟨bl (a + 1), 0, none⟩ else none) ∧ bl 0 = w.heap.size ∧
    Dom wr w.heap.size (fun i => 0 ≤ i ∧ i < k + 1) bl st ∧ Kin (broT N) 0 (k + 1) st ∧ Below w.heap.size w wr

theorem only_below {S : Nat → Prop} {bl : Nat → Nat} {w w' : World} {B : Nat} (h : Only S bl w w') (hb : ∀ i, S i → B ≤ bl i) (hB : B ≤ w.heap.size) : Below B w w' :=
  ⟨h.os, h.tape, h.output, by rw [h.size]; exact Nat.le_refl _, fun k hk => h.block k (fun i hi e => by have := hb i hi; omega)⟩

set_option maxRecDepth 100000 in
set_option maxHeartbeats 2000000 in
theorem brother_any (ad : Option Addr) (c : Nat) (N : List ByteArray) (a : Nat) (ha : a < N.length) (hn : N.length ≤ 200) (w : World) (h : SSl w w.heap.size ad N) :
    Calls Try.prog 105 #[.slice ad N.length c, .int .i64 a] w (BroPost N a w) := by
  have HS := Lib.hid h
  clear h
  go_enter Try.func105, Try.ntmps105
  go_wp2_with fail
  go_loopw [6, 14] (fun x y wr => BroRel N a w x y wr) (fun _ y _ => N.length - (intOf y).toNat)
  case atStart =>
    refine ⟨0, fun _ => w.heap.size, fun _ => ⟨none, none, none, none, none, 3, ⟨#[]⟩, []⟩, by omega, rfl, by simp, rfl, ⟨fun i hi => ⟨Nat.le_refl _, none, 0, ?_, World.ownsRow_nil _ _ _ _⟩, fun i j hi hj _ => by omega⟩, kin_one _ 0 _ ⟨rfl, rfl, rfl⟩ rfl rfl rfl rfl rfl, (Below.refl _ _).alloc (Nat.le_refl _) _⟩
    rw [heap_alloc_new]
    rfl
  case round =>
    obtain ⟨k, bl, st, hk, rfl, rfl, hbl, hD, hK, hb⟩ := hrel
    by_cases hlt : k < N.length
    · obtain ⟨b, o, rfl, hbB, hc⟩ := (HS.out.below hb).at_ (by omega)
      have g1 := hc k hlt
      obtain ⟨y, hy⟩ : ∃ y, y = N[k] := ⟨_, rfl⟩
      rw [← hy] at g1
      have hsz := hb.size
      obtain ⟨p6, hp6⟩ : ∃ p : Option Addr, p = if a < k then some ⟨bl (a + 1), 0, none⟩ else none := ⟨_, rfl⟩
      rw [← hp6]
      have HP6 := Lib.hid hp6
      clear hp6
      have hD1 : Dom (wr.alloc (.cells #[.pointer none, .pointer none, .pointer none, .pointer none, .pointer none, .int .u32 3, .int .u32 0, .string y, .string ⟨#[]⟩, .slice none 0 0] 121)) w.heap.size (fun i => 0 ≤ i ∧ i < k + 2) (joinF (k + 1) bl fun _ => wr.heap.size) (joinF (k + 1) st fun _ => ⟨none, none, none, none, none, 3, y, []⟩) := by
        have hK2 : Kin (broT N) (k + 1) (k + 1 + 1) (fun _ => ⟨none, none, none, none, none, 3, y, []⟩) := kin_one _ (k + 1) _ ⟨by rw [broT_kid hlt]; rfl, by rw [broT_kid hlt, ← hy]; rfl, by rw [broT_kid hlt]; rfl⟩ rfl rfl rfl rfl rfl
        refine Dom.join (by omega) (hD.kept (fun q _ hq => Below.heap_alloc _ _ _ hq)) (B2 := wr.heap.size) (k' := k + 2) ⟨fun i hi => ⟨Nat.le_refl _, none, 0, ?_, World.ownsRow_nil _ _ _ _⟩, fun i j hi hj _ => by omega⟩ hsz (fun i hi1 hi2 => hD.lt ⟨hi1, hi2⟩) (kin_in (broT_lam N _ (by omega)) hK) (kin_in (Lam.empty _ _) hK2)
        rw [heap_alloc_new]
        rfl
      have hK3 : Kin (broT N) 0 (k + 2) (appSt (joinF (k + 1) st fun _ => ⟨none, none, none, none, none, 3, y, []⟩) 0 (k + 1)) := by
        refine bro_step (by omega) (by omega) hK (kin_one _ (k + 1) _ ⟨by rw [broT_kid hlt]; rfl, by rw [broT_kid hlt, ← hy]; rfl, by rw [broT_kid hlt]; rfl⟩ rfl rfl rfl rfl rfl)
      have hA := append_any _ w.heap.size (fun i => 0 ≤ i ∧ i < k + 2) _ _ hD1 0 (k + 1) ⟨by omega, by omega⟩ ⟨by omega, by omega⟩ (by omega)
        (by rw [joinF_hi (Nat.le_refl _)]) (by rw [joinF_hi (Nat.le_refl _)]) (by rw [joinF_hi (Nat.le_refl _)])
        (fun q hq => by
          rw [joinF_lo (by omega)] at hq
          have h2 := (hK 0 (by omega) (by omega)).1
          by_cases h1 : 1 < extK (broT N) 0 (k + 1) 0
          · obtain ⟨m, m1, m2, _⟩ := h2.lst1 h1
            rw [m1] at hq; cases hq
            have h3 := m2.2.1
            have h4 := m2.2.2.1
            rw [extK_root] at h4
            exact ⟨⟨by omega, by omega⟩, by omega, by omega⟩
          · rw [h2.lst0 h1] at hq; cases hq)
      rw [joinF_lo (by omega), joinF_hi (Nat.le_refl _), hbl] at hA
      have HA := Lib.hid hA
      have HD1 := Lib.hid hD1
      have HK3 := Lib.hid hK3
      have HB := Lib.hid hb
      clear hA hD1 hK3 hc hy hD hK hb
      have z1 : ((k : Int) == (a : Int)) = decide (k = a) := by rw [Bool.eq_iff_iff, beq_iff_eq, decide_eq_true_eq]; omega
      go_wp2_with fail
      refine HA.out.mono ?_
      rintro e w2 ⟨rfl, hD2, hO⟩
      have HD2 := Lib.hid hD2
      have HB2 : Hid (Below w.heap.size w w2) := (HB.out.alloc HB.out.size _).trans (only_below hO (fun i hi => (HD1.out.node i hi).1) (by simp; omega))
      clear hD2 hO
      by_cases hka : k = a
      · subst hka
        simp only [decide_true] at z1
        go_wp2_with fail
        go_roundw
        case rel =>
          refine ⟨k + 1, _, _, by omega, by go_num, ?_, ?_, HD2.out, HK3.out, HB2.out⟩
          · rw [if_pos (by omega), joinF_hi (Nat.le_refl _)]
          · rw [joinF_lo (by omega)]; exact hbl
        case measure => simp [intOf]; omega
      · rw [decide_eq_false hka] at z1
        go_wp2_with fail
        go_roundw
        case rel =>
          refine ⟨k + 1, _, _, by omega, by go_num, ?_, ?_, HD2.out, HK3.out, HB2.out⟩
          · rw [HP6.out]
            by_cases e : a < k
            · rw [if_pos e, if_pos (by omega), joinF_lo (by omega)]
            · rw [if_neg e, if_neg (by omega)]
          · rw [joinF_lo (by omega)]; exact hbl
        case measure => simp [intOf]; omega
    · have e : k = N.length := by omega
      subst e
      have HD := Lib.hid hD
      have HK := Lib.hid hK
      have HB := Lib.hid hb
      clear hD hK hb
      rw [if_pos ha]
      go_wp2_with fail
      go_ret
      exact ⟨bl, st, rfl, HD.out, bro_kin (by omega) HK.out, HB.out⟩
end Go.Proofs.Ytgilbckfkngaiaa
