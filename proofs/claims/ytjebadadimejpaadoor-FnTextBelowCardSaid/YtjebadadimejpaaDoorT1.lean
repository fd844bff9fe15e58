/- The tree of a law as data: what the argument's memory holds; and the first walks over it. -/
import Derived.Test.YtjebadadimejpaaDoorRows
import Derived.WalkKit
import Derived.WalkSpells
import Derived.WalkLawsBesides
import Derived.Lib.Hide
namespace Go.Proofs.YtjebadadimejpaaDoor
open Go.RowKit

theorem bnext {a b c : World} (h : Below a.heap.size a b) (k : Below b.heap.size b c) : Below a.heap.size a c := h.trans (k.mono h.size)

theorem ret_b {x y : Bool} (h : x = y) : Ending.returned (.bool y) = .returned (.bool x) := by rw [h]

/-- An attribute, as data. -/
structure At2 where
  key : ByteArray
  val : ByteArray
deriving Inhabited

/-- A node of the list, as data; 'aa' and 'ac': where the slice of its attributes begins in memory, and its capacity. -/
structure Nd where
  kind : Int
  tag : ByteArray
  text : ByteArray
  aa : Option Addr
  ac : Nat
  attrs : List At2
  size : Int
deriving Inhabited

def ASl (w : World) (B : Nat) (a : Option Addr) (l : List At2) : Prop :=
  l.length ≤ maxLen ∧ (∀ x ∈ l, x.key.size ≤ maxLen ∧ x.val.size ≤ maxLen) ∧
    (l = [] ∨ ∃ b o, a = some ⟨b, o, none⟩ ∧ b < B ∧ ∀ i, i < l.length →
      w.cell? ⟨b, o + i * 2, none⟩ = some (.string (l.getD i default).key) ∧ w.cell? ⟨b, o + i * 2 + 1, none⟩ = some (.string (l.getD i default).val))

theorem ASl.below {w w' : World} {B : Nat} {a : Option Addr} {l : List At2} (h : ASl w B a l) (hb : Below B w w') : ASl w' B a l := by
  obtain ⟨hm, hs, hr⟩ := h
  refine ⟨hm, hs, ?_⟩
  rcases hr with h0 | ⟨b, o, ha, hbB, hc⟩
  · exact .inl h0
  · refine .inr ⟨b, o, ha, hbB, fun i hi => ?_⟩
    rw [hb.cell (p := ⟨b, _, none⟩) hbB, hb.cell (p := ⟨b, _, none⟩) hbB]
    exact hc i hi

theorem ASl.more {w : World} {B B' : Nat} {a : Option Addr} {l : List At2} (h : ASl w B a l) (hB : B ≤ B') : ASl w B' a l := by
  obtain ⟨hm, hs, hr⟩ := h
  refine ⟨hm, hs, ?_⟩
  rcases hr with h0 | ⟨b, o, ha, hbB, hc⟩
  · exact .inl h0
  · exact .inr ⟨b, o, ha, by omega, hc⟩

def fits4 (x : At2) : Bool := decide (x.key.size ≤ 2147483647) && decide (x.val.size ≤ 2147483647)
def fits3 (l : List At2) : Bool := decide (l.length ≤ 2147483647) && l.all fits4

set_option maxHeartbeats 400000 in
theorem zzFits4_any (x : At2) (w : World) (h1 : x.key.size ≤ maxLen) (h2 : x.val.size ≤ maxLen) :
    Calls Tryd.prog 28 #[.agg #[.string x.key, .string x.val]] w fun e w' => e = .returned (.bool (fits4 x)) ∧ Below w.heap.size w w' := by
  unfold maxLen at h1 h2
  by_cases a : 2147483647 < x.key.size
  · go_enter Tryd.func28, Tryd.ntmps28
    go_wp2
    go_ret
    exact ⟨by simp [fits4]; omega, (Below.refl _ _).alloc (Nat.le_refl _) _⟩
  · by_cases b : 2147483647 < x.val.size
    · go_enter Tryd.func28, Tryd.ntmps28
      go_wp2
      go_ret
      exact ⟨by simp [fits4]; omega, (Below.refl _ _).alloc (Nat.le_refl _) _⟩
    · go_enter Tryd.func28, Tryd.ntmps28
      go_wp2
      go_ret
      exact ⟨by simp [fits4]; omega, (Below.refl _ _).alloc (Nat.le_refl _) _⟩

set_option maxHeartbeats 400000 in
theorem zzFits3_any (a : Option Addr) (c : Nat) (l : List At2) (w : World) (h : ASl w w.heap.size a l) :
    Calls Tryd.prog 18 #[.slice a l.length c] w fun e w' => e = .returned (.bool (fits3 l)) ∧ Below w.heap.size w w' := by
  obtain ⟨hm, hs, hr⟩ := h
  unfold maxLen at hm
  by_cases hl : 2147483647 < l.length
  · go_enter Tryd.func18, Tryd.ntmps18
    go_wp2
    go_ret
    exact ⟨by simp [fits3]; omega, Below.refl _ _⟩
  · go_enter Tryd.func18, Tryd.ntmps18
    go_wp2
    go_loopw [10] (fun i wr => ∃ k : Nat, k ≤ l.length ∧ i = .int .i64 k ∧ (l.take k).all fits4 = true ∧ Below w.heap.size w wr) (fun i _ => l.length - (intOf i).toNat)
    case atStart => exact ⟨0, by omega, rfl, by simp, Below.refl _ _⟩
    case round =>
      obtain ⟨k, hk, rfl, hall, hb⟩ := hrel
      by_cases hlt : k < l.length
      · rcases hr with h0 | ⟨b, o, rfl, hbB, hc⟩
        · subst h0; simp at hlt
        · have h1 := (hb.cell (p := ⟨b, o + k * 2, none⟩) hbB).trans (hc k hlt).1
          have h2 := (hb.cell (p := ⟨b, o + k * 2 + 1, none⟩) hbB).trans (hc k hlt).2
          have hx := hs (l[k]) (List.getElem_mem hlt)
          have hall2 : (l.take (k + 1)).all fits4 = (fits4 l[k]) := by
            rw [List.take_succ_eq_append_getElem hlt, List.all_append, hall]; simp
          have HA : Hid ((l.take (k + 1)).all fits4 = (fits4 l[k])) := hall2
          clear hall2 hall hc
          cases hf : fits4 l[k]
          · have hno : fits3 l = false := by
              simp only [fits3, Bool.and_eq_false_iff]
              right
              rw [List.all_eq_false]
              exact ⟨l[k], List.getElem_mem hlt, by simp [hf]⟩
            have HN : Hid (fits3 l = false) := hno
            have HF : Hid (fits4 l[k] = false) := hf
            clear hno hf
            go_wp2_with (go_at_call 28; refine (zzFits4_any _ _ hx.1 hx.2).mono ?_; rintro e w1 ⟨rfl, hb1⟩; rw [HF.out])
            go_ret
            exact ⟨ret_b HN.out, hb.trans (((Below.refl _ _).alloc (Nat.le_refl _) _ |>.trans (hb1.mono (by simp))).mono hb.size)⟩
          · have HF : Hid (fits4 l[k] = true) := hf
            clear hf
            go_wp2_with (go_at_call 28; refine (zzFits4_any _ _ hx.1 hx.2).mono ?_; rintro e w1 ⟨rfl, hb1⟩; rw [HF.out])
            go_roundw
            case rel => exact ⟨k + 1, by omega, by go_num, by rw [HA.out, HF.out], hb.trans (((Below.refl _ _).alloc (Nat.le_refl _) _ |>.trans (hb1.mono (by simp))).mono hb.size)⟩
            case measure => simp [intOf]; omega
      · have hno : fits3 l = true := by
          have : k = l.length := by omega
          subst this
          simp only [List.take_length] at hall
          simp only [fits3, hall, Bool.and_true]
          simp; omega
        have HN : Hid (fits3 l = true) := hno
        clear hno hall
        go_wp2
        go_ret
        exact ⟨ret_b HN.out, hb⟩

/-- A node's own parts are as Go allows: the numbers fit, the texts are not longer than Go's int. -/
structure Nd.Ok (w : World) (B : Nat) (x : Nd) : Prop where
  kind : -9223372036854775808 ≤ x.kind ∧ x.kind ≤ 9223372036854775807
  size : -9223372036854775808 ≤ x.size ∧ x.size ≤ 9223372036854775807
  tag : x.tag.size ≤ maxLen
  text : x.text.size ≤ maxLen
  attrs : ASl w B x.aa x.attrs

theorem Nd.Ok.below {w w' : World} {B : Nat} {x : Nd} (h : x.Ok w B) (hb : Below B w w') : x.Ok w' B := ⟨h.kind, h.size, h.tag, h.text, h.attrs.below hb⟩

theorem Nd.Ok.more {w : World} {B B' : Nat} {x : Nd} (h : x.Ok w B) (hB : B ≤ B') : x.Ok w B' := ⟨h.kind, h.size, h.tag, h.text, h.attrs.more hB⟩

def fits2 (x : Nd) : Bool := decide (x.tag.size ≤ 2147483647) && decide (x.text.size ≤ 2147483647) && fits3 x.attrs
def fits1 (t : List Nd) : Bool := decide (t.length ≤ 2147483647) && t.all fits2

/-- The list of nodes lies in memory: below block B, a row of five cells a node. -/
def NSl (w : World) (B : Nat) (a : Option Addr) (t : List Nd) : Prop :=
  t.length ≤ maxLen ∧ (∀ x ∈ t, x.Ok w B) ∧
    (t = [] ∨ ∃ b o, a = some ⟨b, o, none⟩ ∧ b < B ∧ ∀ i, i < t.length →
      w.cell? ⟨b, o + i * 5, none⟩ = some (.int .i64 (t.getD i default).kind) ∧ w.cell? ⟨b, o + i * 5 + 1, none⟩ = some (.string (t.getD i default).tag) ∧
      w.cell? ⟨b, o + i * 5 + 2, none⟩ = some (.string (t.getD i default).text) ∧ w.cell? ⟨b, o + i * 5 + 3, none⟩ = some (.slice (t.getD i default).aa (t.getD i default).attrs.length (t.getD i default).ac) ∧
      w.cell? ⟨b, o + i * 5 + 4, none⟩ = some (.int .i64 (t.getD i default).size))

theorem NSl.below {w w' : World} {B : Nat} {a : Option Addr} {t : List Nd} (h : NSl w B a t) (hb : Below B w w') : NSl w' B a t := by
  obtain ⟨hm, hs, hr⟩ := h
  refine ⟨hm, fun x hx => (hs x hx).below hb, ?_⟩
  rcases hr with h0 | ⟨b, o, ha, hbB, hc⟩
  · exact .inl h0
  · refine .inr ⟨b, o, ha, hbB, fun i hi => ?_⟩
    rw [hb.cell (p := ⟨b, _, none⟩) hbB, hb.cell (p := ⟨b, _, none⟩) hbB, hb.cell (p := ⟨b, _, none⟩) hbB, hb.cell (p := ⟨b, _, none⟩) hbB, hb.cell (p := ⟨b, _, none⟩) hbB]
    exact hc i hi

/-- Where there is a place there are its five cells. -/
theorem NSl.at_ {w : World} {B : Nat} {a : Option Addr} {t : List Nd} (h : NSl w B a t) (h0 : 0 < t.length) :
    ∃ b o, a = some ⟨b, o, none⟩ ∧ b < B ∧ ∀ i (hi : i < t.length),
      w.cell? ⟨b, o + i * 5, none⟩ = some (.int .i64 t[i].kind) ∧ w.cell? ⟨b, o + i * 5 + 1, none⟩ = some (.string t[i].tag) ∧
      w.cell? ⟨b, o + i * 5 + 2, none⟩ = some (.string t[i].text) ∧ w.cell? ⟨b, o + i * 5 + 3, none⟩ = some (.slice t[i].aa t[i].attrs.length t[i].ac) ∧
      w.cell? ⟨b, o + i * 5 + 4, none⟩ = some (.int .i64 t[i].size) ∧ t[i].Ok w B := by
  obtain ⟨hm, hs, hr⟩ := h
  rcases hr with h1 | ⟨b, o, ha, hbB, hc⟩
  · subst h1; simp at h0
  · refine ⟨b, o, ha, hbB, fun i hi => ?_⟩
    have := hc i hi
    simp only [List.getD_eq_getElem?_getD, List.getElem?_eq_getElem hi, Option.getD_some] at this
    exact ⟨this.1, this.2.1, this.2.2.1, this.2.2.2.1, this.2.2.2.2, hs _ (List.getElem_mem hi)⟩

set_option maxHeartbeats 400000 in
theorem zzFits2_any (x : Nd) (w : World) (h : x.Ok w w.heap.size) :
    Calls Tryd.prog 11 #[.agg #[.int .i64 x.kind, .string x.tag, .string x.text, .slice x.aa x.attrs.length x.ac, .int .i64 x.size]] w fun e w' => e = .returned (.bool (fits2 x)) ∧ Below w.heap.size w w' := by
  have h1 := h.tag
  have h2 := h.text
  have h3 := h.attrs
  unfold maxLen at h1 h2
  by_cases a : 2147483647 < x.tag.size
  · go_enter Tryd.func11, Tryd.ntmps11
    go_wp2_with fail
    go_ret
    exact ⟨by simp [fits2]; omega, (Below.refl _ _).alloc (Nat.le_refl _) _⟩
  · by_cases b : 2147483647 < x.text.size
    · go_enter Tryd.func11, Tryd.ntmps11
      go_wp2_with fail
      go_ret
      exact ⟨by simp [fits2]; omega, (Below.refl _ _).alloc (Nat.le_refl _) _⟩
    · have hf : fits2 x = fits3 x.attrs := by simp [fits2]; omega
      cases hf3 : fits3 x.attrs
      all_goals
        have HF : Hid (fits3 x.attrs = _) := hf3
        have HG : Hid (fits2 x = _) := hf.trans hf3
        clear hf hf3
        go_enter Tryd.func11, Tryd.ntmps11
        go_wp2_with (go_at_call 18; refine (zzFits3_any _ _ x.attrs _ (ASl.more (h3.below ((Below.refl _ _).alloc (Nat.le_refl _) _)) (by simp))).mono ?_; rintro e w1 ⟨rfl, hb1⟩; rw [HF.out])
        go_ret
        exact ⟨ret_b HG.out, ((Below.refl _ _).alloc (Nat.le_refl _) _).trans (hb1.mono (by simp))⟩

set_option maxHeartbeats 400000 in
theorem zzFits1_any (a : Option Addr) (c : Nat) (t : List Nd) (w : World) (h : NSl w w.heap.size a t) :
    Calls Tryd.prog 4 #[.slice a t.length c] w fun e w' => e = .returned (.bool (fits1 t)) ∧ Below w.heap.size w w' := by
  have hm := h.1
  unfold maxLen at hm
  by_cases hl : 2147483647 < t.length
  · go_enter Tryd.func4, Tryd.ntmps4
    go_wp2_with fail
    go_ret
    exact ⟨by simp [fits1]; omega, Below.refl _ _⟩
  · go_enter Tryd.func4, Tryd.ntmps4
    go_wp2_with fail
    go_loopw [10] (fun i wr => ∃ k : Nat, k ≤ t.length ∧ i = .int .i64 k ∧ (t.take k).all fits2 = true ∧ Below w.heap.size w wr) (fun i _ => t.length - (intOf i).toNat)
    case atStart => exact ⟨0, by omega, rfl, by simp, Below.refl _ _⟩
    case round =>
      obtain ⟨k, hk, rfl, hall, hb⟩ := hrel
      by_cases hlt : k < t.length
      · obtain ⟨b, o, rfl, hbB, hc⟩ := h.at_ (by omega)
        obtain ⟨h1, h2, h3, h4, h5, hok⟩ := hc k hlt
        replace h1 := (hb.cell (p := ⟨b, _, none⟩) hbB).trans h1
        replace h2 := (hb.cell (p := ⟨b, _, none⟩) hbB).trans h2
        replace h3 := (hb.cell (p := ⟨b, _, none⟩) hbB).trans h3
        replace h4 := (hb.cell (p := ⟨b, _, none⟩) hbB).trans h4
        replace h5 := (hb.cell (p := ⟨b, _, none⟩) hbB).trans h5
        have hok1 := (hok.below hb).more hb.size
        have hok2 : ∀ O, Nd.Ok (wr.alloc O) (wr.alloc O).heap.size t[k] := fun O => (hok1.below ((Below.refl _ _).alloc (Nat.le_refl _) O)).more (by simp)
        have HO := Lib.hid hok2
        have HA : Hid ((t.take (k + 1)).all fits2 = (fits2 t[k])) := by
          unfold Hid; rw [List.take_succ_eq_append_getElem hlt, List.all_append, hall]; simp
        clear hall hc hok1 hok2 h
        cases hf : fits2 t[k]
        · have HN : Hid (fits1 t = false) := by
            simp only [Hid, fits1, Bool.and_eq_false_iff]
            right
            rw [List.all_eq_false]
            exact ⟨t[k], List.getElem_mem hlt, by simp [hf]⟩
          have HF : Hid (fits2 t[k] = false) := hf
          clear hf
          go_wp2_with (go_at_call 11; refine (zzFits2_any _ _ (HO.out _)).mono ?_; rintro e w1 ⟨rfl, hb1⟩; rw [HF.out])
          go_ret
          exact ⟨ret_b HN.out, hb.trans (((Below.refl _ _).alloc (Nat.le_refl _) _ |>.trans (hb1.mono (by simp))).mono hb.size)⟩
        · have HF : Hid (fits2 t[k] = true) := hf
          clear hf
          go_wp2_with (go_at_call 11; refine (zzFits2_any _ _ (HO.out _)).mono ?_; rintro e w1 ⟨rfl, hb1⟩; rw [HF.out])
          go_roundw
          case rel => exact ⟨k + 1, by omega, by go_num, by rw [HA.out, HF.out], hb.trans (((Below.refl _ _).alloc (Nat.le_refl _) _ |>.trans (hb1.mono (by simp))).mono hb.size)⟩
          case measure => simp [intOf]; omega
      · have HN : Hid (fits1 t = true) := by
          have : k = t.length := by omega
          subst this
          simp only [List.take_length] at hall
          simp only [Hid, fits1, hall, Bool.and_true]
          simp; omega
        clear hall
        go_wp2_with fail
        go_ret
        exact ⟨ret_b HN.out, hb⟩
end Go.Proofs.YtjebadadimejpaaDoor
