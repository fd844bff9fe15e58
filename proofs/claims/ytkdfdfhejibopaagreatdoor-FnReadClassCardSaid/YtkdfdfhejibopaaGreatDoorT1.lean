/- The tree of a law as data: what the argument's memory holds; and the first walks over it. -/
import Derived.Test.YtkdfdfhejibopaaGreatDoorRows
import Derived.WalkKit
import Derived.WalkSpells
import Derived.WalkLawsBesides
import Derived.Lib.Hide
namespace Go.Proofs.YtkdfdfhejibopaaGreatDoor
open Go.RowKit

theorem bnext {a b c : World} (h : Below a.heap.size a b) (k : Below b.heap.size b c) : Below a.heap.size a c := h.trans (k.mono h.size)

theorem ret_b {x y : Bool} (h : x = y) : Ending.returned (.bool y) = .returned (.bool x) := by rw [h]

/-- An attribute, as data. -/
structure At2 where
  key : ByteArray
  val : ByteArray
deriving Inhabited

/-- A node of the list, as data; 'aa' and 'ac': where the slice of its attributes begins in memory, and its capacity. -/
structure Nd where
  kind : Int
  tag : ByteArray
  text : ByteArray
  aa : Option Addr
  ac : Nat
  attrs : List At2
  size : Int
deriving Inhabited

def ASl (w : World) (B : Nat) (a : Option Addr) (l : List At2) : Prop :=
  l.length ≤ maxLen ∧ (∀ x ∈ l, x.key.size ≤ maxLen ∧ x.val.size ≤ maxLen) ∧
    (l = [] ∨ ∃ b o, a = some ⟨b, o, none⟩ ∧ b < B ∧ ∀ i, i < l.length →
      w.cell? ⟨b, o + i * 2, none⟩ = some (.string (l.getD i default).key) ∧ w.cell? ⟨b, o + i * 2 + 1, none⟩ = some (.string (l.getD i default).val))

theorem ASl.below {w w' : World} {B : Nat} {a : Option Addr} {l : List At2} (h : ASl w B a l) (hb : Below B w w') : ASl w' B a l := by
  obtain ⟨hm, hs, hr⟩ := h
  refine ⟨hm, hs, ?_⟩
  rcases hr with h0 | ⟨b, o, ha, hbB, hc⟩
  · exact .inl h0
  · refine .inr ⟨b, o, ha, hbB, fun i hi => ?_⟩
    rw [hb.cell (p := ⟨b, _, none⟩) hbB, hb.cell (p := ⟨b, _, none⟩) hbB]
    exact hc i hi

theorem ASl.more {w : World} {B B' : Nat} {a : Option Addr} {l : List At2} (h : ASl w B a l) (hB : B ≤ B') : ASl w B' a l := by
  obtain ⟨hm, hs, hr⟩ := h
  refine ⟨hm, hs, ?_⟩
  rcases hr with h0 | ⟨b, o, ha, hbB, hc⟩
  · exact .inl h0
  · exact .inr ⟨b, o, ha, by omega, hc⟩

def fits4 (x : At2) : Bool := decide (x.key.size ≤ 2147483647) && decide (x.val.size ≤ 2147483647)
def fits3 (l : List At2) : Bool := decide (l.length ≤ 2147483647) && l.all fits4

/-- A node's own parts are as Go allows: the numbers fit, the texts are not longer than Go's int. -/
structure Nd.Ok (w : World) (B : Nat) (x : Nd) : Prop where
  kind : -9223372036854775808 ≤ x.kind ∧ x.kind ≤ 9223372036854775807
  size : -9223372036854775808 ≤ x.size ∧ x.size ≤ 9223372036854775807
  tag : x.tag.size ≤ maxLen
  text : x.text.size ≤ maxLen
  attrs : ASl w B x.aa x.attrs

theorem Nd.Ok.below {w w' : World} {B : Nat} {x : Nd} (h : x.Ok w B) (hb : Below B w w') : x.Ok w' B := ⟨h.kind, h.size, h.tag, h.text, h.attrs.below hb⟩

theorem Nd.Ok.more {w : World} {B B' : Nat} {x : Nd} (h : x.Ok w B) (hB : B ≤ B') : x.Ok w B' := ⟨h.kind, h.size, h.tag, h.text, h.attrs.more hB⟩

def fits2 (x : Nd) : Bool := decide (x.tag.size ≤ 2147483647) && decide (x.text.size ≤ 2147483647) && fits3 x.attrs
def fits1 (t : List Nd) : Bool := decide (t.length ≤ 2147483647) && t.all fits2

/-- The list of nodes lies in memory: below block B, a row of five cells a node. -/
def NSl (w : World) (B : Nat) (a : Option Addr) (t : List Nd) : Prop :=
  t.length ≤ maxLen ∧ (∀ x ∈ t, x.Ok w B) ∧
    (t = [] ∨ ∃ b o, a = some ⟨b, o, none⟩ ∧ b < B ∧ ∀ i, i < t.length →
      w.cell? ⟨b, o + i * 5, none⟩ = some (.int .i64 (t.getD i default).kind) ∧ w.cell? ⟨b, o + i * 5 + 1, none⟩ = some (.string (t.getD i default).tag) ∧
      w.cell? ⟨b, o + i * 5 + 2, none⟩ = some (.string (t.getD i default).text) ∧ w.cell? ⟨b, o + i * 5 + 3, none⟩ = some (.slice (t.getD i default).aa (t.getD i default).attrs.length (t.getD i default).ac) ∧
      w.cell? ⟨b, o + i * 5 + 4, none⟩ = some (.int .i64 (t.getD i default).size))

theorem NSl.below {w w' : World} {B : Nat} {a : Option Addr} {t : List Nd} (h : NSl w B a t) (hb : Below B w w') : NSl w' B a t := by
  obtain ⟨hm, hs, hr⟩ := h
  refine ⟨hm, fun x hx => (hs x hx).below hb, ?_⟩
  rcases hr with h0 | ⟨b, o, ha, hbB, hc⟩
  · exact .inl h0
  · refine .inr ⟨b, o, ha, hbB, fun i hi => ?_⟩
    rw [hb.cell (p := ⟨b, _, none⟩) hbB, hb.cell (p := ⟨b, _, none⟩) hbB, hb.cell (p := ⟨b, _, none⟩) hbB, hb.cell (p := ⟨b, _, none⟩) hbB, hb.cell (p := ⟨b, _, none⟩) hbB]
    exact hc i hi

/-- Where there is a place there are its five cells. -/
theorem NSl.at_ {w : World} {B : Nat} {a : Option Addr} {t : List Nd} (h : NSl w B a t) (h0 : 0 < t.length) :
    ∃ b o, a = some ⟨b, o, none⟩ ∧ b < B ∧ ∀ i (hi : i < t.length),
      w.cell? ⟨b, o + i * 5, none⟩ = some (.int .i64 t[i].kind) ∧ w.cell? ⟨b, o + i * 5 + 1, none⟩ = some (.string t[i].tag) ∧
      w.cell? ⟨b, o + i * 5 + 2, none⟩ = some (.string t[i].text) ∧ w.cell? ⟨b, o + i * 5 + 3, none⟩ = some (.slice t[i].aa t[i].attrs.length t[i].ac) ∧
      w.cell? ⟨b, o + i * 5 + 4, none⟩ = some (.int .i64 t[i].size) ∧ t[i].Ok w B := by
  obtain ⟨hm, hs, hr⟩ := h
  rcases hr with h1 | ⟨b, o, ha, hbB, hc⟩
  · subst h1; simp at h0
  · refine ⟨b, o, ha, hbB, fun i hi => ?_⟩
    have := hc i hi
    simp only [List.getD_eq_getElem?_getD, List.getElem?_eq_getElem hi, Option.getD_some] at this
    exact ⟨this.1, this.2.1, this.2.2.1, this.2.2.2.1, this.2.2.2.2, hs _ (List.getElem_mem hi)⟩

end Go.Proofs.YtkdfdfhejibopaaGreatDoor
