/- FnSpecificWhole: texts joined (joinf.py) -/
import Derived.Test.YtnibpdmbccfgoaaGreatDoorRows
import Derived.WalkKit
import Derived.WalkSpells
import Derived.WalkLawsBesides
import Derived.Lib.Hide
import Derived.Laws.RangeAny
import Derived.Deep.LoopGhost
import Derived.Deep.DeepCutAuto
import Derived.Deep.CutBlock
import Derived.Laws.AppendOwn
import Derived.Laws.OwnMore
import Derived.Maps.AppendAt
import Derived.IntWalk
namespace Go.Proofs.YtnibpdmbccfgoaaGreatDoor
open Go.RowKit

theorem bnext {a b c : World} (h : Below a.heap.size a b) (k : Below b.heap.size b c) : Below a.heap.size a c := h.trans (k.mono h.size)

theorem ret_b {x y : Bool} (h : x = y) : Ending.returned (.bool y) = .returned (.bool x) := by rw [h]

/-- An attribute, as data. -/
structure At2 where
  key : ByteArray
  val : ByteArray
deriving Inhabited

/-- A node of the list, as data; 'aa' and 'ac': where the slice of its attributes begins in memory, and its capacity. -/
structure Nd where
  kind : Int
  tag : ByteArray
  text : ByteArray
  aa : Option Addr
  ac : Nat
  attrs : List At2
  size : Int
deriving Inhabited

def ASl (w : World) (B : Nat) (a : Option Addr) (l : List At2) : Prop :=
  l.length ≤ maxLen ∧ (∀ x ∈ l, x.key.size ≤ maxLen ∧ x.val.size ≤ maxLen) ∧
    (l = [] ∨ ∃ b o, a = some ⟨b, o, none⟩ ∧ b < B ∧ ∀ i, i < l.length →
      w.cell? ⟨b, o + i * 2, none⟩ = some (.string (l.getD i default).key) ∧ w.cell? ⟨b, o + i * 2 + 1, none⟩ = some (.string (l.getD i default).val))

theorem ASl.below {w w' : World} {B : Nat} {a : Option Addr} {l : List At2} (h : ASl w B a l) (hb : Below B w w') : ASl w' B a l := by
  obtain ⟨hm, hs, hr⟩ := h
  refine ⟨hm, hs, ?_⟩
  rcases hr with h0 | ⟨b, o, ha, hbB, hc⟩
  · exact .inl h0
  · refine .inr ⟨b, o, ha, hbB, fun i hi => ?_⟩
    rw [hb.cell (p := ⟨b, _, none⟩) hbB, hb.cell (p := ⟨b, _, none⟩) hbB]
    exact hc i hi

theorem ASl.more {w : World} {B B' : Nat} {a : Option Addr} {l : List At2} (h : ASl w B a l) (hB : B ≤ B') : ASl w B' a l := by
  obtain ⟨hm, hs, hr⟩ := h
  refine ⟨hm, hs, ?_⟩
  rcases hr with h0 | ⟨b, o, ha, hbB, hc⟩
  · exact .inl h0
  · exact .inr ⟨b, o, ha, by omega, hc⟩

def fits4 (x : At2) : Bool := decide (x.key.size ≤ 2147483647) && decide (x.val.size ≤ 2147483647)
def fits3 (l : List At2) : Bool := decide (l.length ≤ 2147483647) && l.all fits4

/-- A node's own parts are as Go allows: the numbers fit, the texts are not longer than Go's int. -/
structure Nd.Ok (w : World) (B : Nat) (x : Nd) : Prop where
  kind : -9223372036854775808 ≤ x.kind ∧ x.kind ≤ 9223372036854775807
  size : -9223372036854775808 ≤ x.size ∧ x.size ≤ 9223372036854775807
  tag : x.tag.size ≤ maxLen
  text : x.text.size ≤ maxLen
  attrs : ASl w B x.aa x.attrs

theorem Nd.Ok.below {w w' : World} {B : Nat} {x : Nd} (h : x.Ok w B) (hb : Below B w w') : x.Ok w' B := ⟨h.kind, h.size, h.tag, h.text, h.attrs.below hb⟩

theorem Nd.Ok.more {w : World} {B B' : Nat} {x : Nd} (h : x.Ok w B) (hB : B ≤ B') : x.Ok w B' := ⟨h.kind, h.size, h.tag, h.text, h.attrs.more hB⟩

def fits2 (x : Nd) : Bool := decide (x.tag.size ≤ 2147483647) && decide (x.text.size ≤ 2147483647) && fits3 x.attrs
def fits1 (t : List Nd) : Bool := decide (t.length ≤ 2147483647) && t.all fits2

/-- The list of nodes lies in memory: below block B, a row of five cells a node. -/
def NSl (w : World) (B : Nat) (a : Option Addr) (t : List Nd) : Prop :=
  t.length ≤ maxLen ∧ (∀ x ∈ t, x.Ok w B) ∧
    (t = [] ∨ ∃ b o, a = some ⟨b, o, none⟩ ∧ b < B ∧ ∀ i, i < t.length →
      w.cell? ⟨b, o + i * 5, none⟩ = some (.int .i64 (t.getD i default).kind) ∧ w.cell? ⟨b, o + i * 5 + 1, none⟩ = some (.string (t.getD i default).tag) ∧
      w.cell? ⟨b, o + i * 5 + 2, none⟩ = some (.string (t.getD i default).text) ∧ w.cell? ⟨b, o + i * 5 + 3, none⟩ = some (.slice (t.getD i default).aa (t.getD i default).attrs.length (t.getD i default).ac) ∧
      w.cell? ⟨b, o + i * 5 + 4, none⟩ = some (.int .i64 (t.getD i default).size))

theorem NSl.below {w w' : World} {B : Nat} {a : Option Addr} {t : List Nd} (h : NSl w B a t) (hb : Below B w w') : NSl w' B a t := by
  obtain ⟨hm, hs, hr⟩ := h
  refine ⟨hm, fun x hx => (hs x hx).below hb, ?_⟩
  rcases hr with h0 | ⟨b, o, ha, hbB, hc⟩
  · exact .inl h0
  · refine .inr ⟨b, o, ha, hbB, fun i hi => ?_⟩
    rw [hb.cell (p := ⟨b, _, none⟩) hbB, hb.cell (p := ⟨b, _, none⟩) hbB, hb.cell (p := ⟨b, _, none⟩) hbB, hb.cell (p := ⟨b, _, none⟩) hbB, hb.cell (p := ⟨b, _, none⟩) hbB]
    exact hc i hi

/-- Where there is a place there are its five cells. -/
theorem NSl.at_ {w : World} {B : Nat} {a : Option Addr} {t : List Nd} (h : NSl w B a t) (h0 : 0 < t.length) :
    ∃ b o, a = some ⟨b, o, none⟩ ∧ b < B ∧ ∀ i (hi : i < t.length),
      w.cell? ⟨b, o + i * 5, none⟩ = some (.int .i64 t[i].kind) ∧ w.cell? ⟨b, o + i * 5 + 1, none⟩ = some (.string t[i].tag) ∧
      w.cell? ⟨b, o + i * 5 + 2, none⟩ = some (.string t[i].text) ∧ w.cell? ⟨b, o + i * 5 + 3, none⟩ = some (.slice t[i].aa t[i].attrs.length t[i].ac) ∧
      w.cell? ⟨b, o + i * 5 + 4, none⟩ = some (.int .i64 t[i].size) ∧ t[i].Ok w B := by
  obtain ⟨hm, hs, hr⟩ := h
  rcases hr with h1 | ⟨b, o, ha, hbB, hc⟩
  · subst h1; simp at h0
  · refine ⟨b, o, ha, hbB, fun i hi => ?_⟩
    have := hc i hi
    simp only [List.getD_eq_getElem?_getD, List.getElem?_eq_getElem hi, Option.getD_some] at this
    exact ⟨this.1, this.2.1, this.2.2.1, this.2.2.2.1, this.2.2.2.2, hs _ (List.getElem_mem hi)⟩

end Go.Proofs.YtnibpdmbccfgoaaGreatDoor

namespace Go.Proofs.YtnibpdmbccfgoaaGreatDoor
open Go.RowKit

/-- How many nodes the node at a place is, with all beneath it (0 where Go's number is below 0). -/
def sz (t : List Nd) (i : Nat) : Nat := (t.getD i default).size.toNat

/-- From lo up to hi the sizes are those of trees, one within the other. -/
def Lam (t : List Nd) (lo hi : Nat) : Prop :=
  ∀ i, lo ≤ i → i < hi → (t.getD i default).size = (sz t i : Int) ∧ 1 ≤ sz t i ∧ i + sz t i ≤ hi ∧ ∀ j, i < j → j < i + sz t i → j + sz t j ≤ i + sz t i

theorem Lam.empty (t : List Nd) (lo : Nat) : Lam t lo lo := fun i h1 h2 => by omega

theorem Lam.snoc {t : List Nd} {lo k : Nat} (h : Lam t lo k) (h2 : Lam t k (k + sz t k)) : Lam t lo (k + sz t k) := by
  intro i hi hk
  by_cases e : i < k
  · obtain ⟨a, b, c, d⟩ := h i hi e
    exact ⟨a, b, by omega, d⟩
  · exact h2 i (by omega) hk

theorem Lam.node {t : List Nd} {i : Nat} (hs : (t.getD i default).size = (sz t i : Int)) (h1 : 1 ≤ sz t i) (h : Lam t (i + 1) (i + sz t i)) : Lam t i (i + sz t i) := by
  intro j hj hk
  by_cases e : j = i
  · subst e
    exact ⟨hs, h1, Nat.le_refl _, fun m hm hm2 => (h m hm hm2).2.2.1⟩
  · exact h j (by omega) hk

structure SizedP (t : List Nd) (i en : Nat) : Prop where
  pos : 1 ≤ sz t i
  top : i + sz t i ≤ en
  lam : Lam t i (i + sz t i)

def SomeB (P : Bool → Prop) (w : World) (e : Ending) (w' : World) : Prop := ∃ b, e = .returned (.bool b) ∧ P b ∧ w = w'

end Go.Proofs.YtnibpdmbccfgoaaGreatDoor

namespace Go.Proofs.YtnibpdmbccfgoaaGreatDoor
open Go.RowKit
set_option linter.unusedVariables false

/-- The call returns some truth value, and nothing has turned. -/
def AnyB (w : World) (e : Ending) (w' : World) : Prop := ∃ b, e = .returned (.bool b) ∧ w = w'

theorem wrap_byte (b : UInt8) : wrap64 (b.toNat : Int) = (b.toNat : Int) := by
  have := b.toNat_lt
  exact IntWalk.wrap64_in _ ⟨by omega, by omega⟩

/-- A code point and how many bytes it has: none, or as many as are there. -/
def AnyP (s : ByteArray) (k : Nat) (w : World) (e : Ending) (w' : World) : Prop :=
  ∃ (p : Int) (n : Nat), e = .returned (.tuple #[.int .i64 p, .int .i64 n]) ∧ k + n ≤ s.size ∧ w = w'


end Go.Proofs.YtnibpdmbccfgoaaGreatDoor

namespace Go.Proofs.YtnibpdmbccfgoaaGreatDoor
open Go.RowKit
set_option linter.unusedVariables false

def EscNum (v : Value) (w : World) (e : Ending) (w' : World) : Prop := e = .returned v ∧ w' = w

/-- The byte at a place, 0 behind the end. -/
def bAt (s : ByteArray) (k : Nat) : Nat := (s.get! k).toNat

theorem bAt_in {s : ByteArray} {k : Nat} (h : k < s.size) : bAt s k = s[k].toNat := by
  unfold bAt
  have := get_at s k h
  rw [Nat.add_zero] at this
  rw [this]

theorem bAt_lt (s : ByteArray) (k : Nat) : bAt s k < 256 := (s.get! k).toNat_lt

def isHx (c : Nat) : Bool := (decide (48 ≤ c) && decide (c ≤ 57)) || (decide (97 ≤ c) && decide (c ≤ 102)) || (decide (65 ≤ c) && decide (c ≤ 70))
def hxD (c : Nat) : Nat := if c ≤ 57 then c - 48 else if 97 ≤ c then c - 87 else c - 55

theorem isHx_iff (c : Nat) : isHx c = true ↔ (48 ≤ c ∧ c ≤ 57) ∨ (97 ≤ c ∧ c ≤ 102) ∨ (65 ≤ c ∧ c ≤ 70) := by
  unfold isHx
  simp only [Bool.or_eq_true, Bool.and_eq_true, decide_eq_true_eq, or_assoc]

theorem hxD_lt {c : Nat} (h : isHx c = true) : hxD c < 16 := by
  rw [isHx_iff] at h
  unfold hxD
  split
  · omega
  · split <;> omega

/-- What the first n digits from k on count. -/
def hxV (s : ByteArray) (k : Nat) : Nat → Nat
  | 0 => 0
  | n + 1 => 16 * hxV s k n + hxD (bAt s (k + n))

theorem hxV_lt {s : ByteArray} {k : Nat} : ∀ n, (∀ x, x < n → isHx (bAt s (k + x)) = true) → hxV s k n < 16 ^ n
  | 0, _ => by simp [hxV]
  | n + 1, h => by
    have h1 := hxV_lt n (fun x hx => h x (by omega))
    have h2 := hxD_lt (h n (by omega))
    show 16 * hxV s k n + hxD (bAt s (k + n)) < 16 ^ (n + 1)
    have h3 : (16 : Nat) ^ (n + 1) = 16 * 16 ^ n := by rw [Nat.pow_succ, Nat.mul_comm]
    rw [h3]
    omega

theorem pow16_le {n : Nat} (h : n ≤ 6) : (16 : Nat) ^ n ≤ 16777216 := by
  have : n = 0 ∨ n = 1 ∨ n = 2 ∨ n = 3 ∨ n = 4 ∨ n = 5 ∨ n = 6 := by omega
  rcases this with rfl | rfl | rfl | rfl | rfl | rfl | rfl <;> decide

/-- The hexadecimal digits from k on, at most six, are j. -/
structure HxTo (s : ByteArray) (k j : Nat) : Prop where
  six : j ≤ 6
  le : k + j ≤ s.size
  all : ∀ x, x < j → isHx (bAt s (k + x)) = true
  stop : j < 6 → k + j < s.size → isHx (bAt s (k + j)) = false

theorem HxTo.uniq {s : ByteArray} {k j j' : Nat} (h : HxTo s k j) (h' : HxTo s k j') : j = j' := by
  rcases Nat.lt_trichotomy j j' with c | c | c
  · have h1 := h'.all j c
    have h2 := h.stop (by have := h'.six; omega) (by have := h'.le; omega)
    rw [h1] at h2; cases h2
  · exact c
  · have h1 := h.all j' c
    have h2 := h'.stop (by have := h.six; omega) (by have := h.le; omega)
    rw [h1] at h2; cases h2

theorem HxTo.small {s : ByteArray} {k j : Nat} (h : HxTo s k j) : hxV s k j < 16777216 := by
  have h1 := hxV_lt j h.all
  have h2 := pow16_le h.six
  omega

/-- Behind one white space, if one stands there. -/
def wsEnd (s : ByteArray) (e : Nat) : Nat :=
  if e < s.size then
    if bAt s e = 13 then (if e + 1 < s.size ∧ bAt s (e + 1) = 10 then e + 2 else e + 1)
    else if bAt s e = 32 ∨ bAt s e = 9 ∨ bAt s e = 10 ∨ bAt s e = 12 then e + 1 else e
  else e

theorem wsEnd_ge (s : ByteArray) (e : Nat) : e ≤ wsEnd s e := by
  unfold wsEnd
  split
  · split
    · split <;> omega
    · split <;> omega
  · omega

theorem wsEnd_le {s : ByteArray} {e : Nat} (h : e ≤ s.size) : wsEnd s e ≤ s.size := by
  unfold wsEnd
  split
  · split
    · split <;> omega
    · split <;> omega
  · omega

/-- Whether an escape begins at a place. -/
def escAt (s : ByteArray) (k : Nat) : Bool := decide (k + 1 < s.size) && decide (bAt s k = 92) && !decide (bAt s (k + 1) = 10 ∨ bAt s (k + 1) = 13 ∨ bAt s (k + 1) = 12)

theorem escAt_iff (s : ByteArray) (k : Nat) : escAt s k = true ↔ k + 1 < s.size ∧ bAt s k = 92 ∧ bAt s (k + 1) ≠ 10 ∧ bAt s (k + 1) ≠ 13 ∧ bAt s (k + 1) ≠ 12 := by
  unfold escAt
  simp only [Bool.and_eq_true, decide_eq_true_eq, Bool.not_eq_true', decide_eq_false_iff_not, not_or, and_assoc]

/-- The bytes of a part of a text. -/
theorem bAt_extract {s : ByteArray} {a b x : Nat} (h : a + x < b) (h2 : b ≤ s.size) : bAt (s.extract a b) x = bAt s (a + x) := by
  have hs : (s.extract a b).size = b - a := by rw [ByteArray.size_extract]; omega
  rw [bAt_in (by omega : x < (s.extract a b).size), bAt_in (by omega : a + x < s.size)]
  rw [ByteArray.getElem_extract]

theorem hxV_extract {s : ByteArray} {a b : Nat} (h2 : b ≤ s.size) : ∀ n, a + n ≤ b → hxV (s.extract a b) 0 n = hxV s a n
  | 0, _ => rfl
  | n + 1, h => by
    show 16 * hxV (s.extract a b) 0 n + hxD (bAt (s.extract a b) (0 + n)) = 16 * hxV s a n + hxD (bAt s (a + n))
    rw [hxV_extract h2 n (by omega), Nat.zero_add, bAt_extract (by omega) h2]
end Go.Proofs.YtnibpdmbccfgoaaGreatDoor

namespace Go.Proofs.YtnibpdmbccfgoaaGreatDoor
open Go.RowKit
set_option linter.unusedVariables false

/-- A node of a selector. -/
structure Sn where
  kind : Int
  op : Int
  key : ByteArray
  val : ByteArray
  a : Int
  b : Int
  flag : Int
  size : Int

mutual
/-- A selector. -/
inductive ST where
  | nd (x : Sn) (ks : SK)
inductive SK where
  | nil
  | cons (t : ST) (ks : SK)
end

def ST.top : ST → Sn
  | .nd x _ => x
def ST.kids : ST → SK
  | .nd _ ks => ks
def SK.list : SK → List ST
  | .nil => []
  | .cons t ks => t :: ks.list
mutual
def ST.flat : ST → List Sn
  | .nd x ks => x :: ks.flat
def SK.flat : SK → List Sn
  | .nil => []
  | .cons t ks => t.flat ++ ks.flat
end
mutual
/-- Each node says how many there are. -/
def ST.Ok : ST → Prop
  | .nd x ks => x.size = ((ks.flat.length + 1 : Nat) : Int) ∧ ks.Ok
def SK.Ok : SK → Prop
  | .nil => True
  | .cons t ks => t.Ok ∧ ks.Ok
end
theorem ST.flat_cons (t : ST) : t.flat = t.top :: t.kids.flat := by cases t; rfl
theorem ST.len_pos (t : ST) : 0 < t.flat.length := by rw [t.flat_cons]; exact Nat.succ_pos _
theorem ST.Ok.size {t : ST} (h : t.Ok) : t.top.size = ((t.flat.length : Nat) : Int) := by
  cases t with
  | nd x ks => exact h.1
theorem ST.Ok.kids {t : ST} (h : t.Ok) : t.kids.Ok := by
  cases t with
  | nd x ks => exact h.2
theorem SK.Ok.mem : ∀ {ks : SK}, ks.Ok → ∀ t ∈ ks.list, t.Ok
  | .nil, _, t, h => by cases h
  | .cons u ks, h, t, ht => by
    rcases List.mem_cons.1 ht with rfl | q
    · exact h.1
    · exact h.2.mem t q
theorem SK.flat_list : ∀ ks : SK, ks.flat = ks.list.flatMap ST.flat
  | .nil => rfl
  | .cons t ks => by
    show t.flat ++ ks.flat = (t :: ks.list).flatMap ST.flat
    rw [List.flatMap_cons, SK.flat_list ks]

mutual
/-- What holds of a selector and of all that stand in it. -/
def ST.All (P : ST → Prop) : ST → Prop
  | .nd x ks => P (.nd x ks) ∧ ks.All P
def SK.All (P : ST → Prop) : SK → Prop
  | .nil => True
  | .cons t ks => t.All P ∧ ks.All P
end
theorem ST.All.here {P : ST → Prop} {t : ST} (h : t.All P) : P t := by
  cases t with
  | nd x ks => exact h.1
theorem ST.All.kids {P : ST → Prop} {t : ST} (h : t.All P) : ∀ u ∈ t.kids.list, u.All P := by
  cases t with
  | nd x ks =>
    have key : ∀ ks : SK, ks.All P → ∀ u ∈ ks.list, u.All P := by
      intro ks
      exact SK.rec (motive_1 := fun _ => True) (motive_2 := fun ks => ks.All P → ∀ u ∈ ks.list, u.All P) (fun _ _ _ => trivial) (fun _ u hu => by cases hu)
        (fun t ks _ ih h u hu => by
          rcases List.mem_cons.1 hu with rfl | q
          · exact h.1
          · exact ih h.2 u q) ks
    exact key ks h.2

/-! How specific a selector is. -/
abbrev S3 := Nat × Nat × Nat
def S3.add (x y : S3) : S3 := (x.1 + y.1, x.2.1 + y.2.1, x.2.2 + y.2.2)
def S3.less (x y : S3) : Bool := decide (x.1 < y.1 ∨ (x.1 = y.1 ∧ (x.2.1 < y.2.1 ∨ (x.2.1 = y.2.1 ∧ x.2.2 < y.2.2))))
def S3.max (x y : S3) : S3 := if S3.less x y = true then y else x
def simS (k : Int) : S3 := if k = 1 then (0, 0, 0) else if k = 2 then (0, 0, 1) else if k = 4 then (1, 0, 0) else (0, 1, 0)
def spOf (x : Sn) (l : List S3) : S3 :=
  if x.kind = 23 ∨ (18 ≤ x.kind ∧ x.kind ≤ 20) then l.foldl S3.max (0, 0, 0)
  else if x.kind = 22 ∨ x.kind = 21 then l.foldl S3.add (0, 0, 0)
  else simS x.kind
mutual
def ST.sp : ST → S3
  | .nd x ks => spOf x ks.sps
def SK.sps : SK → List S3
  | .nil => []
  | .cons t ks => t.sp :: ks.sps
end
end Go.Proofs.YtnibpdmbccfgoaaGreatDoor

namespace Go.Proofs.YtnibpdmbccfgoaaGreatDoor
open Go.RowKit
set_option linter.unusedVariables false

/-- A node's eight cells. -/
structure SnC (w : World) (b o : Nat) (x : Sn) : Prop where
  c0 : w.cell? ⟨b, o, none⟩ = some (.int .i64 x.kind)
  c1 : w.cell? ⟨b, o + 1, none⟩ = some (.int .i64 x.op)
  c2 : w.cell? ⟨b, o + 2, none⟩ = some (.string x.key)
  c3 : w.cell? ⟨b, o + 3, none⟩ = some (.string x.val)
  c4 : w.cell? ⟨b, o + 4, none⟩ = some (.int .i64 x.a)
  c5 : w.cell? ⟨b, o + 5, none⟩ = some (.int .i64 x.b)
  c6 : w.cell? ⟨b, o + 6, none⟩ = some (.int .i64 x.flag)
  c7 : w.cell? ⟨b, o + 7, none⟩ = some (.int .i64 x.size)
def i64r (n : Int) : Prop := -9223372036854775808 ≤ n ∧ n ≤ 9223372036854775807
/-- The numbers fit. -/
structure SnR (x : Sn) : Prop where
  kind : i64r x.kind
  op : i64r x.op
  key : x.key.size ≤ maxLen
  val : x.val.size ≤ maxLen
  a : i64r x.a
  b : i64r x.b
  flag : i64r x.flag
  size : i64r x.size
theorem SnC.below {w w' : World} {b o B : Nat} {x : Sn} (h : SnC w b o x) (hb : Below B w w') (hB : b < B) : SnC w' b o x :=
  ⟨(hb.cell (p := ⟨b, _, none⟩) hB).trans h.c0, (hb.cell (p := ⟨b, _, none⟩) hB).trans h.c1, (hb.cell (p := ⟨b, _, none⟩) hB).trans h.c2, (hb.cell (p := ⟨b, _, none⟩) hB).trans h.c3,
    (hb.cell (p := ⟨b, _, none⟩) hB).trans h.c4, (hb.cell (p := ⟨b, _, none⟩) hB).trans h.c5, (hb.cell (p := ⟨b, _, none⟩) hB).trans h.c6, (hb.cell (p := ⟨b, _, none⟩) hB).trans h.c7⟩
def Sn.val8 (x : Sn) : Value := .agg #[.int .i64 x.kind, .int .i64 x.op, .string x.key, .string x.val, .int .i64 x.a, .int .i64 x.b, .int .i64 x.flag, .int .i64 x.size]
/-- The list lies in memory: below block B, eight cells a node. -/
def SSl (w : World) (B : Nat) (a : Option Addr) (L : List Sn) : Prop :=
  L.length ≤ maxLen ∧ (∀ x ∈ L, SnR x) ∧ (L = [] ∨ ∃ b o, a = some ⟨b, o, none⟩ ∧ b < B ∧ ∀ i (hi : i < L.length), SnC w b (o + i * 8) L[i])
theorem SSl.below {w w' : World} {B : Nat} {a : Option Addr} {L : List Sn} (h : SSl w B a L) (hb : Below B w w') : SSl w' B a L := by
  obtain ⟨hm, hs, hr⟩ := h
  refine ⟨hm, hs, ?_⟩
  rcases hr with h0 | ⟨b, o, ha, hbB, hc⟩
  · exact .inl h0
  · exact .inr ⟨b, o, ha, hbB, fun i hi => (hc i hi).below hb hbB⟩
theorem SSl.more {w : World} {B B' : Nat} {a : Option Addr} {L : List Sn} (h : SSl w B a L) (hB : B ≤ B') : SSl w B' a L := by
  obtain ⟨hm, hs, hr⟩ := h
  refine ⟨hm, hs, ?_⟩
  rcases hr with h0 | ⟨b, o, ha, hbB, hc⟩
  · exact .inl h0
  · exact .inr ⟨b, o, ha, by omega, hc⟩
theorem SSl.at_ {w : World} {B : Nat} {a : Option Addr} {L : List Sn} (h : SSl w B a L) (h0 : 0 < L.length) :
    ∃ b o, a = some ⟨b, o, none⟩ ∧ b < B ∧ ∀ i (hi : i < L.length), SnC w b (o + i * 8) L[i] ∧ SnR L[i] := by
  obtain ⟨hm, hs, hr⟩ := h
  rcases hr with h1 | ⟨b, o, ha, hbB, hc⟩
  · subst h1; exact absurd h0 (Nat.lt_irrefl 0)
  · exact ⟨b, o, ha, hbB, fun i hi => ⟨hc i hi, hs _ (List.getElem_mem hi)⟩⟩

/-! Texts that fit. -/
def Fit6 (x : Sn) : Prop := x.key.size ≤ 2147483647 ∧ x.val.size ≤ 2147483647
def TruB (Q : Prop) (w : World) (e : Ending) (w' : World) : Prop := ∃ b, e = .returned (.bool b) ∧ (b = true → Q) ∧ Below w.heap.size w w'
set_option maxHeartbeats 400000 in
theorem zzFits6_any (x : Sn) (w : World) (h : SnR x) : Calls Tryz.prog 10 #[x.val8] w (TruB (Fit6 x) w) := by
  have h1 := h.key
  have h2 := h.val
  unfold maxLen at h1 h2
  have HF : Hid (x.key.size ≤ 2147483647 → x.val.size ≤ 2147483647 → Fit6 x) := fun a b => ⟨a, b⟩
  unfold Sn.val8
  by_cases a : 2147483647 < x.key.size
  · go_enter Tryz.func10, Tryz.ntmps10
    go_wp2_with fail
    go_ret
    exact ⟨false, rfl, fun q => (by cases q), (Below.refl _ _).alloc (Nat.le_refl _) _⟩
  · by_cases b : 2147483647 < x.val.size
    · go_enter Tryz.func10, Tryz.ntmps10
      go_wp2_with fail
      go_ret
      exact ⟨false, rfl, fun q => (by cases q), (Below.refl _ _).alloc (Nat.le_refl _) _⟩
    · go_enter Tryz.func10, Tryz.ntmps10
      go_wp2_with fail
      go_ret
      exact ⟨true, rfl, fun _ => HF.out (by omega) (by omega), (Below.refl _ _).alloc (Nat.le_refl _) _⟩

set_option maxHeartbeats 800000 in
theorem zzFits5_any (a : Option Addr) (c : Nat) (L : List Sn) (w : World) (h : SSl w w.heap.size a L) :
    Calls Tryz.prog 4 #[.slice a L.length c] w (TruB (∀ x ∈ L, Fit6 x) w) := by
  have hm := h.1
  unfold maxLen at hm
  by_cases hl : 2147483647 < L.length
  · go_enter Tryz.func4, Tryz.ntmps4
    go_wp2_with fail
    go_ret
    exact ⟨false, rfl, fun q => (by cases q), Below.refl _ _⟩
  · have HH := Lib.hid h
    clear h
    go_enter Tryz.func4, Tryz.ntmps4
    go_wp2_with fail
    go_loopg [10] (L.length) (fun gk i wr => ∃ k : Nat, gk = L.length - k ∧ k ≤ L.length ∧ i = .int .i64 k ∧ Hid (∀ j (hj : j < L.length), j < k → Fit6 L[j]) ∧ Hid (Below w.heap.size w wr))
    case atStart => exact ⟨0, rfl, Nat.zero_le _, rfl, (fun j _ q => absurd q (Nat.not_lt_zero j)), Below.refl _ _⟩
    case round =>
      obtain ⟨k, rfl, hk, rfl, HA, HB⟩ := hrel
      by_cases hlt : k < L.length
      · obtain ⟨b, o, rfl, hbB, hc⟩ := HH.out.at_ (by omega)
        obtain ⟨hc1, hr⟩ := hc k hlt
        have hc2 := hc1.below HB.out hbB
        obtain ⟨h0, h1, h2, h3, h4, h5, h6, h7⟩ := hc2
        have HS : Hid (w.heap.size ≤ wr.heap.size) := HB.out.size
        have HX : Hid (∀ U, Calls Tryz.prog 10 #[.agg #[.int .i64 L[k].kind, .int .i64 L[k].op, .string L[k].key, .string L[k].val, .int .i64 L[k].a, .int .i64 L[k].b, .int .i64 L[k].flag, .int .i64 L[k].size]] U (TruB (Fit6 L[k]) U)) := fun U => zzFits6_any L[k] U hr
        clear hc1 hr hc
        go_wp2_with fail
        refine (HX.out _).mono ?_
        rintro e w1 ⟨b1, rfl, hb1, hb2⟩
        have HB2 : Hid (Below w.heap.size w w1) := (HB.out.trans (((Below.refl _ _).alloc (Nat.le_refl _) _).mono HS.out)).trans (hb2.mono (by have := HS.out; simp; omega))
        have HF := Lib.hid hb1
        clear hb1 hb2
        cases b1
        · go_wp2_with fail
          go_ret
          exact ⟨false, rfl, fun q => (by cases q), HB2.out⟩
        · go_wp2_with fail
          go_roundg (L.length - (k + 1))
          case measure => omega
          case rel => exact ⟨k + 1, rfl, by omega, by go_num, (fun j hj q => by
            by_cases c : j < k
            · exact HA.out j hj c
            · obtain rfl : j = k := by omega
              exact HF.out trivial), HB2.out⟩
      · go_wp2_with fail
        go_ret
        exact ⟨true, rfl, fun _ x hx => by
          obtain ⟨i, hi, rfl⟩ := List.getElem_of_mem hx
          exact HA.out i hi (by omega), HB.out⟩
end Go.Proofs.YtnibpdmbccfgoaaGreatDoor

namespace Go.Proofs.YtnibpdmbccfgoaaGreatDoor
open Go.RowKit
set_option linter.unusedVariables false

def SK.of : List ST → SK
  | [] => .nil
  | t :: l => .cons t (SK.of l)
theorem SK.of_list : ∀ l : List ST, (SK.of l).list = l
  | [] => rfl
  | t :: l => by show t :: (SK.of l).list = _; rw [SK.of_list l]
theorem SK.of_flat : ∀ l : List ST, (SK.of l).flat = l.flatMap ST.flat
  | [] => rfl
  | t :: l => by show t.flat ++ (SK.of l).flat = _; rw [SK.of_flat l, List.flatMap_cons]
theorem SK.of_ok : ∀ l : List ST, (∀ t ∈ l, t.Ok) → (SK.of l).Ok
  | [], _ => trivial
  | t :: l, h => ⟨h t (List.mem_cons_self ..), SK.of_ok l (fun u hu => h u (List.mem_cons_of_mem _ hu))⟩
/-- A tree stands at a place of the list. -/
def AtT (L : List Sn) (i : Nat) (u : ST) : Prop := ∃ r, L.drop i = u.flat ++ r
def AtL (L : List Sn) (i : Nat) (l : List ST) : Prop := ∃ r, L.drop i = l.flatMap ST.flat ++ r
theorem AtT.le {L : List Sn} {i : Nat} {u : ST} (h : AtT L i u) : i + u.flat.length ≤ L.length := by
  obtain ⟨r, h⟩ := h
  have := congrArg List.length h
  rw [List.length_drop, List.length_append] at this
  have := u.len_pos
  omega
theorem AtL.le {L : List Sn} {i : Nat} {l : List ST} (h : AtL L i l) (hi : i ≤ L.length) : i + (l.flatMap ST.flat).length ≤ L.length := by
  obtain ⟨r, h⟩ := h
  have := congrArg List.length h
  rw [List.length_drop, List.length_append] at this
  omega
theorem AtT.top {L : List Sn} {i : Nat} {u : ST} (h : AtT L i u) : ∃ hi : i < L.length, L[i] = u.top := by
  have hle := h.le
  have hp := u.len_pos
  have hi : i < L.length := by omega
  refine ⟨hi, ?_⟩
  obtain ⟨r, h⟩ := h
  rw [u.flat_cons] at h
  have h1 : (L.drop i)[0]? = some u.top := by rw [h]; rfl
  rw [List.getElem?_drop, Nat.add_zero, List.getElem?_eq_getElem hi] at h1
  exact Option.some.inj h1
theorem AtL.nil {L : List Sn} {i : Nat} : AtL L i [] := ⟨L.drop i, rfl⟩
theorem AtL.snoc {L : List Sn} {i : Nat} {l : List ST} {u : ST} (h : AtL L i l) (hu : AtT L (i + (l.flatMap ST.flat).length) u) : AtL L i (l ++ [u]) := by
  obtain ⟨r, h⟩ := h
  obtain ⟨r', hu⟩ := hu
  rw [← List.drop_drop, h, List.drop_left] at hu
  exact ⟨r', by rw [h, hu, List.flatMap_append]; simp⟩
theorem AtL.head {L : List Sn} {i : Nat} {u : ST} {l : List ST} (h : AtL L i (u :: l)) : AtT L i u ∧ AtL L (i + u.flat.length) l := by
  obtain ⟨r, h⟩ := h
  rw [List.flatMap_cons, List.append_assoc] at h
  exact ⟨⟨_, h⟩, ⟨r, by rw [← List.drop_drop, h, List.drop_left]⟩⟩
theorem AtT.kids {L : List Sn} {i : Nat} {u : ST} (h : AtT L i u) : AtL L (i + 1) u.kids.list := by
  obtain ⟨r, h⟩ := h
  rw [u.flat_cons, SK.flat_list] at h
  exact ⟨r, by rw [← List.drop_drop, h]; rfl⟩
theorem AtT.node {L : List Sn} {i : Nat} (hi : i < L.length) {l : List ST} (h : AtL L (i + 1) l) : AtT L i (.nd L[i] (SK.of l)) := by
  obtain ⟨r, h⟩ := h
  refine ⟨r, ?_⟩
  show L.drop i = L[i] :: (SK.of l).flat ++ r
  rw [SK.of_flat, List.drop_eq_getElem_cons hi, h]; rfl
/-- The places of the parts. -/
def posL : Nat → List ST → List Nat
  | _, [] => []
  | p, u :: l => p :: posL (p + u.flat.length) l
theorem posL_len : ∀ (l : List ST) (p : Nat), (posL p l).length = l.length
  | [], _ => rfl
  | u :: l, p => by show (posL _ l).length + 1 = l.length + 1; rw [posL_len l]
theorem posL_at {L : List Sn} : ∀ (l : List ST) (p : Nat), AtL L p l → ∀ (j : Nat) (h : j < l.length) (h2 : j < (posL p l).length), AtT L (posL p l)[j] l[j]
  | [], _, _, j, h, _ => absurd h (Nat.not_lt_zero j)
  | u :: l, p, hl, 0, _, _ => hl.head.1
  | u :: l, p, hl, j + 1, h, h2 => posL_at l _ hl.head.2 j (by simpa using h) (by simpa [posL] using h2)
theorem posL_snoc : ∀ (l : List ST) (p : Nat) (u : ST), posL p (l ++ [u]) = posL p l ++ [p + (l.flatMap ST.flat).length]
  | [], p, u => rfl
  | v :: l, p, u => by
    show p :: posL (p + v.flat.length) (l ++ [u]) = p :: (posL (p + v.flat.length) l ++ _)
    rw [posL_snoc l, List.flatMap_cons, List.length_append, Nat.add_assoc]
/-- What spec.selSized tells if it is so. -/
def SzQ (L : List Sn) (i en : Nat) : Prop := ∃ u : ST, u.Ok ∧ AtT L i u ∧ i + u.flat.length ≤ en

set_option maxRecDepth 100000 in
set_option maxHeartbeats 4000000 in
theorem selSized_any (a : Option Addr) (c : Nat) (L : List Sn) (hL : L.length ≤ 60) (dp : Nat) : ∀ (i en : Nat) (I E : Int) (w : World), I = i → E = en → SSl w w.heap.size a L → i < L.length → en ≤ L.length → i ≤ en → en - i ≤ dp →
    Calls Tryz.prog 16 #[.slice a L.length c, .int .i64 I, .int .i64 E] w (SomeB (fun b => b = true → SzQ L i en) w) := by
  induction dp with
  | zero =>
    rintro i en I E w rfl rfl h hi hen hie hd
    obtain ⟨b, o, rfl, hbB, hc⟩ := h.at_ (by omega)
    obtain ⟨hc1, hr⟩ := hc i hi
    have h7 := hc1.c7
    have hr7 := hr.size
    obtain ⟨s, hs⟩ : ∃ s : Int, s = L[i].size := ⟨_, rfl⟩
    rw [← hs] at h7 hr7
    obtain ⟨r1, r2⟩ := hr7
    have he : en = i := by omega
    subst he
    clear hc h hc1 hr hs
    by_cases c1 : s < 1
    · go_enter Tryz.func16, Tryz.ntmps16
      go_wp2_with fail
      go_ret
      exact ⟨false, rfl, (fun q => (by cases q)), rfl⟩
    · have g1 : (en : Int) - en = 0 := by omega
      have g2 : decide (s > (en : Int) - en) = true := decide_eq_true (by omega)
      go_enter Tryz.func16, Tryz.ntmps16
      go_wp2_with fail
      go_ret
      exact ⟨false, rfl, (fun q => (by cases q)), rfl⟩
  | succ d ih =>
    rintro i en I E w rfl rfl h hi hen hie hd
    have HI := Lib.hid ih
    have HH := Lib.hid h
    obtain ⟨b, o, rfl, hbB, hc⟩ := h.at_ (by omega)
    obtain ⟨hc1, hr⟩ := hc i hi
    have h7 := hc1.c7
    have hr7 := hr.size
    have HC := Lib.hid hc
    obtain ⟨s, hs⟩ : ∃ s : Int, s = L[i].size := ⟨_, rfl⟩
    rw [← hs] at h7 hr7
    obtain ⟨r1, r2⟩ := hr7
    have HS := Lib.hid hs
    clear hc h ih hc1 hr hs
    by_cases c1 : s < 1
    · go_enter Tryz.func16, Tryz.ntmps16
      go_wp2_with fail
      go_ret
      exact ⟨false, rfl, (fun q => (by cases q)), rfl⟩
    · by_cases c2 : (en : Int) - i < s
      · go_enter Tryz.func16, Tryz.ntmps16
        go_wp2_with fail
        go_ret
        exact ⟨false, rfl, (fun q => (by cases q)), rfl⟩
      · obtain ⟨n, rfl⟩ : ∃ n : Nat, s = (n : Int) := ⟨s.toNat, by omega⟩
        go_enter Tryz.func16, Tryz.ntmps16
        go_wp2_with fail
        go_loopg [8] (i + n - (i + 1)) (fun gk x wr => ∃ (k : Nat) (l : List ST), gk = i + n - k ∧ i + 1 ≤ k ∧ k ≤ i + n ∧ x = .int .i64 k ∧ Hid (AtL L (i + 1) l ∧ (∀ t ∈ l, t.Ok) ∧ k = i + 1 + (l.flatMap ST.flat).length) ∧ w = wr)
        case atStart => exact ⟨i + 1, [], by omega, by omega, by omega, by go_num, ⟨AtL.nil, (fun t ht => by cases ht), rfl⟩, rfl⟩
        case round =>
          obtain ⟨k, l, rfl, hk1, hk2, rfl, HL, rfl⟩ := hrel
          by_cases hlt : k < i + n
          · have hkt : k < L.length := by omega
            obtain ⟨g, hok⟩ := HC.out k hkt
            have g7 := g.c7
            have hkr := hok.size
            clear hok g
            go_wp2_with fail
            refine (HI.out k (i + n) _ _ _ (by omega) (by omega) HH.out hkt (by omega) (by omega) (by omega)).mono ?_
            rintro e w1 ⟨r, rfl, hr2, rfl⟩
            cases r
            · go_wp2_with fail
              go_ret
              exact ⟨false, rfl, (fun q => (by cases q)), rfl⟩
            · obtain ⟨u, hu1, hu2, hu3⟩ := hr2 rfl
              obtain ⟨_, htop⟩ := hu2.top
              have hsz := hu1.size
              rw [← htop] at hsz
              rw [hsz] at g7
              have hp := u.len_pos
              have hsn : AtL L (i + 1) (l ++ [u]) := HL.out.1.snoc (by rw [← HL.out.2.2]; exact hu2)
              have HL2 : Hid (AtL L (i + 1) (l ++ [u]) ∧ (∀ t ∈ l ++ [u], t.Ok) ∧ k + u.flat.length = i + 1 + ((l ++ [u]).flatMap ST.flat).length) :=
                ⟨hsn, fun t ht => by
                  rcases List.mem_append.1 ht with q | q
                  · exact HL.out.2.1 t q
                  · rw [List.mem_singleton] at q; rw [q]; exact hu1, by rw [List.flatMap_append, List.length_append, HL.out.2.2]; simp; omega⟩
              obtain ⟨m, hm⟩ : ∃ m, m = u.flat.length := ⟨_, rfl⟩
              rw [← hm] at g7 hp HL2 hu3
              clear hr2 hsz htop hkr hsn hu2
              go_wp2_with fail
              go_roundg (i + n - (k + m))
              case measure => omega
              case rel => exact ⟨k + m, l ++ [u], rfl, by omega, by omega, by go_num, HL2, by trivial⟩
          · go_wp2_with fail
            go_ret
            refine ⟨true, rfl, fun _ => ?_, rfl⟩
            have e : k = i + n := by omega
            obtain ⟨q1, q2, q3⟩ := HL.out
            refine ⟨.nd L[i] (SK.of l), ⟨?_, SK.of_ok l q2⟩, AtT.node hi q1, ?_⟩
            · rw [SK.of_flat, ← HS.out]; omega
            · show i + (L[i] :: (SK.of l).flat).length ≤ en
              rw [List.length_cons, SK.of_flat]; omega
end Go.Proofs.YtnibpdmbccfgoaaGreatDoor

namespace Go.Proofs.YtnibpdmbccfgoaaGreatDoor
open Go.RowKit
set_option linter.unusedVariables false

def nums (l : List Nat) : List Value := l.map (fun (n : Nat) => Value.int .i64 (n : Int))
theorem Tryz.infoInt : (Tryz.prog.info? 3).map (fun i => (i.zero, i.size, i.bytes)) = some (some (.int .i64 0), 1, 8) := by kernel_rfl
theorem info_parts2 {i? : Option TypeInfo} {z : Value} {s b : Nat} (h : i?.map (fun i => (i.zero, i.size, i.bytes)) = some (some z, s, b)) : ∃ i, i? = some i ∧ i.zero = some z ∧ i.size = s ∧ i.bytes = b := by
  cases i? with
  | none => cases h
  | some i => simp at h; exact ⟨i, rfl, h.1, h.2.1, h.2.2⟩
/-- A row of places of its own. -/
def KRow (w : World) (lo : Nat) (p : Option Addr) (ps : List Nat) : Prop :=
  ps = [] ∨ ∃ b, p = some ⟨b, 0, none⟩ ∧ lo ≤ b ∧ b < w.heap.size ∧ ∀ i (hi : i < ps.length), w.cell? ⟨b, i, none⟩ = some (.int .i64 (ps[i] : Int))
theorem KRow.below {w U : World} {lo : Nat} {p : Option Addr} {ps : List Nat} (h : KRow w lo p ps) (hb : Below w.heap.size w U) : KRow U lo p ps := by
  rcases h with h | ⟨b, h1, h2, h3, h4⟩
  · exact .inl h
  · exact .inr ⟨b, h1, h2, Nat.lt_of_lt_of_le h3 hb.size, fun i hi => (hb.cell (p := ⟨b, _, none⟩) h3).trans (h4 i hi)⟩
theorem KRow.at_ {w : World} {lo : Nat} {p : Option Addr} {ps : List Nat} (h : KRow w lo p ps) (h0 : 0 < ps.length) : ∃ b, p = some ⟨b, 0, none⟩ ∧ b < w.heap.size ∧ ∀ i (hi : i < ps.length), w.cell? ⟨b, i, none⟩ = some (.int .i64 (ps[i] : Int)) := by
  rcases h with h | ⟨b, h1, h2, h3, h4⟩
  · subst h; exact absurd h0 (Nat.lt_irrefl 0)
  · exact ⟨b, h1, h3, h4⟩
theorem krow_own {w : World} {lo : Nat} {p : Option Addr} {cp : Nat} {ps : List Nat} (h : w.ownsRow lo 3 1 (.slice p ps.length cp) (nums ps).length (nums ps)) : KRow w lo p ps := by
  rcases h.2 with ⟨e, e2⟩ | ⟨g, cap, cur, e, hb, hgg, _⟩
  · left
    have : ps.length = 0 := by simp at e; rw [e.2.1]; rfl
    exact List.length_eq_zero_iff.1 this
  · have hp : p = some ⟨g, 0, none⟩ := by simp at e; exact e.1
    subst hp
    refine .inr ⟨g, rfl, hb, (Array.getElem?_eq_some_iff.1 hgg).1, fun i hi => ?_⟩
    have hc := h.cells (g := g) rfl i (.int .i64 (ps[i] : Int)) (by unfold nums; rw [List.getElem?_map, List.getElem?_eq_getElem hi]; rfl)
    have hadd : (⟨g, 0, none⟩ : Addr).add i = ⟨g, i, none⟩ := by unfold Addr.add; split <;> simp_all
    rw [hadd] at hc
    exact hc
def KdP (L : List Sn) (i : Nat) (u : ST) (w : World) (e : Ending) (w' : World) : Prop :=
  ∃ p cp, e = .returned (.slice p u.kids.list.length cp) ∧ Below w.heap.size w w' ∧ KRow w' w.heap.size p (posL (i + 1) u.kids.list)
/-- The kids up to some, and the rest. -/
def KdL (L : List Sn) (i : Nat) (u : ST) (w : World) (k : Nat) (v : Value) (wr : World) : Prop :=
  ∃ l r, u.kids.list = l ++ r ∧ k = i + 1 + (l.flatMap ST.flat).length ∧ AtL L k r ∧ wr.ownsRow w.heap.size 3 1 v (nums (posL (i + 1) l)).length (nums (posL (i + 1) l)) ∧ Below w.heap.size w wr

set_option maxRecDepth 100000 in
set_option maxHeartbeats 4000000 in
theorem selKids_any (a : Option Addr) (c : Nat) (L : List Sn) (hL : L.length ≤ 1000) (i : Nat) (u : ST) (w : World) (h : SSl w w.heap.size a L) (hu : AtT L i u) (hok : u.Ok) :
    Calls Tryz.prog 22 #[.slice a L.length c, .int .i64 (i : Int)] w (KdP L i u w) := by
  have hle := hu.le
  obtain ⟨hi, htop⟩ := hu.top
  obtain ⟨b, o, rfl, hbB, hc⟩ := h.at_ (by omega)
  have hz := hok.size
  rw [← htop] at hz
  obtain ⟨n, hn⟩ : ∃ n, n = u.flat.length := ⟨_, rfl⟩
  rw [← hn] at hz hle
  have HC : Hid (∀ wr, Below w.heap.size w wr → ∀ j (hj : j < L.length), wr.cell? ⟨b, o + j * 8 + 7, none⟩ = some (.int .i64 L[j].size)) := fun wr hb j hj => ((hc j hj).1.below hb hbB).c7
  have HK := Lib.hid hu.kids
  have HO : Hid (∀ t ∈ u.kids.list, t.Ok) := hok.kids.mem
  have HN : Hid (n = 1 + (u.kids.list.flatMap ST.flat).length) := by rw [Hid, hn, u.flat_cons, List.length_cons, SK.flat_list]; omega
  have HZ := Lib.hid hz
  clear hc hu hok htop hn hz
  go_enter Tryz.func22, Tryz.ntmps22
  go_wp2_with fail
  go_loopg [5, 6] (i + n - (i + 1)) (fun gk v5 v6 wr => ∃ (k : Nat) (sv : Value), gk = i + n - k ∧ v6 = .int .i64 k ∧ sv = v5 ∧ Hid (KdL L i u w k sv wr))
  case atStart => exact ⟨i + 1, _, by omega, by go_num, rfl, [], u.kids.list, rfl, rfl, HK.out, by exact World.ownsRow_nil _ _ _ _, Below.refl _ _⟩
  case round =>
    obtain ⟨k, sv, rfl, rfl, rfl, HR⟩ := hrel
    obtain ⟨l, r, hlr, hk, hat, hown, hbel⟩ := HR.out
    have h7 := HC.out _ hbel i hi
    rw [HZ.out] at h7
    have hkn : i + 1 + (l.flatMap ST.flat).length + (r.flatMap ST.flat).length = i + n := by
      rw [HN.out, hlr, List.flatMap_append, List.length_append]; omega
    cases r with
    | nil =>
      have hkn : k = i + n := by rw [hk]; simpa using hkn
      rw [List.append_nil] at hlr
      have HLR := Lib.hid hlr
      have HOwn := Lib.hid hown
      have HBel := Lib.hid hbel
      clear HR hat hk hlr hown hbel
      subst hkn
      go_wp2_with fail
      have hown := HOwn.out
      have hbel := HBel.out
      have hlr := HLR.out
      obtain ⟨p, cp, hsv⟩ : ∃ p cp, sv = .slice p l.length cp := by
        rcases hown.2 with ⟨e1, e2⟩ | ⟨g1, cap, cur, e1, _⟩
        · refine ⟨none, 0, ?_⟩
          have : (posL (i + 1) l).length = 0 := by
            unfold nums at e2
            rw [List.length_map] at e2
            exact e2
          rw [posL_len] at this
          rw [e1, this]
        · refine ⟨some ⟨g1, 0, none⟩, cap, ?_⟩
          rw [e1]
          unfold nums
          rw [List.length_map, posL_len]
      subst hsv
      go_ret
      exact ⟨p, cp, by rw [hlr]; rfl, hbel, by rw [hlr]; exact krow_own (cp := cp) (by rw [posL_len]; exact hown)⟩
    | cons v r =>
      obtain ⟨hv, hr2⟩ := hat.head
      obtain ⟨hkl, htv⟩ := hv.top
      have hzv := (HO.out v (by rw [hlr]; simp)).size
      rw [← htv] at hzv
      have hpv := v.len_pos
      have g7 := HC.out _ hbel k hkl
      rw [hzv] at g7
      have hvl := hv.le
      have hklt : k < i + n := by rw [List.flatMap_cons, List.length_append] at hkn; omega
      obtain ⟨m, hm⟩ : ∃ m, m = v.flat.length := ⟨_, rfl⟩
      rw [← hm] at g7 hpv hvl hr2
      have HR2 := Lib.hid hr2
      have HLR := Lib.hid hlr
      have HKe := Lib.hid hk
      have HM := Lib.hid hm
      have hmx : (1 : Int) ≤ (m : Int) := by omega
      have HOwn := Lib.hid hown
      have HBel := Lib.hid hbel
      have hbs := hbel.size
      have hll : (posL (i + 1) l).length ≤ 1000 := by
        rw [posL_len]
        have : l.length ≤ (l.flatMap ST.flat).length := by
          clear HLR hlr hk HKe hown HOwn hkn
          induction l with
          | nil => simp
          | cons x l ih => rw [List.flatMap_cons, List.length_append, List.length_cons]; have := x.len_pos; omega
        omega
      clear hv hr2 hlr hk hm hown hbel HR hat hzv htv
      obtain ⟨i0, hinf, hz0, hz1, hz2⟩ := info_parts2 Tryz.infoInt
      go_wp2_with (at_builtin; go_must (refine wpList_append_own_at _ rfl _ _ 54 rfl w.heap.size 3 i0 (.int .i64 0) 1 8 Tryz.underlying54 hinf hz0 hz1 hz2 rfl (by decide) _ _ _ rfl (HOwn.out.alloc _) ⟨wr.heap.size, 0, none⟩ 1 1 [.int .i64 (k : Int)] rfl rfl (cell_one_new _ _ _) (by intro u hu; simp at hu; subst hu; rfl) (by unfold maxLen; simp [nums]; omega) (by simp [nums]; omega) (by simp; omega) ?_))
      intro v' w4 hown' hgrow _ hat'
      have HB4 : Hid (Below w.heap.size w w4) := (HBel.out.trans (((Below.refl _ _).alloc (Nat.le_refl _) _).mono hbs)).grown hgrow (by simp; omega) (fun b hb => by have := HOwn.out.lt b hb; omega)
      have hlen : (nums (posL (i + 1) (l ++ [v]))).length = (nums (posL (i + 1) l)).length + 1 := by unfold nums; rw [List.length_map, List.length_map, posL_len, posL_len, List.length_append]; rfl
      have hnum : nums (posL (i + 1) (l ++ [v])) = nums (posL (i + 1) l) ++ [.int .i64 (k : Int)] := by unfold nums; rw [posL_snoc, List.map_append, ← HKe.out]; rfl
      have HN4 : Hid (KdL L i u w (k + m) v' w4) := ⟨l ++ [v], r, by rw [HLR.out]; simp, by rw [List.flatMap_append, List.length_append, HKe.out, HM.out]; simp; omega, HR2.out, by rw [hlen, hnum]; exact hown', HB4.out⟩
      have g7' : w4.cell? ⟨b, o + k * 8 + 7, none⟩ = some (.int .i64 (m : Int)) := by
        rw [HC.out _ HB4.out k hkl, ← g7, HC.out _ HBel.out k hkl]
      clear hown' hgrow hat' hlen hnum g7 hmx
      rcases Nat.lt_or_ge 1 m with q | q
      · go_wp2_with fail
        go_roundg (i + n - (k + m))
        case measure => omega
        case rel => exact ⟨k + m, _, rfl, by go_num, rfl, HN4.out⟩
      · have hm1 : m = 1 := by omega
        rw [hm1] at HN4 g7'
        clear q hvl hpv
        go_wp2_with fail
        go_roundg (i + n - (k + 1))
        case measure => omega
        case rel => exact ⟨k + 1, _, rfl, by go_num, rfl, HN4.out⟩
end Go.Proofs.YtnibpdmbccfgoaaGreatDoor

namespace Go.Proofs.YtnibpdmbccfgoaaGreatDoor
open Go.RowKit
set_option linter.unusedVariables false

def smpB (k : Int) : Bool := decide (1 ≤ k ∧ k ≤ 20)
def cpxB (k : Int) : Bool := decide ((1 ≤ k ∧ k ≤ 20) ∨ k = 21 ∨ k = 22)
def BoB (b : Bool) (w : World) (e : Ending) (w' : World) : Prop := e = .returned (.bool b) ∧ w = w'
theorem ret_bool2 {a b : Bool} (h : a = b) : Ending.returned (.bool a) = .returned (.bool b) := by rw [h]
theorem isSimple_any (k : Int) (w : World) : Calls Tryz.prog 30 #[.int .i64 k] w (BoB (smpB k) w) := by
  by_cases c1 : 1 ≤ k
  · by_cases c2 : k ≤ 20
    · have HB : Hid (smpB k = true) := decide_eq_true ⟨c1, c2⟩
      go_enter Tryz.func30, Tryz.ntmps30
      go_wp2_with fail
      go_ret
      exact ⟨ret_bool2 HB.out.symm, rfl⟩
    · have HB : Hid (smpB k = false) := decide_eq_false (fun q => c2 q.2)
      go_enter Tryz.func30, Tryz.ntmps30
      go_wp2_with fail
      go_ret
      exact ⟨ret_bool2 HB.out.symm, rfl⟩
  · have HB : Hid (smpB k = false) := decide_eq_false (fun q => c1 q.1)
    go_enter Tryz.func30, Tryz.ntmps30
    go_wp2_with fail
    go_ret
    exact ⟨ret_bool2 HB.out.symm, rfl⟩
theorem isComplex_any (k : Int) (w : World) : Calls Tryz.prog 19 #[.int .i64 k] w (BoB (cpxB k) w) := by
  have HS := Lib.hid (isSimple_any k w)
  cases hb : smpB k
  · have hb2 : ¬ (1 ≤ k ∧ k ≤ 20) := of_decide_eq_false hb
    have HF := Lib.hid hb
    clear hb
    by_cases c1 : k = 21
    · have HB : Hid (cpxB k = true) := decide_eq_true (.inr (.inl c1))
      have m1 : (k == 21) = true := beq_iff_eq.2 c1
      clear hb2 c1
      go_enter Tryz.func19, Tryz.ntmps19
      go_wp2_with fail
      refine HS.out.mono ?_
      rintro e1 w1 ⟨rfl, rfl⟩
      rw [HF.out]
      go_wp2_with fail
      go_ret
      exact ⟨ret_bool2 HB.out.symm, rfl⟩
    · have m1 : (k == 21) = false := beq_eq_false_iff_ne.2 c1
      by_cases c2 : k = 22
      · have HB : Hid (cpxB k = true) := decide_eq_true (.inr (.inr c2))
        have m2 : (k == 22) = true := beq_iff_eq.2 c2
        clear hb2 c1 c2
        go_enter Tryz.func19, Tryz.ntmps19
        go_wp2_with fail
        refine HS.out.mono ?_
        rintro e1 w1 ⟨rfl, rfl⟩
        rw [HF.out]
        go_wp2_with fail
        go_ret
        exact ⟨ret_bool2 HB.out.symm, rfl⟩
      · have HB : Hid (cpxB k = false) := decide_eq_false (fun q => by rcases q with q | q | q; exact hb2 q; exact c1 q; exact c2 q)
        have m2 : (k == 22) = false := beq_eq_false_iff_ne.2 c2
        clear hb2 c1 c2
        go_enter Tryz.func19, Tryz.ntmps19
        go_wp2_with fail
        refine HS.out.mono ?_
        rintro e1 w1 ⟨rfl, rfl⟩
        rw [HF.out]
        go_wp2_with fail
        go_ret
        exact ⟨ret_bool2 HB.out.symm, rfl⟩
  · have HB : Hid (cpxB k = true) := decide_eq_true (.inl (of_decide_eq_true hb))
    have HF := Lib.hid hb
    clear hb
    go_enter Tryz.func19, Tryz.ntmps19
    go_wp2_with fail
    refine HS.out.mono ?_
    rintro e1 w1 ⟨rfl, rfl⟩
    rw [HF.out]
    go_wp2_with fail
    go_ret
    exact ⟨ret_bool2 HB.out.symm, rfl⟩
theorem isElement_any (s : ByteArray) (w : World) : Calls Tryz.prog 27 #[.string s] w (AnyB w) := by
  obtain ⟨b1, h1⟩ : ∃ b, (s.toList == [98, 101, 102, 111, 114, 101]) = b := ⟨_, rfl⟩
  obtain ⟨b2, h2⟩ : ∃ b, (s.toList == [97, 102, 116, 101, 114]) = b := ⟨_, rfl⟩
  obtain ⟨b3, h3⟩ : ∃ b, (s.toList == [102, 105, 114, 115, 116, 45, 108, 105, 110, 101]) = b := ⟨_, rfl⟩
  obtain ⟨b4, h4⟩ : ∃ b, (s.toList == [102, 105, 114, 115, 116, 45, 108, 101, 116, 116, 101, 114]) = b := ⟨_, rfl⟩
  cases b1 <;> cases b2 <;> cases b3 <;> cases b4
  all_goals
    go_enter Tryz.func27, Tryz.ntmps27
    go_wp2_with fail
    go_ret
    exact ⟨_, rfl, rfl⟩
/-- Where no pseudo-element stands. -/
def NoPs (l : List Sn) : Prop := ∀ x ∈ l, x.kind = 21 → x.val = ⟨#[]⟩
theorem str_empty {s : ByteArray} : (s.toList == []) = true ↔ s = ⟨#[]⟩ := by
  rw [beq_iff_eq, ByteArray.toList_eq]
  constructor
  · intro h
    exact ByteArray.ext (Array.ext' h)
  · intro h; subst h; rfl

set_option maxRecDepth 100000 in
set_option maxHeartbeats 4000000 in
theorem hasPseudo_any (a : Option Addr) (c : Nat) (L : List Sn) (hL : L.length ≤ 1000) (w : World) (h : SSl w w.heap.size a L) :
    Calls Tryz.prog 28 #[.slice a L.length c] w (SomeB (fun b => b = false → NoPs L) w) := by
  have HH := Lib.hid h
  clear h
  go_enter Tryz.func28, Tryz.ntmps28
  go_wp2_with fail
  go_loopg [3] L.length (fun gk v3 wr => ∃ k : Nat, gk = L.length - k ∧ k ≤ L.length ∧ v3 = .int .i64 k ∧ Hid (∀ j (hj : j < L.length), j < k → L[j].kind = 21 → L[j].val = ⟨#[]⟩) ∧ w = wr)
  case atStart => exact ⟨0, rfl, Nat.zero_le _, rfl, (fun j _ q => absurd q (Nat.not_lt_zero j)), rfl⟩
  case round =>
    obtain ⟨k, rfl, hk, rfl, HA, rfl⟩ := hrel
    by_cases hlt : k < L.length
    · obtain ⟨b, o, rfl, hbB, hc⟩ := HH.out.at_ (by omega)
      obtain ⟨hc1, hr⟩ := hc k hlt
      have c0 := hc1.c0
      have c3 := hc1.c3
      clear hc hc1 hr
      obtain ⟨kd, hkd⟩ : ∃ kd, kd = L[k].kind := ⟨_, rfl⟩
      obtain ⟨vl, hvl⟩ : ∃ vl, vl = L[k].val := ⟨_, rfl⟩
      rw [← hkd] at c0
      rw [← hvl] at c3
      have step : (kd = 21 → vl = ⟨#[]⟩) → Hid (∀ j (hj : j < L.length), j < k + 1 → L[j].kind = 21 → L[j].val = ⟨#[]⟩) := fun hh j hj q => by
        by_cases c : j < k
        · exact HA.out j hj c
        · obtain rfl : j = k := by omega
          rw [← hkd, ← hvl]; exact hh
      have HS := Lib.hid step
      clear step hkd hvl
      by_cases c1 : kd = 21
      · have m1 : (kd == 21) = true := beq_iff_eq.2 c1
        cases m2 : vl.toList.isEmpty
        · clear c1
          go_wp2_with fail
          go_ret
          exact ⟨true, rfl, fun q => (by cases q), rfl⟩
        · have HE : Hid (vl = ⟨#[]⟩) := str_empty.1 (beq_iff_eq.2 (List.isEmpty_iff.1 m2))
          clear c1
          go_wp2_with fail
          go_roundg (L.length - (k + 1))
          case measure => omega
          case rel => exact ⟨k + 1, rfl, by omega, by go_num, HS.out (fun _ => HE.out), by trivial⟩
      · have m1 : (kd == 21) = false := beq_eq_false_iff_ne.2 c1
        have HE : Hid (¬ kd = 21) := c1
        clear c1
        go_wp2_with fail
        go_roundg (L.length - (k + 1))
        case measure => omega
        case rel => exact ⟨k + 1, rfl, by omega, by go_num, HS.out (fun q => absurd q HE.out), by trivial⟩
    · go_wp2_with fail
      go_ret
      exact ⟨false, rfl, fun _ x hx => by
        obtain ⟨i, hi, rfl⟩ := List.getElem_of_mem hx
        exact HA.out i hi (by omega), by trivial⟩
/-- A part of a selector. -/
theorem selBeneath_any (a : Option Addr) (c : Nat) (L : List Sn) (hL : L.length ≤ 1000) (hc : L.length ≤ c) (i : Nat) (u : ST) (w : World) (h : SSl w w.heap.size a L) (hu : AtT L i u) (hok : u.Ok) :
    Calls Tryz.prog 29 #[.slice a L.length c, .int .i64 (i : Int)] w (fun e w' => ∃ a' c', e = .returned (.slice a' u.flat.length c') ∧ SSl w w.heap.size a' u.flat ∧ w = w') := by
  have hle := hu.le
  obtain ⟨hi, htop⟩ := hu.top
  obtain ⟨b, o, rfl, hbB, hcs⟩ := h.at_ (by omega)
  have hz := hok.size
  rw [← htop] at hz
  have h7 := (hcs i hi).1.c7
  rw [hz] at h7
  have HL : Hid (SSl w w.heap.size (some ⟨b, o + i * 8, none⟩) u.flat) := by
    obtain ⟨r, hr⟩ := hu
    have hget : ∀ j (hj : j < u.flat.length) (hj2 : i + j < L.length), u.flat[j] = L[i + j] := fun j hj hj2 => by
      have e1 : (L.drop i)[j]? = some u.flat[j] := by rw [hr, List.getElem?_append_left hj, List.getElem?_eq_getElem hj]
      rw [List.getElem?_drop, List.getElem?_eq_getElem hj2] at e1
      exact (Option.some.inj e1).symm
    refine ⟨by unfold maxLen; omega, fun x hx => ?_, .inr ⟨b, o + i * 8, rfl, hbB, fun j hj => ?_⟩⟩
    · obtain ⟨j, hj, rfl⟩ := List.getElem_of_mem hx
      rw [hget j hj (by omega)]
      exact (hcs _ _).2
    · rw [hget j hj (by omega), show o + i * 8 + j * 8 = o + (i + j) * 8 by omega]
      exact (hcs _ _).1
  obtain ⟨n, hn⟩ : ∃ n, n = u.flat.length := ⟨_, rfl⟩
  rw [← hn] at h7 hle ⊢
  clear hcs hz htop hu hok h hn
  go_enter Tryz.func29, Tryz.ntmps29
  have hni : i + n - i = n := by omega
  go_wp2_with fail
  rw [hni]
  go_ret
  exact ⟨_, _, rfl, HL.out, rfl⟩
end Go.Proofs.YtnibpdmbccfgoaaGreatDoor
