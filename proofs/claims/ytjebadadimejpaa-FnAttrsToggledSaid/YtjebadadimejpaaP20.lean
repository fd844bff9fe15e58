/- The data of a tree and its nodes (joined) -/
import Derived.Test.YtjebadadimejpaaRows
import Derived.WalkKit
import Derived.WalkSpells
import Derived.WalkLawsBesides
import Derived.Lib.Hide
import Derived.Deep.QuietTactic
import Derived.BigQuiet
import Derived.Deep.RegionLaw
import Derived.StillTailTactics
import Derived.Deep.OwnRows
import Derived.LaidEqlPtr
namespace Go.Proofs.Ytjebadadimejpaa
open Go.RowKit

theorem bnext {a b c : World} (h : Below a.heap.size a b) (k : Below b.heap.size b c) : Below a.heap.size a c := h.trans (k.mono h.size)

theorem ret_b {x y : Bool} (h : x = y) : Ending.returned (.bool y) = .returned (.bool x) := by rw [h]

/-- An attribute, as data. -/
structure At2 where
  key : ByteArray
  val : ByteArray
deriving Inhabited

/-- A node of the list, as data; 'aa' and 'ac': where the slice of its attributes begins in memory, and its capacity. -/
structure Nd where
  kind : Int
  tag : ByteArray
  text : ByteArray
  aa : Option Addr
  ac : Nat
  attrs : List At2
  size : Int
deriving Inhabited

def ASl (w : World) (B : Nat) (a : Option Addr) (l : List At2) : Prop :=
  l.length ≤ maxLen ∧ (∀ x ∈ l, x.key.size ≤ maxLen ∧ x.val.size ≤ maxLen) ∧
    (l = [] ∨ ∃ b o, a = some ⟨b, o, none⟩ ∧ b < B ∧ ∀ i, i < l.length →
      w.cell? ⟨b, o + i * 2, none⟩ = some (.string (l.getD i default).key) ∧ w.cell? ⟨b, o + i * 2 + 1, none⟩ = some (.string (l.getD i default).val))

theorem ASl.below {w w' : World} {B : Nat} {a : Option Addr} {l : List At2} (h : ASl w B a l) (hb : Below B w w') : ASl w' B a l := by
  obtain ⟨hm, hs, hr⟩ := h
  refine ⟨hm, hs, ?_⟩
  rcases hr with h0 | ⟨b, o, ha, hbB, hc⟩
  · exact .inl h0
  · refine .inr ⟨b, o, ha, hbB, fun i hi => ?_⟩
    rw [hb.cell (p := ⟨b, _, none⟩) hbB, hb.cell (p := ⟨b, _, none⟩) hbB]
    exact hc i hi

theorem ASl.more {w : World} {B B' : Nat} {a : Option Addr} {l : List At2} (h : ASl w B a l) (hB : B ≤ B') : ASl w B' a l := by
  obtain ⟨hm, hs, hr⟩ := h
  refine ⟨hm, hs, ?_⟩
  rcases hr with h0 | ⟨b, o, ha, hbB, hc⟩
  · exact .inl h0
  · exact .inr ⟨b, o, ha, by omega, hc⟩

def fits4 (x : At2) : Bool := decide (x.key.size ≤ 2147483647) && decide (x.val.size ≤ 2147483647)
def fits3 (l : List At2) : Bool := decide (l.length ≤ 2147483647) && l.all fits4

set_option maxHeartbeats 400000 in
theorem zzFits4_any (x : At2) (w : World) (h1 : x.key.size ≤ maxLen) (h2 : x.val.size ≤ maxLen) :
    Calls Try.prog 16 #[.agg #[.string x.key, .string x.val]] w fun e w' => e = .returned (.bool (fits4 x)) ∧ Below w.heap.size w w' := by
  unfold maxLen at h1 h2
  by_cases a : 2147483647 < x.key.size
  · go_enter Try.func16, Try.ntmps16
    go_wp2
    go_ret
    exact ⟨by simp [fits4]; omega, (Below.refl _ _).alloc (Nat.le_refl _) _⟩
  · by_cases b : 2147483647 < x.val.size
    · go_enter Try.func16, Try.ntmps16
      go_wp2
      go_ret
      exact ⟨by simp [fits4]; omega, (Below.refl _ _).alloc (Nat.le_refl _) _⟩
    · go_enter Try.func16, Try.ntmps16
      go_wp2
      go_ret
      exact ⟨by simp [fits4]; omega, (Below.refl _ _).alloc (Nat.le_refl _) _⟩

set_option maxHeartbeats 400000 in
theorem zzFits3_any (a : Option Addr) (c : Nat) (l : List At2) (w : World) (h : ASl w w.heap.size a l) :
    Calls Try.prog 4 #[.slice a l.length c] w fun e w' => e = .returned (.bool (fits3 l)) ∧ Below w.heap.size w w' := by
  obtain ⟨hm, hs, hr⟩ := h
  unfold maxLen at hm
  by_cases hl : 2147483647 < l.length
  · go_enter Try.func4, Try.ntmps4
    go_wp2
    go_ret
    exact ⟨by simp [fits3]; omega, Below.refl _ _⟩
  · go_enter Try.func4, Try.ntmps4
    go_wp2
    go_loopw [10] (fun i wr => ∃ k : Nat, k ≤ l.length ∧ i = .int .i64 k ∧ (l.take k).all fits4 = true ∧ Below w.heap.size w wr) (fun i _ => l.length - (intOf i).toNat)
    case atStart => exact ⟨0, by omega, rfl, by simp, Below.refl _ _⟩
    case round =>
      obtain ⟨k, hk, rfl, hall, hb⟩ := hrel
      by_cases hlt : k < l.length
      · rcases hr with h0 | ⟨b, o, rfl, hbB, hc⟩
        · subst h0; simp at hlt
        · have h1 := (hb.cell (p := ⟨b, o + k * 2, none⟩) hbB).trans (hc k hlt).1
          have h2 := (hb.cell (p := ⟨b, o + k * 2 + 1, none⟩) hbB).trans (hc k hlt).2
          have hx := hs (l[k]) (List.getElem_mem hlt)
          have hall2 : (l.take (k + 1)).all fits4 = (fits4 l[k]) := by
            rw [List.take_succ_eq_append_getElem hlt, List.all_append, hall]; simp
          have HA : Hid ((l.take (k + 1)).all fits4 = (fits4 l[k])) := hall2
          clear hall2 hall hc
          cases hf : fits4 l[k]
          · have hno : fits3 l = false := by
              simp only [fits3, Bool.and_eq_false_iff]
              right
              rw [List.all_eq_false]
              exact ⟨l[k], List.getElem_mem hlt, by simp [hf]⟩
            have HN : Hid (fits3 l = false) := hno
            have HF : Hid (fits4 l[k] = false) := hf
            clear hno hf
            go_wp2_with (go_at_call 16; refine (zzFits4_any _ _ hx.1 hx.2).mono ?_; rintro e w1 ⟨rfl, hb1⟩; rw [HF.out])
            go_ret
            exact ⟨ret_b HN.out, hb.trans (((Below.refl _ _).alloc (Nat.le_refl _) _ |>.trans (hb1.mono (by simp))).mono hb.size)⟩
          · have HF : Hid (fits4 l[k] = true) := hf
            clear hf
            go_wp2_with (go_at_call 16; refine (zzFits4_any _ _ hx.1 hx.2).mono ?_; rintro e w1 ⟨rfl, hb1⟩; rw [HF.out])
            go_roundw
            case rel => exact ⟨k + 1, by omega, by go_num, by rw [HA.out, HF.out], hb.trans (((Below.refl _ _).alloc (Nat.le_refl _) _ |>.trans (hb1.mono (by simp))).mono hb.size)⟩
            case measure => simp [intOf]; omega
      · have hno : fits3 l = true := by
          have : k = l.length := by omega
          subst this
          simp only [List.take_length] at hall
          simp only [fits3, hall, Bool.and_true]
          simp; omega
        have HN : Hid (fits3 l = true) := hno
        clear hno hall
        go_wp2
        go_ret
        exact ⟨ret_b HN.out, hb⟩

/-- A node's own parts are as Go allows: the numbers fit, the texts are not longer than Go's int. -/
structure Nd.Ok (w : World) (B : Nat) (x : Nd) : Prop where
  kind : -9223372036854775808 ≤ x.kind ∧ x.kind ≤ 9223372036854775807
  size : -9223372036854775808 ≤ x.size ∧ x.size ≤ 9223372036854775807
  tag : x.tag.size ≤ maxLen
  text : x.text.size ≤ maxLen
  attrs : ASl w B x.aa x.attrs

theorem Nd.Ok.below {w w' : World} {B : Nat} {x : Nd} (h : x.Ok w B) (hb : Below B w w') : x.Ok w' B := ⟨h.kind, h.size, h.tag, h.text, h.attrs.below hb⟩

theorem Nd.Ok.more {w : World} {B B' : Nat} {x : Nd} (h : x.Ok w B) (hB : B ≤ B') : x.Ok w B' := ⟨h.kind, h.size, h.tag, h.text, h.attrs.more hB⟩

def fits2 (x : Nd) : Bool := decide (x.tag.size ≤ 2147483647) && decide (x.text.size ≤ 2147483647) && fits3 x.attrs
def fits1 (t : List Nd) : Bool := decide (t.length ≤ 2147483647) && t.all fits2

/-- The list of nodes lies in memory: below block B, a row of five cells a node. -/
def NSl (w : World) (B : Nat) (a : Option Addr) (t : List Nd) : Prop :=
  t.length ≤ maxLen ∧ (∀ x ∈ t, x.Ok w B) ∧
    (t = [] ∨ ∃ b o, a = some ⟨b, o, none⟩ ∧ b < B ∧ ∀ i, i < t.length →
      w.cell? ⟨b, o + i * 5, none⟩ = some (.int .i64 (t.getD i default).kind) ∧ w.cell? ⟨b, o + i * 5 + 1, none⟩ = some (.string (t.getD i default).tag) ∧
      w.cell? ⟨b, o + i * 5 + 2, none⟩ = some (.string (t.getD i default).text) ∧ w.cell? ⟨b, o + i * 5 + 3, none⟩ = some (.slice (t.getD i default).aa (t.getD i default).attrs.length (t.getD i default).ac) ∧
      w.cell? ⟨b, o + i * 5 + 4, none⟩ = some (.int .i64 (t.getD i default).size))

theorem NSl.below {w w' : World} {B : Nat} {a : Option Addr} {t : List Nd} (h : NSl w B a t) (hb : Below B w w') : NSl w' B a t := by
  obtain ⟨hm, hs, hr⟩ := h
  refine ⟨hm, fun x hx => (hs x hx).below hb, ?_⟩
  rcases hr with h0 | ⟨b, o, ha, hbB, hc⟩
  · exact .inl h0
  · refine .inr ⟨b, o, ha, hbB, fun i hi => ?_⟩
    rw [hb.cell (p := ⟨b, _, none⟩) hbB, hb.cell (p := ⟨b, _, none⟩) hbB, hb.cell (p := ⟨b, _, none⟩) hbB, hb.cell (p := ⟨b, _, none⟩) hbB, hb.cell (p := ⟨b, _, none⟩) hbB]
    exact hc i hi

/-- Where there is a place there are its five cells. -/
theorem NSl.at_ {w : World} {B : Nat} {a : Option Addr} {t : List Nd} (h : NSl w B a t) (h0 : 0 < t.length) :
    ∃ b o, a = some ⟨b, o, none⟩ ∧ b < B ∧ ∀ i (hi : i < t.length),
      w.cell? ⟨b, o + i * 5, none⟩ = some (.int .i64 t[i].kind) ∧ w.cell? ⟨b, o + i * 5 + 1, none⟩ = some (.string t[i].tag) ∧
      w.cell? ⟨b, o + i * 5 + 2, none⟩ = some (.string t[i].text) ∧ w.cell? ⟨b, o + i * 5 + 3, none⟩ = some (.slice t[i].aa t[i].attrs.length t[i].ac) ∧
      w.cell? ⟨b, o + i * 5 + 4, none⟩ = some (.int .i64 t[i].size) ∧ t[i].Ok w B := by
  obtain ⟨hm, hs, hr⟩ := h
  rcases hr with h1 | ⟨b, o, ha, hbB, hc⟩
  · subst h1; simp at h0
  · refine ⟨b, o, ha, hbB, fun i hi => ?_⟩
    have := hc i hi
    simp only [List.getD_eq_getElem?_getD, List.getElem?_eq_getElem hi, Option.getD_some] at this
    exact ⟨this.1, this.2.1, this.2.2.1, this.2.2.2.1, this.2.2.2.2, hs _ (List.getElem_mem hi)⟩

end Go.Proofs.Ytjebadadimejpaa

namespace Go.Proofs.Ytjebadadimejpaa
open Go.RowKit

/-- How many nodes the node at a place is, with all beneath it (0 where Go's number is below 0). -/
def sz (t : List Nd) (i : Nat) : Nat := (t.getD i default).size.toNat

/-- From lo up to hi the sizes are those of trees, one within the other. -/
def Lam (t : List Nd) (lo hi : Nat) : Prop :=
  ∀ i, lo ≤ i → i < hi → (t.getD i default).size = (sz t i : Int) ∧ 1 ≤ sz t i ∧ i + sz t i ≤ hi ∧ ∀ j, i < j → j < i + sz t i → j + sz t j ≤ i + sz t i

theorem Lam.empty (t : List Nd) (lo : Nat) : Lam t lo lo := fun i h1 h2 => by omega

theorem Lam.snoc {t : List Nd} {lo k : Nat} (h : Lam t lo k) (h2 : Lam t k (k + sz t k)) : Lam t lo (k + sz t k) := by
  intro i hi hk
  by_cases e : i < k
  · obtain ⟨a, b, c, d⟩ := h i hi e
    exact ⟨a, b, by omega, d⟩
  · exact h2 i (by omega) hk

theorem Lam.node {t : List Nd} {i : Nat} (hs : (t.getD i default).size = (sz t i : Int)) (h1 : 1 ≤ sz t i) (h : Lam t (i + 1) (i + sz t i)) : Lam t i (i + sz t i) := by
  intro j hj hk
  by_cases e : j = i
  · subst e
    exact ⟨hs, h1, Nat.le_refl _, fun m hm hm2 => (h m hm hm2).2.2.1⟩
  · exact h j (by omega) hk

structure SizedP (t : List Nd) (i en : Nat) : Prop where
  pos : 1 ≤ sz t i
  top : i + sz t i ≤ en
  lam : Lam t i (i + sz t i)

def SomeB (P : Bool → Prop) (w : World) (e : Ending) (w' : World) : Prop := ∃ b, e = .returned (.bool b) ∧ P b ∧ w = w'

end Go.Proofs.Ytjebadadimejpaa

namespace Go.Proofs.Ytjebadadimejpaa
open Go.RowKit
set_option linter.unusedVariables false

/-- The call returns some truth value, and nothing has turned. -/
def AnyB (w : World) (e : Ending) (w' : World) : Prop := ∃ b, e = .returned (.bool b) ∧ w = w'

theorem wrap_byte (b : UInt8) : wrap64 (b.toNat : Int) = (b.toNat : Int) := by
  have := b.toNat_lt
  exact IntWalk.wrap64_in _ ⟨by omega, by omega⟩

/-- A code point and how many bytes it has: none, or as many as are there. -/
def AnyP (s : ByteArray) (k : Nat) (w : World) (e : Ending) (w' : World) : Prop :=
  ∃ (p : Int) (n : Nat), e = .returned (.tuple #[.int .i64 p, .int .i64 n]) ∧ k + n ≤ s.size ∧ w = w'


end Go.Proofs.Ytjebadadimejpaa

namespace Go.Proofs.Ytjebadadimejpaa
open Go.RowKit
set_option linter.unusedVariables false

/-- A slice whose elements are of one cell: they lie below block B. -/
def RSl (w : World) (B : Nat) (a : Option Addr) (xs : List Value) : Prop :=
  xs = [] ∨ ∃ b o, a = some ⟨b, o, none⟩ ∧ b < B ∧ ∀ i (h : i < xs.length), w.cell? ⟨b, o + i, none⟩ = some xs[i]

theorem RSl.below {w w' : World} {B : Nat} {a : Option Addr} {xs : List Value} (h : RSl w B a xs) (hb : Below B w w') : RSl w' B a xs := by
  rcases h with h0 | ⟨b, o, ha, hbB, hc⟩
  · exact .inl h0
  · exact .inr ⟨b, o, ha, hbB, fun i hi => (hb.cell (p := ⟨b, _, none⟩) hbB).trans (hc i hi)⟩

theorem RSl.more {w : World} {B B' : Nat} {a : Option Addr} {xs : List Value} (h : RSl w B a xs) (hB : B ≤ B') : RSl w B' a xs := by
  rcases h with h0 | ⟨b, o, ha, hbB, hc⟩
  · exact .inl h0
  · exact .inr ⟨b, o, ha, by omega, hc⟩

theorem RSl.at_ {w : World} {B : Nat} {a : Option Addr} {xs : List Value} (h : RSl w B a xs) (h0 : 0 < xs.length) :
    ∃ b o, a = some ⟨b, o, none⟩ ∧ b < B ∧ ∀ i (h : i < xs.length), w.cell? ⟨b, o + i, none⟩ = some xs[i] := by
  rcases h with h1 | h1
  · subst h1; simp at h0
  · exact h1

theorem ret_i {k : IntKind} {x y : Int} (h : x = y) : Ending.returned (.int k y) = .returned (.int k x) := by rw [h]

/-- What the call owns, read as a slice. -/
theorem RSl.own {w : World} {base e n : Nat} {v : Value} {xs : List Value} (h : w.ownsRow base e 1 v n xs) : ∃ a c, v = .slice a n c ∧ xs.length = n ∧ RSl w w.heap.size a xs := by
  have hl : xs.length = n := by have := h.1; omega
  rcases h.2 with ⟨rfl, rfl⟩ | ⟨g, cap, cur, rfl, hb, hg, _⟩
  · exact ⟨none, 0, rfl, hl, .inl (List.eq_nil_of_length_eq_zero hl)⟩
  · refine ⟨_, _, rfl, hl, .inr ⟨g, 0, rfl, (Array.getElem?_eq_some_iff.1 hg).1, fun i hi => ?_⟩⟩
    have := h.cells (g := g) rfl i xs[i] (List.getElem?_eq_getElem hi)
    rw [Addr.add_lit] at this
    exact this

theorem Try.info3 : (Try.prog.info? 3).map (fun i => (i.zero, i.size, i.bytes)) = some (some (.int .i64 0), 1, 8) := by kernel_rfl

/-- The places from k on, one tree behind the other, up to e. -/
def kidsFrom (t : List Nd) : Nat → Nat → Nat → List Nat
  | 0, _, _ => []
  | f + 1, k, e => if k < e then k :: kidsFrom t f (k + sz t k) e else []

/-- The kids of a node. -/
def kidsL (t : List Nd) (i : Nat) : List Nat := kidsFrom t (sz t i) (i + 1) (i + sz t i)

def ints (l : List Nat) : List Value := l.map fun (n : Nat) => Value.int .i64 (n : Int)

theorem ints_length (l : List Nat) : (ints l).length = l.length := by simp [ints]

theorem Lam.from_ {t : List Nd} {lo hi m : Nat} (h : Lam t lo hi) (hm : lo ≤ m) : Lam t m hi := fun i h1 h2 => h i (by omega) h2

theorem kidsFrom_fuel (t : List Nd) (e : Nat) : ∀ (f f' k : Nat), e ≤ k + f → e ≤ k + f' → Lam t k e → kidsFrom t f k e = kidsFrom t f' k e := by
  intro f
  induction f with
  | zero =>
    intro f' k h1 h2 hl
    cases f' with
    | zero => rfl
    | succ f' => simp only [kidsFrom]; rw [if_neg (by omega)]
  | succ f ih =>
    intro f' k h1 h2 hl
    cases f' with
    | zero => simp only [kidsFrom]; rw [if_neg (by omega)]
    | succ f' =>
      simp only [kidsFrom]
      by_cases hk : k < e
      · rw [if_pos hk, if_pos hk]
        have := (hl k (Nat.le_refl _) hk).2.1
        rw [ih f' (k + sz t k) (by omega) (by omega) (hl.from_ (by omega))]
      · rw [if_neg hk, if_neg hk]

/-- The kids gathered so far, and those to come. -/
theorem kidsFrom_step {t : List Nd} {k e : Nat} (hl : Lam t k e) (hk : k < e) : kidsFrom t (e - k) k e = k :: kidsFrom t (e - (k + sz t k)) (k + sz t k) e := by
  have h1 := (hl k (Nat.le_refl _) hk).2.1
  obtain ⟨d, hd⟩ : ∃ d, e - k = d + 1 := ⟨e - k - 1, by omega⟩
  rw [hd]
  simp only [kidsFrom]
  rw [if_pos hk, kidsFrom_fuel t e d (e - (k + sz t k)) _ (by omega) (by omega) (hl.from_ (by omega))]

theorem kidsL_eq {t : List Nd} {i : Nat} (hl : Lam t i (i + sz t i)) (h1 : 1 ≤ sz t i) : kidsL t i = kidsFrom t (i + sz t i - (i + 1)) (i + 1) (i + sz t i) :=
  kidsFrom_fuel t _ _ _ _ (by omega) (by omega) (hl.from_ (by omega))

/-- Kids: the contract. -/
def KidsPost (t : List Nd) (i : Nat) (w : World) (e : Ending) (w' : World) : Prop :=
  ∃ a c, e = .returned (.slice a (kidsL t i).length c) ∧ RSl w' w'.heap.size a (ints (kidsL t i)) ∧ Below w.heap.size w w'

theorem size_at {t : List Nd} {k : Nat} (hk : k < t.length) (h : (t.getD k default).size = (sz t k : Int)) : t[k].size = (sz t k : Int) := by
  rw [List.getD_eq_getElem?_getD, List.getElem?_eq_getElem hk, Option.getD_some] at h
  exact h

/-- What holds at the head of each round of Kids' loop. -/
def KidsRel (t : List Nd) (i : Nat) (w : World) (v : Value) (x : Value) (wr : World) : Prop :=
  ∃ (k : Nat) (acc : List Nat), i + 1 ≤ k ∧ k ≤ i + sz t i ∧ x = .int .i64 k ∧ acc ++ kidsFrom t (i + sz t i - k) k (i + sz t i) = kidsL t i ∧ acc.length ≤ k ∧
    wr.ownsRow w.heap.size 3 1 v acc.length (ints acc) ∧ Below w.heap.size w wr

/-- Parent: the place of the node whose kid a node is; -1 of the root. -/
def parI (t : List Nd) (i : Nat) : Nat → Int
  | 0 => -1
  | j + 1 => if i < j + sz t j then j else parI t i j

end Go.Proofs.Ytjebadadimejpaa

namespace Go.Proofs.Ytjebadadimejpaa
open Go.RowKit
set_option linter.unusedVariables false

def AnyBB (w : World) (e : Ending) (w' : World) : Prop := ∃ b, e = .returned (.bool b) ∧ Below w.heap.size w w'

/-- A truth value; if it is yes, something is so; at most draws are made. -/
def SomeBD (P : Prop) (w : World) (e : Ending) (w' : World) : Prop := ∃ b n, e = .returned (.bool b) ∧ (b = true → P) ∧ w' = w.drewN n

def keyAt (l : List At2) (i : Nat) : ByteArray := (l.getD i default).key

structure AttrsP (l : List At2) : Prop where
  len : l.length ≤ 20
  once : ∀ i j, i < j → j < l.length → keyAt l i ≠ keyAt l j

theorem kidsFrom_lt (t : List Nd) (e : Nat) : ∀ (f k : Nat), ∀ x ∈ kidsFrom t f k e, k ≤ x ∧ x < e := by
  intro f
  induction f with
  | zero => intro k x hx; simp [kidsFrom] at hx
  | succ f ih =>
    intro k x hx
    simp only [kidsFrom] at hx
    by_cases hk : k < e
    · rw [if_pos hk] at hx
      rcases List.mem_cons.1 hx with rfl | hx
      · omega
      · have := ih _ x hx; omega
    · rw [if_neg hk] at hx; simp at hx

theorem kidsFrom_len (t : List Nd) (e : Nat) : ∀ (f k : Nat), (kidsFrom t f k e).length ≤ f := by
  intro f
  induction f with
  | zero => intro k; simp [kidsFrom]
  | succ f ih =>
    intro k
    simp only [kidsFrom]
    by_cases hk : k < e
    · rw [if_pos hk, List.length_cons]; have := ih (k + sz t k); omega
    · rw [if_neg hk]; simp

theorem kidsL_lt {t : List Nd} (_hl : Lam t 0 t.length) (h1 : sz t 0 = t.length) : ∀ k ∈ kidsL t 0, k < t.length := by
  intro k hk
  have := kidsFrom_lt t _ _ _ k hk
  omega

theorem kidsL_len {t : List Nd} (_hl : Lam t 0 t.length) (h1 : sz t 0 = t.length) : (kidsL t 0).length ≤ t.length := by
  have := kidsFrom_len t (0 + sz t 0) (sz t 0) (0 + 1)
  unfold kidsL; omega

end Go.Proofs.Ytjebadadimejpaa

namespace Go.Proofs.Ytjebadadimejpaa
open Go.RowKit
set_option linter.unusedVariables false

theorem emp_yes {s : ByteArray} (h : s.toList.isEmpty = true) : s.size = 0 := by
  rw [ByteArray.toList_eq] at h
  have h2 : s.data.toList = [] := by simpa using h
  have h3 : s.data.toList.length = 0 := by rw [h2]; rfl
  simpa using h3

theorem emp_no {s : ByteArray} (h : s.toList.isEmpty = false) : 0 < s.size := by
  rw [ByteArray.toList_eq] at h
  rcases Nat.eq_zero_or_pos s.size with h0 | h0
  · have h2 : s.data.toList = [] := by
      apply List.eq_nil_of_length_eq_zero
      simpa using h0
    rw [h2] at h
    simp at h
  · exact h0

theorem NSl.more {w : World} {B B' : Nat} {a : Option Addr} {t : List Nd} (h : NSl w B a t) (hB : B ≤ B') : NSl w B' a t := by
  obtain ⟨hm, hs, hr⟩ := h
  refine ⟨hm, fun x hx => (hs x hx).more hB, ?_⟩
  rcases hr with h0 | ⟨b, o, ha, hbB, hc⟩
  · exact .inl h0
  · exact .inr ⟨b, o, ha, by omega, hc⟩

/-- The list lies as it lay behind whatever leaves old memory alone. -/
theorem NSl.up {w w' : World} {a : Option Addr} {t : List Nd} (h : NSl w w.heap.size a t) (hb : Below w.heap.size w w') : NSl w' w'.heap.size a t := (h.below hb).more hb.size
theorem RSl.up {w w' : World} {a : Option Addr} {xs : List Value} (h : RSl w w.heap.size a xs) (hb : Below w.heap.size w w') : RSl w' w'.heap.size a xs := (h.below hb).more hb.size

/-- What a node's kind says of it. -/
structure NodeP (t : List Nd) (i : Nat) (x : Nd) : Prop where
  kinds : (x.kind = 1 ∧ i = 0) ∨ (x.kind = 2 ∧ x.size = 1 ∧ parI t i i = 0) ∨ (x.kind = 3 ∧ AttrsP x.attrs) ∨ ((x.kind = 4 ∨ x.kind = 5) ∧ x.size = 1)
  text : x.kind = 1 ∨ x.kind = 3 → x.text.size = 0
  tag : x.kind ≠ 3 → x.tag.size = 0 ∧ x.attrs.length = 0

def SomeBB (P : Prop) (w : World) (e : Ending) (w' : World) : Prop := ∃ b, e = .returned (.bool b) ∧ (b = true → P) ∧ Below w.heap.size w w'

end Go.Proofs.Ytjebadadimejpaa

namespace Go.Proofs.Ytjebadadimejpaa
open Go.RowKit
set_option linter.unusedVariables false

/-- What the reference's 'Right' says of a tree. -/
structure RightP (t : List Nd) : Prop where
  pos : 0 < t.length
  le : t.length ≤ 200
  top : sz t 0 = t.length
  root : (t.getD 0 default).kind = 1
  lam : Lam t 0 t.length
  node : ∀ i (h : i < t.length), NodeP t i t[i]
  text : ∀ i (h : i < t.length), t[i].text.size ≤ 4000
  vals : ∀ i (h : i < t.length), ∀ x ∈ t[i].attrs, x.val.size ≤ 4000

theorem getD_at {t : List Nd} {k : Nat} (hk : k < t.length) : t.getD k default = t[k] := by
  rw [List.getD_eq_getElem?_getD, List.getElem?_eq_getElem hk, Option.getD_some]

/-- What is known of the first k nodes. -/
structure Seen (t : List Nd) (k : Nat) : Prop where
  node : ∀ i (h : i < t.length), i < k → NodeP t i t[i]
  text : ∀ i (h : i < t.length), i < k → t[i].text.size ≤ 4000
  vals : ∀ i (h : i < t.length), i < k → ∀ x ∈ t[i].attrs, x.val.size ≤ 4000

end Go.Proofs.Ytjebadadimejpaa

namespace Go.Proofs.Ytjebadadimejpaa
open Go.RowKit
set_option linter.unusedVariables false

/-- From lo up to hi stand nodes beneath a document. -/
def KidsOk (t : List Nd) (lo hi : Nat) : Prop := ∀ i, lo ≤ i → i < hi → 2 ≤ (t.getD i default).kind ∧ (t.getD i default).kind ≤ 5 ∧ ((t.getD i default).kind ≠ 3 → sz t i = 1)

def TrueB (w : World) (e : Ending) (w' : World) : Prop := e = .returned (.bool true) ∧ Below w.heap.size w w'

theorem RightP.kids {t : List Nd} (h : RightP t) : KidsOk t 1 t.length := by
  intro i hi1 hi2
  rw [getD_at hi2]
  have hs := size_at hi2 (h.lam i (by omega) hi2).1
  rcases (h.node i hi2).kinds with ⟨_, h0⟩ | ⟨hk, h1, _⟩ | ⟨hk, _⟩ | ⟨hk, h1⟩
  · omega
  · rw [hk]; exact ⟨by omega, by omega, fun _ => by omega⟩
  · rw [hk]; exact ⟨by omega, by omega, fun h => absurd rfl h⟩
  · exact ⟨by omega, by omega, fun _ => by omega⟩

end Go.Proofs.Ytjebadadimejpaa

namespace Go.Proofs.Ytjebadadimejpaa
open Go.RowKit
set_option linter.unusedVariables false

/-- append onto a row of the call's own, as one step of a region that draws its order. -/
theorem step_append_own {P : Program} {ops : Array Oper} {o : Oper} {a : Act} {w : World} {K : Act → World → Prop} {Q : Exit → Act → World → Prop} {E : Prop} (hgd : o.guard = none) (s x : Operand) (t : TypeId)
    (ho : o.op = .call { callee := .builtin .append, args := #[s, x], argTypes := #[t, t] })
    (base : Nat) (e : TypeId) (i : TypeInfo) (z : Value) (size bytes : Nat) (ht : P.underlying t = some (.slice e)) (hi : P.info? e = some i) (hz : i.zero = some z)
    (hsize : i.size = size) (hby : i.bytes = bytes) (hzs : z.cells.size = size) (hsz : 0 < size)
    (v : Value) (n : Nat) (xs : List Value) (hs : a.eval s = v) (hown : w.ownsRow base e size v n xs)
    (ad : Addr) (m c : Nat) (news : List Value) (hx : a.eval x = .slice (some ad) m c) (hl : news.length = m * size) (hnews : ∀ j u, news[j]? = some u → w.cell? (ad.add j) = some u) (h1 : ∀ u ∈ news, u.oneCell' = true)
    (h63 : n + m ≤ maxLen) (hbytes : (n + m) * bytes ≤ 140737488355328) (hbase : base ≤ w.heap.size)
    (h : ∀ v' w', w'.ownsRow base e size v' (n + m) (xs ++ news) → w.grownBy w' v.ownBlock → (v' = .slice none 0 0 ↔ v = .slice none 0 0 ∧ m = 0) → K (a.put o.dst v') w') :
    if Region.wanted o (yielded ops a.tmps) = true then Oper.wp P o a w K Q else E := by
  have hw : Region.wanted o (yielded ops a.tmps) = true := by simp [Region.wanted, hgd]
  rw [if_pos hw]
  exact wp_append_own w s x t ho base e i z size bytes ht hi hz hsize hby hzs hsz v n xs hs hown ad m c news hx hl hnews h1 h63 hbytes hbase h

theorem own_slice {w : World} {base e size n : Nat} {v : Value} {xs : List Value} (h : w.ownsRow base e size v n xs) : ∃ a c, v = .slice a n c := by
  rcases h.2 with ⟨rfl, rfl⟩ | ⟨g, cap, cur, rfl, _⟩
  · exact ⟨none, 0, rfl⟩
  · exact ⟨_, _, rfl⟩

/-- .. the value shown as the slice that it is. -/
theorem step_append_slice {P : Program} {ops : Array Oper} {o : Oper} {a : Act} {w : World} {K : Act → World → Prop} {Q : Exit → Act → World → Prop} {E : Prop} (hgd : o.guard = none) (s x : Operand) (t : TypeId)
    (ho : o.op = .call { callee := .builtin .append, args := #[s, x], argTypes := #[t, t] })
    (base : Nat) (e : TypeId) (i : TypeInfo) (z : Value) (size bytes : Nat) (ht : P.underlying t = some (.slice e)) (hi : P.info? e = some i) (hz : i.zero = some z)
    (hsize : i.size = size) (hby : i.bytes = bytes) (hzs : z.cells.size = size) (hsz : 0 < size)
    (v : Value) (n : Nat) (xs : List Value) (hs : a.eval s = v) (hown : w.ownsRow base e size v n xs)
    (ad : Addr) (m c : Nat) (news : List Value) (hx : a.eval x = .slice (some ad) m c) (hl : news.length = m * size) (hnews : ∀ j u, news[j]? = some u → w.cell? (ad.add j) = some u) (h1 : ∀ u ∈ news, u.oneCell' = true)
    (h63 : n + m ≤ maxLen) (hbytes : (n + m) * bytes ≤ 140737488355328) (hbase : base ≤ w.heap.size)
    (h : ∀ a' c' w', w'.ownsRow base e size (.slice a' (n + m) c') (n + m) (xs ++ news) → w.grownBy w' v.ownBlock → K (a.put o.dst (.slice a' (n + m) c')) w') :
    if Region.wanted o (yielded ops a.tmps) = true then Oper.wp P o a w K Q else E := by
  refine step_append_own hgd s x t ho base e i z size bytes ht hi hz hsize hby hzs hsz v n xs hs hown ad m c news hx hl hnews h1 h63 hbytes hbase ?_
  intro v' w' h2 h3 _
  obtain ⟨a', c', rfl⟩ := own_slice h2
  exact h a' c' w' h2 h3

theorem new3 (W : World) (O : Obj) (a b c : Value) (T : TypeId) : ∀ j u, [a, b, c][j]? = some u → ((W.alloc O).alloc (.cells #[a, b, c] T)).drew.cell? ((⟨W.heap.size + 1, 0, none⟩ : Addr).add j) = some u := by
  intro j u hj
  have e : ((W.alloc O).alloc (.cells #[a, b, c] T)).heap[W.heap.size + 1]? = some (.cells #[a, b, c] T (0, 0)) := by
    have := heap_alloc_new (W.alloc O) (.cells #[a, b, c] T)
    simpa using this
  rw [Addr.add_lit, Nat.zero_add]
  show ((W.alloc O).alloc (.cells #[a, b, c] T)).cell? _ = _
  rw [cell_of_row _ _ j _ _ _ e]
  rw [← hj]
  simp

/-- The attributes as html lays them: no namespace, the key, the value. -/
def flatA (l : List At2) : List Value := l.flatMap fun x => [.string ⟨#[]⟩, .string x.key, .string x.val]

theorem flatA_snoc (l : List At2) (x : At2) : flatA (l ++ [x]) = flatA l ++ [.string ⟨#[]⟩, .string x.key, .string x.val] := by simp [flatA]

theorem Try.infoA : (Try.prog.info? 56).map (fun i => (i.zero, i.size, i.bytes)) = some (some (.agg #[.string ⟨#[]⟩, .string ⟨#[]⟩, .string ⟨#[]⟩]), 3, 48) := by kernel_rfl

def typOf (k : Int) : Int := if k = 1 then 2 else if k = 2 then 5 else if k = 4 then 1 else if k = 5 then 4 else 3
/-- What stands in Data. -/
def datOf (x : Nd) : ByteArray := if x.kind = 1 then ⟨#[]⟩ else if x.kind = 2 ∨ x.kind = 4 ∨ x.kind = 5 then x.text else x.tag
def atsOf (x : Nd) : List At2 := if x.kind = 1 ∨ x.kind = 2 ∨ x.kind = 4 ∨ x.kind = 5 then [] else x.attrs

/-- A new node: its block, without kin; its attributes in a row of their own. -/
def AlonePost (x : Nd) (w : World) (e : Ending) (w' : World) : Prop :=
  ∃ (g : Nat) (aa : Option Addr) (ac : Nat), e = .returned (.pointer (some ⟨g, 0, none⟩)) ∧ w.heap.size ≤ g ∧
    w'.heap[g]? = some (.cells #[.pointer none, .pointer none, .pointer none, .pointer none, .pointer none, .int .u32 (typOf x.kind), .int .u32 0, .string (datOf x), .string ⟨#[]⟩, .slice aa (atsOf x).length ac] 54 (0, 0)) ∧
    w'.ownsRow (g + 1) 56 3 (.slice aa (atsOf x).length ac) (atsOf x).length (flatA (atsOf x)) ∧ Below w.heap.size w w'

end Go.Proofs.Ytjebadadimejpaa

namespace Go.Proofs.Ytjebadadimejpaa
open Go.RowKit
set_option linter.unusedVariables false

/-- A node, as data: its kin by their numbers. -/
structure Dn where
  par : Option Nat
  fst : Option Nat
  lst : Option Nat
  prv : Option Nat
  nxt : Option Nat
  typ : Int
  dat : ByteArray
  ats : List At2

/-- The pointer to a node. -/
def ptrTo (bl : Nat → Nat) (o : Option Nat) : Value := .pointer (o.map fun j => ⟨bl j, 0, none⟩)

def dnCells (bl : Nat → Nat) (d : Dn) (aa : Option Addr) (ac : Nat) : Array Value :=
  #[ptrTo bl d.par, ptrTo bl d.fst, ptrTo bl d.lst, ptrTo bl d.prv, ptrTo bl d.nxt, .int .u32 d.typ, .int .u32 0, .string d.dat, .string ⟨#[]⟩, .slice aa d.ats.length ac]

/-- The nodes of S lie in memory from block B on, each in a block of its own, as st says. -/
structure Dom (w : World) (B : Nat) (S : Nat → Prop) (bl : Nat → Nat) (st : Nat → Dn) : Prop where
  node : ∀ i, S i → B ≤ bl i ∧ ∃ aa ac, w.heap[bl i]? = some (.cells (dnCells bl (st i) aa ac) 54 (0, 0)) ∧
    w.ownsRow B 56 3 (.slice aa (st i).ats.length ac) (st i).ats.length (flatA (st i).ats)
  inj : ∀ i j, S i → S j → bl i = bl j → i = j

def upd (st : Nat → Dn) (i : Nat) (d : Dn) : Nat → Dn := fun k => if k = i then d else st k
theorem upd_same (st : Nat → Dn) (i : Nat) (d : Dn) : upd st i d i = d := by simp [upd]
theorem upd_other (st : Nat → Dn) (i k : Nat) (d : Dn) (h : k ≠ i) : upd st i d k = st k := by simp [upd, h]

/-- One of the five pointers of a node, by its place in the struct. -/
def Dn.set (d : Dn) (j : Nat) (o : Option Nat) : Dn :=
  match j with
  | 0 => { d with par := o }
  | 1 => { d with fst := o }
  | 2 => { d with lst := o }
  | 3 => { d with prv := o }
  | _ => { d with nxt := o }

theorem dnCells_set (bl : Nat → Nat) (d : Dn) (aa : Option Addr) (ac : Nat) (j : Nat) (hj : j < 5) (o : Option Nat) :
    (dnCells bl d aa ac).setIfInBounds j (ptrTo bl o) = dnCells bl (d.set j o) aa ac ∧ (d.set j o).ats = d.ats := by
  match j, hj with
  | 0, _ => exact ⟨rfl, rfl⟩
  | 1, _ => exact ⟨rfl, rfl⟩
  | 2, _ => exact ⟨rfl, rfl⟩
  | 3, _ => exact ⟨rfl, rfl⟩
  | 4, _ => exact ⟨rfl, rfl⟩

theorem own_ne {w : World} {base e size n : Nat} {v : Value} {xs : List Value} (h : w.ownsRow base e size v n xs) {g : Nat} {cs : Array Value} {t : TypeId} (hg : w.heap[g]? = some (.cells cs t (0, 0))) (hne : e ≠ t) : v.ownBlock ≠ some g := by
  rcases h.2 with ⟨rfl, _⟩ | ⟨g', cap, cur, rfl, _, hh, _⟩
  · simp [Value.ownBlock]
  · intro he
    have e1 : g' = g := by simpa [Value.ownBlock] using he
    subst e1
    rw [hh] at hg
    simp at hg
    exact hne hg.2

theorem own_setCell {w : World} {base e size n : Nat} {v : Value} {xs : List Value} (h : w.ownsRow base e size v n xs) {p : Addr} (hne : v.ownBlock ≠ some p.block) (u : Value) : (w.setCell p u).ownsRow base e size v n xs := by
  refine ⟨h.1, ?_⟩
  rcases h.2 with h2 | ⟨g, cap, cur, rfl, hg, hh, r⟩
  · exact .inl h2
  · refine .inr ⟨g, cap, cur, rfl, hg, ?_, r⟩
    rw [Below.heap_setCell _ _ _ _ (fun e => hne (by simp [Value.ownBlock, e]))]
    exact hh

/-- A store into one of the five pointers of a node. -/
theorem Dom.set {w : World} {B : Nat} {S : Nat → Prop} {bl : Nat → Nat} {st : Nat → Dn} (h : Dom w B S bl st) {i : Nat} (hi : S i) (j : Nat) (hj : j < 5) (o : Option Nat) :
    Dom (w.setCell ⟨bl i, j, none⟩ (ptrTo bl o)) B S bl (upd st i ((st i).set j o)) := by
  refine ⟨fun k hk => ?_, h.inj⟩
  obtain ⟨hB, aa, ac, hh, hown⟩ := h.node k hk
  refine ⟨hB, aa, ac, ?_⟩
  have hown2 : (w.setCell ⟨bl i, j, none⟩ (ptrTo bl o)).ownsRow B 56 3 (.slice aa (st k).ats.length ac) (st k).ats.length (flatA (st k).ats) := by
    obtain ⟨_, _, _, hhi, _⟩ := h.node i hi
    exact own_setCell hown (own_ne hown hhi (by decide)) _
  by_cases e : k = i
  · subst e
    obtain ⟨e1, e2⟩ := dnCells_set bl (st k) aa ac j hj o
    rw [upd_same, e2]
    refine ⟨?_, hown2⟩
    have := heap_setCell_same w (bl k) j _ _ (ptrTo bl o) hh
    rw [this, e1]
  · rw [upd_other _ _ _ _ e]
    refine ⟨?_, hown2⟩
    rw [Below.heap_setCell _ _ _ _ (fun e2 => e (h.inj k i hk hi e2))]
    exact hh

/-- What the walk asks of a node: its five pointers, each of which may be written. -/
theorem Dom.cells {w : World} {B : Nat} {S : Nat → Prop} {bl : Nat → Nat} {st : Nat → Dn} (h : Dom w B S bl st) {i : Nat} (hi : S i) :
    (∀ j, w.frozen? ⟨bl i, j, none⟩ = false) ∧ w.cell? ⟨bl i, 0, none⟩ = some (ptrTo bl (st i).par) ∧ w.cell? ⟨bl i, 1, none⟩ = some (ptrTo bl (st i).fst) ∧ w.cell? ⟨bl i, 2, none⟩ = some (ptrTo bl (st i).lst) ∧
      w.cell? ⟨bl i, 3, none⟩ = some (ptrTo bl (st i).prv) ∧ w.cell? ⟨bl i, 4, none⟩ = some (ptrTo bl (st i).nxt) ∧ w.cell? ⟨bl i, 5, none⟩ = some (.int .u32 (st i).typ) ∧ w.cell? ⟨bl i, 7, none⟩ = some (.string (st i).dat) ∧
      ∃ aa ac, w.cell? ⟨bl i, 9, none⟩ = some (.slice aa (st i).ats.length ac) ∧ w.ownsRow B 56 3 (.slice aa (st i).ats.length ac) (st i).ats.length (flatA (st i).ats) := by
  obtain ⟨hB, aa, ac, hh, hown⟩ := h.node i hi
  refine ⟨fun j => frozen_of_row w _ j _ _ hh, ?_, ?_, ?_, ?_, ?_, ?_, ?_, aa, ac, ?_, hown⟩
  all_goals (rw [cell_of_row w _ _ _ _ _ hh]; rfl)

/-- AppendChild, on the nodes as data. -/
def appSt (st : Nat → Dn) (p c : Nat) : Nat → Dn :=
  let l := (st p).lst
  let s1 := match l with
    | some q => upd st q ((st q).set 4 (some c))
    | none => upd st p ((st p).set 1 (some c))
  let s2 := upd s1 p ((s1 p).set 2 (some c))
  let s3 := upd s2 c ((s2 c).set 0 (some p))
  upd s3 c ((s3 c).set 3 l)

/-- Nothing but the nodes of S has turned. -/
structure Only (S : Nat → Prop) (bl : Nat → Nat) (w w' : World) : Prop where
  os : w'.os = w.os
  tape : w'.tape = w.tape
  output : w'.output = w.output
  size : w'.heap.size = w.heap.size
  block : ∀ b, (∀ i, S i → b ≠ bl i) → w'.heap[b]? = w.heap[b]?

theorem Only.refl (S : Nat → Prop) (bl : Nat → Nat) (w : World) : Only S bl w w := ⟨rfl, rfl, rfl, rfl, fun _ _ => rfl⟩
theorem Only.setCell {S : Nat → Prop} {bl : Nat → Nat} {w w' : World} (h : Only S bl w w') {i : Nat} (hi : S i) (j : Nat) (u : Value) : Only S bl w (w'.setCell ⟨bl i, j, none⟩ u) :=
  ⟨h.os, h.tape, h.output, by rw [← h.size]; simp [World.setCell], fun b hb => (Below.heap_setCell _ _ _ _ (by exact hb i hi)).trans (h.block b hb)⟩

def AppPost (S : Nat → Prop) (B : Nat) (bl : Nat → Nat) (st' : Nat → Dn) (w : World) (e : Ending) (w' : World) : Prop :=
  e = .returned (.tuple #[]) ∧ Dom w' B S bl st' ∧ Only S bl w w'

end Go.Proofs.Ytjebadadimejpaa

namespace Go.Proofs.Ytjebadadimejpaa
open Go.RowKit
set_option linter.unusedVariables false

/-- p is the node right above i. -/
def IsPar (ext : Nat → Nat) (a p i : Nat) : Prop := a ≤ p ∧ p < i ∧ i < p + ext p ∧ ∀ m, p < m → m < i → m + ext m ≤ i

theorem IsPar.uniq {ext : Nat → Nat} {a p q i : Nat} (h : IsPar ext a p i) (k : IsPar ext a q i) : p = q := by
  obtain ⟨h1, h2, h3, h4⟩ := h
  obtain ⟨k1, k2, k3, k4⟩ := k
  rcases Nat.lt_trichotomy p q with e | e | e
  · have := h4 q e k2; omega
  · exact e
  · have := k4 p e h2; omega

structure NodeOk (ext : Nat → Nat) (a i : Nat) (d : Dn) : Prop where
  fst : d.fst = if 1 < ext i then some (i + 1) else none
  lst0 : ¬ 1 < ext i → d.lst = none
  lst1 : 1 < ext i → ∃ k, d.lst = some k ∧ IsPar ext a i k ∧ k + ext k = i + ext i
  root : i = a → d.par = none ∧ d.prv = none ∧ d.nxt = none
  kin : i ≠ a → ∃ p, IsPar ext a p i ∧ d.par = some p ∧ d.nxt = (if i + ext i < p + ext p then some (i + ext i) else none) ∧ (i = p + 1 → d.prv = none) ∧
    (i ≠ p + 1 → ∃ q, d.prv = some q ∧ IsPar ext a p q ∧ q + ext q = i)

/-- What a node itself holds. -/
structure SelfOk (x : Nd) (d : Dn) : Prop where
  typ : d.typ = typOf x.kind
  dat : d.dat = datOf x
  ats : d.ats = atsOf x

/-- The sizes, the root's cut short. -/
def extK (t : List Nd) (a k : Nat) (i : Nat) : Nat := if i = a then k - a else sz t i
theorem extK_root (t : List Nd) (a k : Nat) : extK t a k a = k - a := by simp [extK]
theorem extK_ne (t : List Nd) (a k i : Nat) (h : i ≠ a) : extK t a k i = sz t i := by simp [extK, h]

def Kin (t : List Nd) (a k : Nat) (st : Nat → Dn) : Prop := ∀ i, a ≤ i → i < k → NodeOk (extK t a k) a i (st i) ∧ SelfOk (t.getD i default) (st i)

def joinF {α : Type} (k : Nat) (f g : Nat → α) : Nat → α := fun i => if i < k then f i else g i
theorem joinF_lo {α : Type} {k : Nat} {f g : Nat → α} {i : Nat} (h : i < k) : joinF k f g i = f i := by simp [joinF, h]
theorem joinF_hi {α : Type} {k : Nat} {f g : Nat → α} {i : Nat} (h : k ≤ i) : joinF k f g i = g i := by simp [joinF]; omega

theorem isPar_low {t : List Nd} {a k k' p i : Nat} (hk : k ≤ k') (hik : i < k) (h : IsPar (extK t a k) a p i) : IsPar (extK t a k') a p i := by
  obtain ⟨h1, h2, h3, h4⟩ := h
  refine ⟨h1, h2, ?_, fun m hm1 hm2 => ?_⟩
  · by_cases e : p = a
    · subst e; rw [extK_root]; omega
    · rw [extK_ne _ _ _ _ e] at h3 ⊢; exact h3
  · have := h4 m hm1 hm2
    rw [extK_ne _ _ _ _ (by omega)] at this ⊢
    exact this

theorem ext_high {t : List Nd} {a k j : Nat} (hak : a < k) (hj : k ≤ j) : extK t a (k + sz t k) j = extK t k (k + sz t k) j := by
  rw [extK_ne _ _ _ _ (by omega)]
  by_cases e : j = k
  · subst e; rw [extK_root]; omega
  · rw [extK_ne _ _ _ _ e]

theorem isPar_high {t : List Nd} {a k p i : Nat} (hak : a < k) (h : IsPar (extK t k (k + sz t k)) k p i) : IsPar (extK t a (k + sz t k)) a p i := by
  obtain ⟨h1, h2, h3, h4⟩ := h
  refine ⟨by omega, h2, ?_, fun m hm1 hm2 => ?_⟩
  · rw [ext_high hak h1]; exact h3
  · have := h4 m hm1 hm2
    rw [ext_high hak (by omega)]; exact this

theorem isPar_new {t : List Nd} {a k : Nat} (hak : a < k) (hl : Lam t (a + 1) k) (h1 : 1 ≤ sz t k) : IsPar (extK t a (k + sz t k)) a a k := by
  refine ⟨Nat.le_refl _, hak, by rw [extK_root]; omega, fun m hm1 hm2 => ?_⟩
  rw [extK_ne _ _ _ _ (by omega)]
  exact (hl m (by omega) hm2).2.2.1

theorem kin_one (t : List Nd) (a : Nat) (d : Dn) (hs : SelfOk (t.getD a default) d) (h1 : d.par = none) (h2 : d.fst = none) (h3 : d.lst = none) (h4 : d.prv = none) (h5 : d.nxt = none) : Kin t a (a + 1) (fun _ => d) := by
  intro i hi1 hi2
  obtain rfl : i = a := by omega
  refine ⟨⟨?_, fun _ => h3, fun h => ?_, fun _ => ⟨h1, h4, h5⟩, fun h => absurd rfl h⟩, hs⟩
  · rw [extK_root, h2, if_neg (by omega)]
  · rw [extK_root] at h; omega

theorem kin_step {t : List Nd} {a k : Nat} {st st2 : Nat → Dn} (hak : a < k) (hl : Lam t (a + 1) k) (h1 : 1 ≤ sz t k) (hA : Kin t a k st) (hB : Kin t k (k + sz t k) st2) :
    Kin t a (k + sz t k) (appSt (joinF k st st2) a k) := by
  have hka := hA a (Nat.le_refl _) hak
  have hkk := hB k (Nat.le_refl _) (by omega)
  have hja : joinF k st st2 a = st a := joinF_lo hak
  have hjk : joinF k st st2 k = st2 k := joinF_hi (Nat.le_refl _)
  obtain ⟨r1, r2, r3⟩ := hkk.1.root rfl
  -- the nodes beneath k, as they are
  have high : ∀ i, k ≤ i → i < k + sz t k → ∀ d : Dn, d.fst = (st2 i).fst → d.lst = (st2 i).lst →
      d.fst = (if 1 < extK t a (k + sz t k) i then some (i + 1) else none) ∧ (¬ 1 < extK t a (k + sz t k) i → d.lst = none) ∧
      (1 < extK t a (k + sz t k) i → ∃ m, d.lst = some m ∧ IsPar (extK t a (k + sz t k)) a i m ∧ m + extK t a (k + sz t k) m = i + extK t a (k + sz t k) i) := by
    intro i hi1 hi2 d e1 e2
    have hn := (hB i hi1 hi2).1
    rw [ext_high hak hi1, e1, e2]
    refine ⟨hn.fst, hn.lst0, fun hx => ?_⟩
    obtain ⟨m, m1, m2, m3⟩ := hn.lst1 hx
    refine ⟨m, m1, isPar_high hak m2, ?_⟩
    rw [ext_high hak (by have := m2.2.1; omega)]
    exact m3
  have low : ∀ i, a < i → i < k → ∀ d : Dn, d.fst = (st i).fst → d.lst = (st i).lst →
      d.fst = (if 1 < extK t a (k + sz t k) i then some (i + 1) else none) ∧ (¬ 1 < extK t a (k + sz t k) i → d.lst = none) ∧
      (1 < extK t a (k + sz t k) i → ∃ m, d.lst = some m ∧ IsPar (extK t a (k + sz t k)) a i m ∧ m + extK t a (k + sz t k) m = i + extK t a (k + sz t k) i) := by
    intro i hi1 hi2 d e1 e2
    have hn := (hA i (by omega) hi2).1
    have ei : extK t a (k + sz t k) i = extK t a k i := by rw [extK_ne _ _ _ _ (by omega), extK_ne _ _ _ _ (by omega)]
    rw [ei, e1, e2]
    refine ⟨hn.fst, hn.lst0, fun hx => ?_⟩
    obtain ⟨m, m1, m2, m3⟩ := hn.lst1 hx
    have hm : m < k := by
      have := (hl i (by omega) hi2).2.2.1
      have h3 := m2.2.2.1
      rw [extK_ne _ _ _ _ (by omega)] at h3
      omega
    refine ⟨m, m1, isPar_low (by omega) hm m2, ?_⟩
    have em : extK t a (k + sz t k) m = extK t a k m := by have := m2.2.1; rw [extK_ne _ _ _ _ (by omega), extK_ne _ _ _ _ (by omega)]
    rw [em]
    exact m3
  -- what is kept of the kin of a node between a and k whose next one does not turn
  have lowkin : ∀ i, a < i → i < k → ∀ p, IsPar (extK t a k) a p i → p ≠ a ∨ i + sz t i < k → (st i).nxt = (if i + extK t a k i < p + extK t a k p then some (i + extK t a k i) else none) →
      (st i).nxt = (if i + extK t a (k + sz t k) i < p + extK t a (k + sz t k) p then some (i + extK t a (k + sz t k) i) else none) := by
    intro i hi1 hi2 p hp hor hnx
    rw [extK_ne _ _ _ _ (show i ≠ a by omega)] at hnx ⊢
    rw [hnx]
    by_cases e : p = a
    · subst e
      rcases hor with h | h
      · exact absurd rfl h
      · rw [extK_root, extK_root, if_pos (by omega), if_pos (by omega)]
    · rw [extK_ne _ _ _ _ e, extK_ne _ _ _ _ e]
  have lowprv : ∀ i p, i < k → (∃ q, (st i).prv = some q ∧ IsPar (extK t a k) a p q ∧ q + extK t a k q = i) → ∃ q, (st i).prv = some q ∧ IsPar (extK t a (k + sz t k)) a p q ∧ q + extK t a (k + sz t k) q = i := by
    rintro i p hi ⟨q, q1, q2, q3⟩
    have hqa : q ≠ a := by have := q2.1; have := q2.2.1; omega
    rw [extK_ne _ _ _ _ hqa] at q3
    refine ⟨q, q1, isPar_low (by omega) (by omega) q2, by rw [extK_ne _ _ _ _ hqa]; exact q3⟩
  have highkin : ∀ i, k < i → i < k + sz t k → ∃ p, IsPar (extK t a (k + sz t k)) a p i ∧ (st2 i).par = some p ∧ (st2 i).nxt = (if i + extK t a (k + sz t k) i < p + extK t a (k + sz t k) p then some (i + extK t a (k + sz t k) i) else none) ∧
      (i = p + 1 → (st2 i).prv = none) ∧ (i ≠ p + 1 → ∃ q, (st2 i).prv = some q ∧ IsPar (extK t a (k + sz t k)) a p q ∧ q + extK t a (k + sz t k) q = i) := by
    intro i hi1 hi2
    obtain ⟨p, p1, p2, p3, p4, p5⟩ := (hB i (by omega) hi2).1.kin (by omega)
    refine ⟨p, isPar_high hak p1, p2, ?_, p4, fun h => ?_⟩
    · rw [ext_high hak (by omega), ext_high hak p1.1]; exact p3
    · obtain ⟨q, q1, q2, q3⟩ := p5 h
      refine ⟨q, q1, isPar_high hak q2, ?_⟩
      rw [ext_high hak (by have := q2.1; have := q2.2.1; omega)]; exact q3
  by_cases ek : k = a + 1
  · have hlst : (st a).lst = none := hka.1.lst0 (by rw [extK_root]; omega)
    intro i hi1 hi2
    unfold appSt
    rw [hja, hlst]
    dsimp only
    by_cases e1 : i = k
    · subst e1
      rw [upd_same, upd_same, upd_other _ _ _ _ (by omega), upd_other _ _ _ _ (by omega), hjk]
      obtain ⟨f1, f2, f3⟩ := high i (Nat.le_refl _) (by omega) (((st2 i).set 0 (some a)).set 3 none) rfl rfl
      refine ⟨⟨f1, f2, f3, fun e => absurd e (by omega), fun _ => ⟨a, isPar_new hak hl h1, rfl, ?_, fun _ => rfl, fun h => absurd ek h⟩⟩, hkk.2.typ, hkk.2.dat, hkk.2.ats⟩
      show (st2 i).nxt = _
      rw [r3, extK_root, extK_ne _ _ _ _ (by omega), if_neg (by omega)]
    · rw [upd_other _ _ _ _ e1, upd_other _ _ _ _ e1]
      by_cases e2 : i = a
      · subst e2
        rw [upd_same, upd_same]
        refine ⟨⟨?_, fun h => absurd (by rw [extK_root]; omega) h, fun _ => ⟨k, rfl, isPar_new hak hl h1, ?_⟩, fun _ => hka.1.root rfl, fun h => absurd rfl h⟩, hka.2.typ, hka.2.dat, hka.2.ats⟩
        · show some k = _
          rw [extK_root, if_pos (by omega), ek]
        · rw [extK_root, extK_ne _ _ _ _ (by omega)]; omega
      · rw [upd_other _ _ _ _ e2, upd_other _ _ _ _ e2, joinF_hi (by omega)]
        obtain ⟨f1, f2, f3⟩ := high i (by omega) hi2 (st2 i) rfl rfl
        exact ⟨⟨f1, f2, f3, fun e => absurd e e2, fun _ => highkin i (by omega) hi2⟩, (hB i (by omega) hi2).2⟩
  · obtain ⟨q, q1, q2, q3⟩ := hka.1.lst1 (by rw [extK_root]; omega)
    have hqa : a < q := q2.2.1
    have hqs : q + sz t q = k := by rw [extK_root, extK_ne _ _ _ _ (by omega)] at q3; omega
    have hqk : q < k := by have := q2.2.2.1; rw [extK_root] at this; omega
    have hjq : joinF k st st2 q = st q := joinF_lo hqk
    have hfst : (st a).fst = some (a + 1) := by rw [hka.1.fst, extK_root, if_pos (by omega)]
    intro i hi1 hi2
    unfold appSt
    rw [hja, q1]
    dsimp only
    by_cases e1 : i = k
    · subst e1
      rw [upd_same, upd_same, upd_other _ _ _ _ (by omega), upd_other _ _ _ _ (by omega), hjk]
      obtain ⟨f1, f2, f3⟩ := high i (Nat.le_refl _) (by omega) (((st2 i).set 0 (some a)).set 3 (some q)) rfl rfl
      refine ⟨⟨f1, f2, f3, fun e => absurd e (by omega), fun _ => ⟨a, isPar_new hak hl h1, rfl, ?_, fun h => absurd h ek, fun _ => ⟨q, rfl, isPar_low (by omega) hqk q2, ?_⟩⟩⟩, hkk.2.typ, hkk.2.dat, hkk.2.ats⟩
      · show (st2 i).nxt = _
        rw [r3, extK_root, extK_ne _ _ _ _ (by omega), if_neg (by omega)]
      · rw [extK_ne _ _ _ _ (by omega)]; exact hqs
    · rw [upd_other _ _ _ _ e1, upd_other _ _ _ _ e1]
      by_cases e2 : i = a
      · subst e2
        rw [upd_same, upd_other _ _ _ _ (by omega), hja]
        refine ⟨⟨?_, fun h => absurd (by rw [extK_root]; omega) h, fun _ => ⟨k, rfl, isPar_new hak hl h1, ?_⟩, fun _ => hka.1.root rfl, fun h => absurd rfl h⟩, hka.2.typ, hka.2.dat, hka.2.ats⟩
        · show (st i).fst = _
          rw [hfst, extK_root, if_pos (by omega)]
        · rw [extK_root, extK_ne _ _ _ _ (by omega)]; omega
      · rw [upd_other _ _ _ _ e2]
        by_cases e3 : i = q
        · subst e3
          rw [upd_same, hjq]
          obtain ⟨f1, f2, f3⟩ := low i hqa hqk ((st i).set 4 (some k)) rfl rfl
          obtain ⟨p, p1, p2, p3, p4, p5⟩ := (hA i (by omega) hqk).1.kin (by omega)
          obtain rfl : p = a := p1.uniq q2
          refine ⟨⟨f1, f2, f3, fun e => absurd e e2, fun _ => ⟨p, isPar_low (by omega) hqk p1, p2, ?_, p4, fun h => lowprv i p hqk (p5 h)⟩⟩, (hA i (by omega) hqk).2.typ, (hA i (by omega) hqk).2.dat, (hA i (by omega) hqk).2.ats⟩
          show some k = _
          rw [extK_root, extK_ne _ _ _ _ e2, if_pos (by omega), hqs]
        · rw [upd_other _ _ _ _ e3]
          by_cases e4 : i < k
          · rw [joinF_lo e4]
            obtain ⟨f1, f2, f3⟩ := low i (by omega) e4 (st i) rfl rfl
            obtain ⟨p, p1, p2, p3, p4, p5⟩ := (hA i (by omega) e4).1.kin e2
            refine ⟨⟨f1, f2, f3, fun e => absurd e e2, fun _ => ⟨p, isPar_low (by omega) e4 p1, p2, lowkin i (by omega) e4 p p1 ?_ p3, p4, fun h => lowprv i p e4 (p5 h)⟩⟩, (hA i (by omega) e4).2⟩
            by_cases e5 : p = a
            · right
              have hle := (hl i (by omega) e4).2.2.1
              rcases Nat.lt_or_ge (i + sz t i) k with h | h
              · exact h
              · exfalso
                subst e5
                rcases Nat.lt_trichotomy i q with h6 | h6 | h6
                · have := q2.2.2.2 i (by omega) h6
                  rw [extK_ne _ _ _ _ (by omega)] at this
                  omega
                · exact e3 h6
                · have := p1.2.2.2 q hqa h6
                  rw [extK_ne _ _ _ _ (by omega)] at this
                  omega
            · exact .inl e5
          · rw [joinF_hi (by omega)]
            obtain ⟨f1, f2, f3⟩ := high i (by omega) hi2 (st2 i) rfl rfl
            exact ⟨⟨f1, f2, f3, fun e => absurd e e2, fun _ => highkin i (by omega) hi2⟩, (hB i (by omega) hi2).2⟩
end Go.Proofs.Ytjebadadimejpaa

namespace Go.Proofs.Ytjebadadimejpaa
open Go.RowKit
set_option linter.unusedVariables false

theorem own_base {w : World} {base base' e size n : Nat} {v : Value} {xs : List Value} (h : w.ownsRow base e size v n xs) (hb : base' ≤ base) : w.ownsRow base' e size v n xs := by
  refine ⟨h.1, ?_⟩
  rcases h.2 with h2 | ⟨g, cap, cur, hv, hg, r⟩
  · exact .inl h2
  · exact .inr ⟨g, cap, cur, hv, by omega, r⟩

theorem own_kept {w w' : World} {base e size n : Nat} {v : Value} {xs : List Value} (h : w.ownsRow base e size v n xs) (hs : ∀ b, base ≤ b → b < w.heap.size → w'.heap[b]? = w.heap[b]?) : w'.ownsRow base e size v n xs := by
  refine ⟨h.1, ?_⟩
  rcases h.2 with h2 | ⟨g, cap, cur, hv, hg, hh, r⟩
  · exact .inl h2
  · refine .inr ⟨g, cap, cur, hv, hg, ?_, r⟩
    rw [hs g hg (Array.getElem?_eq_some_iff.1 hh).1]; exact hh

theorem Dom.kept {w w' : World} {B : Nat} {S : Nat → Prop} {bl : Nat → Nat} {st : Nat → Dn} (h : Dom w B S bl st) (hs : ∀ b, B ≤ b → b < w.heap.size → w'.heap[b]? = w.heap[b]?) : Dom w' B S bl st := by
  refine ⟨fun i hi => ?_, h.inj⟩
  obtain ⟨hB, aa, ac, hh, hown⟩ := h.node i hi
  exact ⟨hB, aa, ac, by rw [hs _ hB (Array.getElem?_eq_some_iff.1 hh).1]; exact hh, own_kept hown hs⟩

theorem Dom.lt {w : World} {B : Nat} {S : Nat → Prop} {bl : Nat → Nat} {st : Nat → Dn} (h : Dom w B S bl st) {i : Nat} (hi : S i) : bl i < w.heap.size := by
  obtain ⟨hB, aa, ac, hh, hown⟩ := h.node i hi
  exact (Array.getElem?_eq_some_iff.1 hh).1

/-- All five pointers lead to nodes of a stretch. -/
structure Dn.In (lo hi : Nat) (d : Dn) : Prop where
  par : ∀ j, d.par = some j → lo ≤ j ∧ j < hi
  fst : ∀ j, d.fst = some j → lo ≤ j ∧ j < hi
  lst : ∀ j, d.lst = some j → lo ≤ j ∧ j < hi
  prv : ∀ j, d.prv = some j → lo ≤ j ∧ j < hi
  nxt : ∀ j, d.nxt = some j → lo ≤ j ∧ j < hi

theorem ptrTo_congr {bl bl' : Nat → Nat} {o : Option Nat} (h : ∀ j, o = some j → bl' j = bl j) : ptrTo bl' o = ptrTo bl o := by
  cases o with
  | none => rfl
  | some j => simp [ptrTo, h j rfl]

theorem dnCells_congr {bl bl' : Nat → Nat} {lo hi : Nat} {d : Dn} (hd : d.In lo hi) (h : ∀ j, lo ≤ j → j < hi → bl' j = bl j) (aa : Option Addr) (ac : Nat) : dnCells bl' d aa ac = dnCells bl d aa ac := by
  unfold dnCells
  rw [ptrTo_congr (fun j e => h j (hd.par j e).1 (hd.par j e).2), ptrTo_congr (fun j e => h j (hd.fst j e).1 (hd.fst j e).2), ptrTo_congr (fun j e => h j (hd.lst j e).1 (hd.lst j e).2),
    ptrTo_congr (fun j e => h j (hd.prv j e).1 (hd.prv j e).2), ptrTo_congr (fun j e => h j (hd.nxt j e).1 (hd.nxt j e).2)]

theorem kin_in {t : List Nd} {a k : Nat} {st : Nat → Dn} (hl : Lam t (a + 1) k) (hk : Kin t a k st) : ∀ i, a ≤ i → i < k → (st i).In a k := by
  intro i hi1 hi2
  have hn := (hk i hi1 hi2).1
  have top : ∀ p, a ≤ p → p < k → p + extK t a k p ≤ k := by
    intro p hp1 hp2
    by_cases e : p = a
    · subst e; rw [extK_root]; omega
    · rw [extK_ne _ _ _ _ e]; exact (hl p (by omega) hp2).2.2.1
  have pos : ∀ p, a < p → p < k → 1 ≤ extK t a k p := by
    intro p hp1 hp2
    rw [extK_ne _ _ _ _ (by omega)]; exact (hl p (by omega) hp2).2.1
  have hi3 := top i hi1 hi2
  refine ⟨?_, ?_, ?_, ?_, ?_⟩
  · intro j e
    by_cases h : i = a
    · rw [(hn.root h).1] at e; cases e
    · obtain ⟨p, p1, p2, _⟩ := hn.kin h
      rw [p2] at e; cases e
      exact ⟨p1.1, by have := p1.2.1; omega⟩
  · intro j e
    rw [hn.fst] at e
    by_cases h : 1 < extK t a k i
    · rw [if_pos h] at e; cases e; omega
    · rw [if_neg h] at e; cases e
  · intro j e
    by_cases h : 1 < extK t a k i
    · obtain ⟨m, m1, m2, m3⟩ := hn.lst1 h
      rw [m1] at e; cases e
      obtain ⟨m4, m5, m6, _⟩ := m2
      exact ⟨by omega, by omega⟩
    · rw [hn.lst0 h] at e; cases e
  · intro j e
    by_cases h : i = a
    · rw [(hn.root h).2.1] at e; cases e
    · obtain ⟨p, p1, p2, p3, p4, p5⟩ := hn.kin h
      by_cases h2 : i = p + 1
      · rw [p4 h2] at e; cases e
      · obtain ⟨q, q1, q2, q3⟩ := p5 h2
        rw [q1] at e; cases e
        have hq1 := q2.1
        have hq2 := q2.2.1
        rcases Nat.lt_or_ge j k with h3 | h3
        · exact ⟨by omega, h3⟩
        · omega
  · intro j e
    by_cases h : i = a
    · rw [(hn.root h).2.2] at e; cases e
    · obtain ⟨p, p1, p2, p3, p4, p5⟩ := hn.kin h
      rw [p3] at e
      by_cases h2 : i + extK t a k i < p + extK t a k p
      · rw [if_pos h2] at e; cases e
        have := top p p1.1 (by have := p1.2.1; omega)
        omega
      · rw [if_neg h2] at e; cases e

theorem Dom.join {w : World} {B B2 a k k' : Nat} {bl bl2 : Nat → Nat} {st st2 : Nat → Dn} (hak : a ≤ k) (h1 : Dom w B (fun i => a ≤ i ∧ i < k) bl st) (h2 : Dom w B2 (fun i => k ≤ i ∧ i < k') bl2 st2) (hB : B ≤ B2)
    (hlt : ∀ i, a ≤ i → i < k → bl i < B2) (in1 : ∀ i, a ≤ i → i < k → (st i).In a k) (in2 : ∀ i, k ≤ i → i < k' → (st2 i).In k k') :
    Dom w B (fun i => a ≤ i ∧ i < k') (joinF k bl bl2) (joinF k st st2) := by
  refine ⟨fun i hi => ?_, fun i j hi hj e => ?_⟩
  · by_cases e : i < k
    · obtain ⟨hB1, aa, ac, hh, hown⟩ := h1.node i ⟨hi.1, e⟩
      rw [joinF_lo e, joinF_lo e]
      exact ⟨hB1, aa, ac, by rw [dnCells_congr (in1 i hi.1 e) (fun j _ hj => joinF_lo hj)]; exact hh, hown⟩
    · obtain ⟨hB1, aa, ac, hh, hown⟩ := h2.node i ⟨by omega, hi.2⟩
      rw [joinF_hi (by omega), joinF_hi (by omega)]
      exact ⟨by omega, aa, ac, by rw [dnCells_congr (in2 i (by omega) hi.2) (fun j hj _ => joinF_hi hj)]; exact hh, own_base hown hB⟩
  · by_cases e1 : i < k
    · by_cases e2 : j < k
      · rw [joinF_lo e1, joinF_lo e2] at e
        exact h1.inj i j ⟨hi.1, e1⟩ ⟨hj.1, e2⟩ e
      · rw [joinF_lo e1, joinF_hi (by omega)] at e
        have g1 := hlt i hi.1 e1
        have g2 := (h2.node j ⟨by omega, hj.2⟩).1
        omega
    · by_cases e2 : j < k
      · rw [joinF_hi (by omega), joinF_lo e2] at e
        have g1 := hlt j hj.1 e2
        have g2 := (h2.node i ⟨by omega, hi.2⟩).1
        omega
      · rw [joinF_hi (by omega), joinF_hi (by omega)] at e
        exact h2.inj i j ⟨by omega, hi.2⟩ ⟨by omega, hj.2⟩ e

end Go.Proofs.Ytjebadadimejpaa

namespace Go.Proofs.Ytjebadadimejpaa
open Go.RowKit
set_option linter.unusedVariables false

/-- The list of nodes, from a on up to k filled. -/
def Filled (bl : Nat → Nat) (a k : Nat) (cur cur' : Array Value) : Prop :=
  cur'.size = cur.size ∧ ∀ j, j < cur.size → cur'[j]? = if a ≤ j ∧ j < k then some (ptrTo bl (some j)) else cur[j]?

/-- What has grown from a on, up to k. -/
structure Grew (t : List Nd) (a k L : Nat) (cur : Array Value) (w wr : World) (bl : Nat → Nat) (st : Nat → Dn) (cur' : Array Value) : Prop where
  dom : Dom wr w.heap.size (fun i => a ≤ i ∧ i < k) bl st
  kin : Kin t a k st
  row : wr.heap[L]? = some (.cells cur' 42 (0, 0))
  fill : Filled bl a k cur cur'
  frame : w.grownBy wr (some L)

def GrowPost (t : List Nd) (a L : Nat) (cur : Array Value) (w : World) (e : Ending) (w' : World) : Prop :=
  e = .returned (.tuple #[]) ∧ ∃ bl st cur', Grew t a (a + sz t a) L cur w w' bl st cur'

def GrowRel (t : List Nd) (a L : Nat) (cur : Array Value) (w : World) (x : Value) (wr : World) : Prop :=
  ∃ (k : Nat) (bl : Nat → Nat) (st : Nat → Dn) (cur' : Array Value), a + 1 ≤ k ∧ k ≤ a + sz t a ∧ x = .int .i64 k ∧ Lam t (a + 1) k ∧ Grew t a k L cur w wr bl st cur'

theorem grown_below {w w' : World} {L B : Nat} (h : w.grownBy w' (some L)) (hB : B ≤ L) (hL : B ≤ w.heap.size) : Below B w w' :=
  ⟨h.os, h.tape, h.output, h.size, fun k hk => h.block k (by omega) (fun e => by cases e; omega)⟩

theorem Lam.node_at {t : List Nd} {lo hi k : Nat} (h : Lam t lo hi) (hk : lo ≤ k) (hkt : k < hi) : Lam t k (k + sz t k) := by
  obtain ⟨a1, a2, a3, a4⟩ := h k hk hkt
  intro i hi1 hi2
  obtain ⟨b1, b2, b3, b4⟩ := h i (by omega) (by omega)
  refine ⟨b1, b2, ?_, b4⟩
  by_cases e : i = k
  · subst e; exact Nat.le_refl _
  · exact a4 i (by omega) hi2

end Go.Proofs.Ytjebadadimejpaa

namespace Go.Proofs.Ytjebadadimejpaa
open Go.RowKit
set_option linter.unusedVariables false

/-- The nodes of a tree in memory, from block B on, the list of them in block L. -/
structure Tree (t : List Nd) (w : World) (B L : Nat) (bl : Nat → Nat) (st : Nat → Dn) : Prop where
  dom : Dom w B (fun i => i < t.length) bl st
  kin : ∀ i (h : i < t.length), NodeOk (sz t) 0 i (st i) ∧ SelfOk t[i] (st i)
  base : B ≤ L
  row : ∃ cur, w.heap[L]? = some (.cells cur 42 (0, 0)) ∧ cur.size = t.length ∧ ∀ j, j < t.length → cur[j]? = some (ptrTo bl (some j))

theorem Tree.kept {t : List Nd} {w w' : World} {B L : Nat} {bl : Nat → Nat} {st : Nat → Dn} (h : Tree t w B L bl st) (hb : Below w.heap.size w w') : Tree t w' B L bl st := by
  obtain ⟨cur, h1, h2, h3⟩ := h.row
  exact ⟨h.dom.kept (fun b _ hb2 => hb.block b hb2), h.kin, h.base, cur, (hb.block L (Array.getElem?_eq_some_iff.1 h1).1).trans h1, h2, h3⟩

/-- The list's cell: the pointer to the node. -/
theorem Tree.cell {t : List Nd} {w : World} {B L : Nat} {bl : Nat → Nat} {st : Nat → Dn} (h : Tree t w B L bl st) (i : Nat) (hi : i < t.length) : w.cell? ⟨L, i, none⟩ = some (.pointer (some ⟨bl i, 0, none⟩)) := by
  obtain ⟨cur, h1, h2, h3⟩ := h.row
  rw [cell_of_row w L i _ _ _ h1, h3 i hi]; rfl

def GrownPost (t : List Nd) (w : World) (e : Ending) (w' : World) : Prop :=
  ∃ L bl st, e = .returned (.tuple #[.slice (some ⟨L, 0, none⟩) t.length t.length, .bool true]) ∧ Below w.heap.size w w' ∧ L < w'.heap.size ∧ Tree t w' w.heap.size L bl st

theorem Try.infoP : (Try.prog.info? 42).map (fun i => (i.zero, i.size, i.bytes)) = some (some (.pointer none), 1, 8) := by kernel_rfl

end Go.Proofs.Ytjebadadimejpaa

namespace Go.Proofs.Ytjebadadimejpaa
open Go.RowKit
set_option linter.unusedVariables false

/-- Places of a tree, each once. -/
structure OrdP (n : Nat) (l : List Int) (ns : List Nat) : Prop where
  eq : l = ns.map fun (k : Nat) => (k : Int)
  lt : ∀ k ∈ ns, k < n
  asc : ns.Nodup

def ivs (l : List Int) : List Value := l.map (Value.int .i64)
theorem ivs_length (l : List Int) : (ivs l).length = l.length := by simp [ivs]
theorem ivs_at {l : List Int} {i : Nat} (h : i < l.length) : (ivs l)[i]'(by rw [ivs_length]; exact h) = .int .i64 l[i] := by simp [ivs]

/-- An argument of numbers. -/
structure ISl (w : World) (B : Nat) (a : Option Addr) (l : List Int) : Prop where
  row : RSl w B a (ivs l)
  len : l.length ≤ maxLen
  rng : ∀ x ∈ l, -9223372036854775808 ≤ x ∧ x ≤ 9223372036854775807

theorem ISl.up {w w' : World} {a : Option Addr} {l : List Int} (h : ISl w w.heap.size a l) (hb : Below w.heap.size w w') : ISl w' w'.heap.size a l := ⟨h.row.up hb, h.len, h.rng⟩

theorem ISl.at_ {w : World} {B : Nat} {a : Option Addr} {l : List Int} (h : ISl w B a l) (h0 : 0 < l.length) :
    ∃ b o, a = some ⟨b, o, none⟩ ∧ b < B ∧ ∀ i (hi : i < l.length), w.cell? ⟨b, o + i, none⟩ = some (.int .i64 l[i]) := by
  obtain ⟨b, o, ha, hb, hc⟩ := h.row.at_ (by rw [ivs_length]; exact h0)
  refine ⟨b, o, ha, hb, fun i hi => ?_⟩
  have := hc i (by rw [ivs_length]; exact hi)
  rw [ivs_at hi] at this
  exact this

/-- What Order knows of the first k places. -/
def Asc (n : Nat) (l : List Int) (k : Nat) : Prop := ∀ i (h : i < l.length), i < k → 0 ≤ l[i] ∧ l[i] < n ∧ ∀ (hp : 0 < i), l[i - 1]'(by omega) < l[i]

theorem asc_ord {n : Nat} {l : List Int} (h : Asc n l l.length) : ∃ ns, OrdP n l ns := by
  refine ⟨l.map Int.toNat, ?_, ?_, ?_⟩
  · rw [List.map_map]
    apply List.ext_getElem
    · simp
    · intro i h1 h2
      have := (h i h1 h1).1
      simp
      omega
  · intro k hk
    obtain ⟨x, hx, rfl⟩ := List.mem_map.1 hk
    obtain ⟨i, hi, rfl⟩ := List.getElem_of_mem hx
    have := h i hi hi
    omega
  · refine List.Pairwise.imp (R := (· < ·)) (fun h => Nat.ne_of_lt h) ?_
    rw [List.pairwise_iff_getElem]
    intro i j hi hj hij
    rw [List.length_map] at hi hj
    have key : ∀ d i (hd : i + d + 1 < l.length), l[i]'(by omega) < l[i + d + 1]'hd := by
      intro d
      induction d with
      | zero => intro i hd; exact (h (i + 1) hd hd).2.2 (by omega)
      | succ d ih =>
        intro i hd
        have a1 := ih i (by omega)
        have a2 := (h (i + (d + 1) + 1) hd hd).2.2 (by omega)
        have e : i + (d + 1) + 1 - 1 = i + d + 1 := by omega
        simp only [e] at a2
        omega
    have := key (j - i - 1) i (by omega)
    have e : i + (j - i - 1) + 1 = j := by omega
    simp only [e] at this
    have p1 := (h i hi hi).1
    have p2 := (h j hj hj).1
    simp
    omega

def OrderPost (n : Nat) (l : List Int) (w : World) (e : Ending) (w' : World) : Prop := ∃ b q, e = .returned (.bool b) ∧ (b = true → ∃ ns, OrdP n l ns) ∧ w' = w.drewN q

end Go.Proofs.Ytjebadadimejpaa

namespace Go.Proofs.Ytjebadadimejpaa
open Go.RowKit
set_option linter.unusedVariables false

/-- Pointers to nodes. -/
def ptrs (bl : Nat → Nat) (ns : List Nat) : List Value := ns.map fun i => Value.pointer (some ⟨bl i, 0, none⟩)
theorem ptrs_length (bl : Nat → Nat) (ns : List Nat) : (ptrs bl ns).length = ns.length := by simp [ptrs]
theorem ptrs_at {bl : Nat → Nat} {ns : List Nat} {i : Nat} (h : i < ns.length) : (ptrs bl ns)[i]'(by rw [ptrs_length]; exact h) = .pointer (some ⟨bl ns[i], 0, none⟩) := by simp [ptrs]
theorem ptrs_snoc (bl : Nat → Nat) (ns : List Nat) (i : Nat) : ptrs bl (ns ++ [i]) = ptrs bl ns ++ [.pointer (some ⟨bl i, 0, none⟩)] := by simp [ptrs]

def ThesePost (bl : Nat → Nat) (ns : List Nat) (w : World) (e : Ending) (w' : World) : Prop :=
  ∃ a c, e = .returned (.tuple #[.slice a ns.length c, .bool true]) ∧ w'.ownsRow w.heap.size 42 1 (.slice a ns.length c) ns.length (ptrs bl ns) ∧ Below w.heap.size w w'

def TheseRel (L : Nat) (bl : Nat → Nat) (ns : List Nat) (w : World) (v x : Value) (wr : World) : Prop :=
  ∃ k a c, k ≤ ns.length ∧ x = .int .i64 (k : Nat) ∧ v = .slice a k c ∧ wr.ownsRow w.heap.size 42 1 (.slice a k c) k (ptrs bl (ns.take k)) ∧ Below w.heap.size w wr

end Go.Proofs.Ytjebadadimejpaa

namespace Go.Proofs.Ytjebadadimejpaa
open Go.RowKit
set_option linter.unusedVariables false

/-- A selection in memory: its nodes, its document, where it comes from. -/
def SelB (w : World) (g : Nat) (a : Option Addr) (n c : Nat) (doc prev : Option Addr) : Prop := w.heap[g]? = some (.cells #[.slice a n c, .pointer doc, .pointer prev] 60 (0, 0))

theorem SelB.below {w w' : World} {B g : Nat} {a : Option Addr} {n c : Nat} {doc prev : Option Addr} (h : SelB w g a n c doc prev) (hb : Below B w w') (hg : g < B) : SelB w' g a n c doc prev := (hb.block g hg).trans h
theorem SelB.cells {w : World} {g : Nat} {a : Option Addr} {n c : Nat} {doc prev : Option Addr} (h : SelB w g a n c doc prev) : w.cell? ⟨g, 0, none⟩ = some (.slice a n c) ∧ w.cell? ⟨g, 1, none⟩ = some (.pointer doc) ∧ w.cell? ⟨g, 2, none⟩ = some (.pointer prev) := by
  refine ⟨?_, ?_, ?_⟩
  all_goals (rw [cell_of_row w g _ _ _ _ h]; rfl)
theorem SelB.lt {w : World} {g : Nat} {a : Option Addr} {n c : Nat} {doc prev : Option Addr} (h : SelB w g a n c doc prev) : g < w.heap.size := (Array.getElem?_eq_some_iff.1 h).1

theorem new_third (w : World) (o1 o2 o3 : Obj) : (((w.alloc o1).alloc o2).alloc o3).heap[w.heap.size + 2]? = some o3 := by
  have := heap_alloc_new ((w.alloc o1).alloc o2) o3
  simpa using this

def DocPost (w : World) (e : Ending) (w' : World) : Prop :=
  ∃ gd gs gn, e = .returned (.pointer (some ⟨gd, 0, none⟩)) ∧ w'.cell? ⟨gd, 0, none⟩ = some (.pointer (some ⟨gs, 0, none⟩)) ∧ SelB w' gs (some ⟨gn, 0, none⟩) 1 1 (some ⟨gd, 0, none⟩) none ∧ Below w.heap.size w w'

theorem Try.infoN : (Try.prog.info? 54).map (fun i => i.size) = some 10 := by kernel_rfl

theorem ptr_same (i : Nat) (bl : Nat → Nat) (w : World) : (binOp .eql 42 (.pointer (some ⟨bl i, 0, none⟩)) (.pointer (some ⟨bl i, 0, none⟩))).run Try.prog w = .ok (.bool true) w := by
  obtain ⟨j, hj, _⟩ := Option.map_eq_some_iff.1 Try.infoN
  exact run_eql_ptr_same w ⟨bl i, 0, none⟩ Try.underlying42 hj

theorem ptr_other {i k : Nat} (bl : Nat → Nat) (w : World) (hne : bl k ≠ bl i) (h1 : ∃ cs, w.heap[bl k]? = some (.cells cs 54 (0, 0)) ∧ cs.size = 10) (h2 : ∃ cs, w.heap[bl i]? = some (.cells cs 54 (0, 0)) ∧ cs.size = 10) :
    (binOp .eql 42 (.pointer (some ⟨bl k, 0, none⟩)) (.pointer (some ⟨bl i, 0, none⟩))).run Try.prog w = .ok (.bool false) w := by
  obtain ⟨j, hj, hjs⟩ := Option.map_eq_some_iff.1 Try.infoN
  obtain ⟨c1, e1, s1⟩ := h1
  obtain ⟨c2, e2, s2⟩ := h2
  exact run_eql_ptr_other w Try.underlying42 hj (by omega) (fun h => hne (congrArg Addr.block h)) e1 e2

end Go.Proofs.Ytjebadadimejpaa

namespace Go.Proofs.Ytjebadadimejpaa
open Go.RowKit
set_option linter.unusedVariables false

/-- The nodes of a tree, as far as a comparison of pointers asks. -/
structure NodesAt (bl : Nat → Nat) (n : Nat) (w : World) : Prop where
  inj : ∀ i j, i < n → j < n → bl i = bl j → i = j
  lt : ∀ i, i < n → bl i < w.heap.size
  blk : ∀ i, i < n → ∃ cs, w.heap[bl i]? = some (.cells cs 54 (0, 0)) ∧ cs.size = 10

theorem NodesAt.kept {bl : Nat → Nat} {n : Nat} {w w' : World} (h : NodesAt bl n w) (hb : Below w.heap.size w w') : NodesAt bl n w' := by
  refine ⟨h.inj, fun i hi => Nat.lt_of_lt_of_le (h.lt i hi) hb.size, fun i hi => ?_⟩
  obtain ⟨cs, h1, h2⟩ := h.blk i hi
  exact ⟨cs, (hb.block _ (h.lt i hi)).trans h1, h2⟩

theorem Tree.nodes {t : List Nd} {w : World} {B L : Nat} {bl : Nat → Nat} {st : Nat → Dn} (h : Tree t w B L bl st) : NodesAt bl t.length w := by
  refine ⟨fun i j hi hj e => h.dom.inj i j hi hj e, fun i hi => ?_, fun i hi => ?_⟩
  · obtain ⟨q1, aa, ac, q2, q3⟩ := h.dom.node i hi
    exact (Array.getElem?_eq_some_iff.1 q2).1
  · obtain ⟨q1, aa, ac, q2, q3⟩ := h.dom.node i hi
    exact ⟨_, q2, rfl⟩

def DupPost (bl : Nat → Nat) (ns : List Nat) (w : World) (e : Ending) (w' : World) : Prop :=
  ∃ a c, e = .returned (.slice a ns.length c) ∧ w'.ownsRow w.heap.size 42 1 (.slice a ns.length c) ns.length (ptrs bl ns) ∧ Below w.heap.size w w'

def DupRel (bl : Nat → Nat) (ns : List Nat) (w : World) (v x : Value) (wr : World) : Prop :=
  ∃ k a c, k ≤ ns.length ∧ x = .int .i64 (k : Nat) ∧ v = .slice a k c ∧ wr.ownsRow w.heap.size 42 1 (.slice a k c) k (ptrs bl (ns.take k)) ∧ Below w.heap.size w wr

def PushPost (w : World) (gs : Nat) (doc : Option Addr) (a : Option Addr) (n c : Nat) (e : Ending) (w' : World) : Prop :=
  e = .returned (.pointer (some ⟨w.heap.size, 0, none⟩)) ∧ SelB w' w.heap.size a n c doc (some ⟨gs, 0, none⟩) ∧ Below w.heap.size w w'

/-- A selection of the nodes at ns. -/
def SelOf (bl : Nat → Nat) (ns : List Nat) (B g : Nat) (doc : Option Addr) (w : World) : Prop :=
  ∃ a c prev, SelB w g a ns.length c doc prev ∧ B ≤ g ∧ w.ownsRow B 42 1 (.slice a ns.length c) ns.length (ptrs bl ns) ∧ (∃ gs, prev = some ⟨gs, 0, none⟩)

def AddPost (bl : Nat → Nat) (ns : List Nat) (doc : Option Addr) (w : World) (e : Ending) (w' : World) : Prop :=
  ∃ g, e = .returned (.pointer (some ⟨g, 0, none⟩)) ∧ SelOf bl ns w.heap.size g doc w' ∧ Below w.heap.size w w'

end Go.Proofs.Ytjebadadimejpaa

namespace Go.Proofs.Ytjebadadimejpaa
open Go.RowKit
set_option linter.unusedVariables false

/-- A list of numbers below n, each once, has at most n. -/
theorem nodup_len {n : Nat} {l : List Nat} (hnd : l.Nodup) (h : ∀ x ∈ l, x < n) : l.length ≤ n := by
  have hp : l.Perm ((List.range n).filter fun x => decide (x ∈ l)) := by
    rw [List.perm_ext_iff_of_nodup hnd (List.nodup_range.filter _)]
    intro x
    rw [List.mem_filter, List.mem_range, decide_eq_true_eq]
    exact ⟨fun hx => ⟨h x hx, hx⟩, fun hx => hx.2⟩
  rw [hp.length_eq]
  exact Nat.le_trans (List.length_filter_le _ _) (by simp)
theorem OrdP.len {n : Nat} {l : List Int} {ns : List Nat} (h : OrdP n l ns) : ns.length ≤ n := nodup_len h.asc h.lt
theorem OrdP.nodup {n : Nat} {l : List Int} {ns : List Nat} (h : OrdP n l ns) : ns.Nodup := h.asc
theorem OrdP.length {n : Nat} {l : List Int} {ns : List Nat} (h : OrdP n l ns) : l.length = ns.length := by rw [h.eq]; simp

theorem SelOf.base {bl : Nat → Nat} {ns : List Nat} {B B' g : Nat} {doc : Option Addr} {w : World} (h : SelOf bl ns B g doc w) (hb : B' ≤ B) : SelOf bl ns B' g doc w := by
  obtain ⟨a, c, prev, h1, h2, h3, h4⟩ := h
  exact ⟨a, c, prev, h1, by omega, own_base h3 hb, h4⟩
theorem SelOf.kept {bl : Nat → Nat} {ns : List Nat} {B g : Nat} {doc : Option Addr} {w w' : World} (h : SelOf bl ns B g doc w) (hb : Below w.heap.size w w') : SelOf bl ns B g doc w' := by
  obtain ⟨a, c, prev, h1, h2, h3, h4⟩ := h
  exact ⟨a, c, prev, h1.below hb h1.lt, h2, own_kept h3 (fun b _ hb2 => hb.block b hb2), h4⟩

def AmongPost (t : List Nd) (L : Nat) (bl : Nat → Nat) (ns : List Nat) (w : World) (e : Ending) (w' : World) : Prop :=
  ∃ g doc, e = .returned (.tuple #[.pointer (some ⟨g, 0, none⟩), .slice (some ⟨L, 0, none⟩) t.length t.length, .bool true]) ∧ SelOf bl ns w.heap.size g doc w' ∧ Below w.heap.size w w'

def ChosenPost (t : List Nd) (ns : List Nat) (w : World) (e : Ending) (w' : World) : Prop :=
  ∃ L bl st g doc, e = .returned (.tuple #[.pointer (some ⟨g, 0, none⟩), .slice (some ⟨L, 0, none⟩) t.length t.length, .bool true]) ∧ L < w'.heap.size ∧ Tree t w' w.heap.size L bl st ∧ SelOf bl ns w.heap.size g doc w' ∧ Below w.heap.size w w'

end Go.Proofs.Ytjebadadimejpaa
