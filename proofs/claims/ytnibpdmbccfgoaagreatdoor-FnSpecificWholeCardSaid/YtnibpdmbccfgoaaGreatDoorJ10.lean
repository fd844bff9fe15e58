/- FnSpecificWhole: texts joined (joinf.py) -/
import Derived.Test.YtnibpdmbccfgoaaGreatDoorT406
import Derived.Test.YtnibpdmbccfgoaaGreatDoorT607
import Derived.Test.YtnibpdmbccfgoaaGreatDoorT614
import Derived.Test.YtnibpdmbccfgoaaGreatDoorT626
namespace Go.Proofs.YtnibpdmbccfgoaaGreatDoor
open Go.RowKit
set_option linter.unusedVariables false

/-- Bytes that are written by their number; those that get a backslash; all others. -/
def isCtl (c : Nat) : Bool := decide (c < 32) || decide (c = 127)
def isQu (c : Nat) : Bool := decide (c = 34) || decide (c = 92)
def isNrm (c : Nat) : Bool := !isCtl c && !isQu c

/-- A hexadecimal digit as a byte. -/
def hxB (d : Nat) : UInt8 := UInt8.ofNat (if d < 10 then 48 + d else 87 + d)
/-- The hexadecimal digits of a number below 256. -/
def hxS (c : Nat) : List UInt8 := if c = 0 then [] else if c < 16 then [hxB c] else [hxB (c / 16), hxB (c % 16)]
def encQ (b : UInt8) : List UInt8 := if isCtl b.toNat then 92 :: (hxS b.toNat ++ [32]) else if isQu b.toNat then [92, b] else [b]
def encL (l : List UInt8) : List UInt8 := l.flatMap encQ

theorem encL_nil : encL [] = [] := rfl
theorem encL_cons (b : UInt8) (l : List UInt8) : encL (b :: l) = encQ b ++ encL l := by unfold encL; rw [List.flatMap_cons]
theorem encL_app (l l' : List UInt8) : encL (l ++ l') = encL l ++ encL l' := by unfold encL; rw [List.flatMap_append]

/-- The text of a list of bytes. -/
def bOf (l : List UInt8) : ByteArray := ⟨l.toArray⟩
theorem bOf_size (l : List UInt8) : (bOf l).size = l.length := by show l.toArray.size = l.length; simp
theorem bOf_app (l l' : List UInt8) : bOf l ++ bOf l' = bOf (l ++ l') := by
  apply ByteArray.ext
  rw [ByteArray.data_append]
  show l.toArray ++ l'.toArray = (l ++ l').toArray
  simp
theorem bOf_data (s : ByteArray) : bOf s.data.toList = s := by cases s; simp [bOf]
theorem bAt_bOf (l : List UInt8) (k : Nat) (h : k < l.length) : bAt (bOf l) k = l[k].toNat := by
  rw [bAt_in (by rw [bOf_size]; exact h)]
  rfl
/-- The byte at a place of a list, 0 behind the end. -/
def lAt (l : List UInt8) (k : Nat) : Nat := (l.getD k 0).toNat
theorem bAt_lAt (l : List UInt8) (k : Nat) : bAt (bOf l) k = lAt l k := by
  unfold lAt
  by_cases h : k < l.length
  · rw [bAt_bOf l k h, List.getD_eq_getElem?_getD, List.getElem?_eq_getElem h]; rfl
  · rw [bAt_out (by rw [bOf_size]; omega), List.getD_eq_getElem?_getD, List.getElem?_eq_none (by omega)]; rfl
theorem lAt_left {l l' : List UInt8} {k : Nat} (h : k < l.length) : lAt (l ++ l') k = lAt l k := by
  unfold lAt; rw [List.getD_eq_getElem?_getD, List.getD_eq_getElem?_getD, List.getElem?_append_left h]
theorem lAt_right {l l' : List UInt8} {k : Nat} : lAt (l ++ l') (l.length + k) = lAt l' k := by
  unfold lAt
  rw [List.getD_eq_getElem?_getD, List.getD_eq_getElem?_getD, List.getElem?_append_right (by omega), Nat.add_sub_cancel_left]
theorem bOf_extract (l : List UInt8) (a b : Nat) (h : b ≤ l.length) : (bOf l).extract a b = bOf ((l.take b).drop a) := by
  apply ByteArray.ext
  rw [ByteArray.data_extract]
  show l.toArray.extract a b = ((l.take b).drop a).toArray
  apply Array.ext'
  simp [List.drop_take]

theorem hxB_nat {d : Nat} (h : d < 16) : (hxB d).toNat = if d < 10 then 48 + d else 87 + d := by
  unfold hxB
  split
  · rw [UInt8.toNat_ofNat']; omega
  · rw [UInt8.toNat_ofNat']; omega
theorem hxB_is {d : Nat} (h : d < 16) : isHx (hxB d).toNat = true ∧ hxD (hxB d).toNat = d := by
  rw [hxB_nat h, isHx_iff]
  unfold hxD
  split
  · constructor
    · omega
    · rw [if_pos (by omega)]; omega
  · constructor
    · omega
    · rw [if_neg (by omega), if_pos (by omega)]; omega

/-- One byte as UTF-8. -/
theorem encode_lo {c : Nat} (h : c < 128) : Utf8.encode (c : Int) = bOf [UInt8.ofNat c] := by
  have : ∀ c : Fin 128, Utf8.encode ((c : Nat) : Int) = bOf [UInt8.ofNat (c : Nat)] := by decide +kernel
  exact this ⟨c, h⟩

/-- The escape of a byte, where it stands in a text: what is read of it. -/
theorem esc_ctl {l r : List UInt8} {b : UInt8} (hb : isCtl b.toNat = true) (h0 : b.toNat ≠ 0) (T : List UInt8) (hT : T = l ++ (encQ b ++ r)) {out : ByteArray} {i' : Nat}
    (h : PEscIs (bOf T) l.length out i') : escAt (bOf T) l.length = true → out = bOf [b] ∧ i' = l.length + (encQ b).length := by
  intro _
  have hlt := b.toNat_lt
  have hc : b.toNat < 32 ∨ b.toNat = 127 := by unfold isCtl at hb; simpa using hb
  have he : encQ b = 92 :: (hxS b.toNat ++ [32]) := by unfold encQ; rw [if_pos hb]
  have hlen : (encQ b).length = (hxS b.toNat).length + 2 := by rw [he]; simp
  have hat : ∀ k, lAt T (l.length + k) = lAt (encQ b ++ r) k := fun k => by rw [hT, lAt_right]
  have hat1 : ∀ k, k < (hxS b.toNat).length → bAt (bOf T) (l.length + 1 + k) = lAt (hxS b.toNat) k := fun k hk => by
    rw [bAt_lAt, Nat.add_assoc, hat, he]
    show lAt (92 :: (hxS b.toNat ++ [32] ++ r)) (1 + k) = _
    have : lAt (92 :: (hxS b.toNat ++ [32] ++ r)) (1 + k) = lAt ((hxS b.toNat ++ [32]) ++ r) k := by unfold lAt; rw [Nat.add_comm, List.getD_cons_succ]
    rw [this, List.append_assoc, lAt_left hk]
  have hat2 : bAt (bOf T) (l.length + 1 + (hxS b.toNat).length) = 32 := by
    rw [bAt_lAt, Nat.add_assoc, hat, he]
    have : lAt (92 :: (hxS b.toNat ++ [32]) ++ r) (1 + (hxS b.toNat).length) = lAt (hxS b.toNat ++ ([32] ++ r)) ((hxS b.toNat).length + 0) := by
      unfold lAt; rw [Nat.add_comm, List.cons_append, List.getD_cons_succ, List.append_assoc]; rfl
    rw [this, lAt_right]; rfl
  have hTl : l.length + 1 + (hxS b.toNat).length < (bOf T).size := by rw [bOf_size, hT, List.length_append, List.length_append, hlen]; omega
  -- how many digits
  have hx : HxTo (bOf T) (l.length + 1) (hxS b.toNat).length ∧ hxV (bOf T) (l.length + 1) (hxS b.toNat).length = b.toNat ∧ 0 < (hxS b.toNat).length := by
    have hs : (b.toNat < 16 ∧ hxS b.toNat = [hxB b.toNat]) ∨ (16 ≤ b.toNat ∧ hxS b.toNat = [hxB (b.toNat / 16), hxB (b.toNat % 16)]) := by
      unfold hxS
      rw [if_neg h0]
      split
      · exact .inl ⟨by assumption, rfl⟩
      · exact .inr ⟨by omega, rfl⟩
    rcases hs with ⟨h1, hs⟩ | ⟨h1, hs⟩
    · rw [hs] at hat1 hat2 hTl ⊢
      obtain ⟨q1, q2⟩ := hxB_is h1
      have e0 : bAt (bOf T) (l.length + 1 + 0) = (hxB b.toNat).toNat := hat1 0 (by simp)
      refine ⟨⟨by simp, by simp at hTl ⊢; omega, fun x hx => ?_, fun _ _ => ?_⟩, ?_, by simp⟩
      · simp at hx; subst hx; rw [e0]; exact q1
      · rw [hat2]; decide
      · show 16 * 0 + hxD (bAt (bOf T) (l.length + 1 + 0)) = _
        rw [e0, q2]; omega
    · rw [hs] at hat1 hat2 hTl ⊢
      obtain ⟨q1, q2⟩ := hxB_is (d := b.toNat / 16) (by omega)
      obtain ⟨q3, q4⟩ := hxB_is (d := b.toNat % 16) (by omega)
      have e0 : bAt (bOf T) (l.length + 1 + 0) = (hxB (b.toNat / 16)).toNat := hat1 0 (by simp)
      have e1 : bAt (bOf T) (l.length + 1 + 1) = (hxB (b.toNat % 16)).toNat := hat1 1 (by simp)
      refine ⟨⟨by simp, by simp at hTl ⊢; omega, fun x hx => ?_, fun _ _ => ?_⟩, ?_, by simp⟩
      · simp at hx
        have : x = 0 ∨ x = 1 := by omega
        rcases this with rfl | rfl
        · rw [e0]; exact q1
        · rw [e1]; exact q3
      · rw [hat2]; decide
      · show 16 * (16 * 0 + hxD (bAt (bOf T) (l.length + 1 + 0))) + hxD (bAt (bOf T) (l.length + 1 + 1)) = _
        rw [e0, e1, q2, q4]; omega
  obtain ⟨hx1, hx2, hx3⟩ := hx
  obtain ⟨j, j1, _, j3⟩ := h
  obtain rfl := hx1.uniq j1
  obtain ⟨k1, k2⟩ := j3 hx3
  rw [hx2, encode_lo (by omega), UInt8.ofNat_toNat] at k2
  refine ⟨k2, ?_⟩
  rw [k1]
  unfold wsEnd
  rw [if_pos hTl, if_neg (by omega), if_pos (by omega), hlen]
  omega

theorem esc_qu {l r : List UInt8} {b : UInt8} (hb : isQu b.toNat = true) (T : List UInt8) (hT : T = l ++ (encQ b ++ r)) {out : ByteArray} {i' : Nat}
    (h : PEscIs (bOf T) l.length out i') : out = bOf [b] ∧ i' = l.length + (encQ b).length := by
  have hc : b.toNat = 34 ∨ b.toNat = 92 := by unfold isQu at hb; simpa using hb
  have hn : isCtl b.toNat = false := by unfold isCtl; simp; omega
  have he : encQ b = [92, b] := by unfold encQ; rw [hn, if_neg (by simp), if_pos hb]
  rw [he] at hT ⊢
  have hat : bAt (bOf T) (l.length + 1) = b.toNat := by rw [bAt_lAt, hT, lAt_right]; rfl
  obtain ⟨j, j1, j2, _⟩ := h
  have hj : j = 0 := by
    rcases Nat.eq_zero_or_pos j with h | h
    · exact h
    · have := j1.all 0 h
      rw [Nat.add_zero, hat, isHx_iff] at this
      omega
  obtain ⟨k1, k2⟩ := j2 hj
  refine ⟨?_, by rw [k2]; rfl⟩
  rw [k1, bOf_extract _ _ _ (by rw [hT]; simp), hT]
  simp [List.take_append, List.drop_append]
  rw [List.drop_eq_nil_of_le (by rw [List.length_take]; omega)]
  rfl

/-- Where the escape begins. -/
theorem esc_at {l r : List UInt8} {b : UInt8} (hb : isNrm b.toNat = false) (h0 : b.toNat ≠ 0) (T : List UInt8) (hT : T = l ++ (encQ b ++ r)) : escAt (bOf T) l.length = true := by
  rw [escAt_iff, bOf_size]
  have h1 : bAt (bOf T) l.length = lAt (encQ b ++ r) 0 := by rw [bAt_lAt, hT]; exact lAt_right (k := 0)
  have h2 : bAt (bOf T) (l.length + 1) = lAt (encQ b ++ r) 1 := by rw [bAt_lAt, hT, lAt_right]
  have hl : T.length = l.length + ((encQ b).length + r.length) := by rw [hT]; simp
  by_cases hc : isCtl b.toNat = true
  · have he : encQ b = 92 :: (hxS b.toNat ++ [32]) := by unfold encQ; rw [if_pos hc]
    have hlt := b.toNat_lt
    rw [he] at h1 h2 hl
    have hs : ∃ d t, d < 16 ∧ hxS b.toNat = hxB d :: t := by
      unfold hxS
      rw [if_neg h0]
      split
      · exact ⟨_, _, by assumption, rfl⟩
      · exact ⟨_, _, by omega, rfl⟩
    obtain ⟨d, t, hd, hs⟩ := hs
    have q := (hxB_is hd).1
    rw [hs] at h1 h2 hl
    have h2' : bAt (bOf T) (l.length + 1) = (hxB d).toNat := h2
    rw [← h2', isHx_iff] at q
    refine ⟨by rw [hl]; simp; omega, h1, by omega, by omega, by omega⟩
  · have hq : isQu b.toNat = true := by
      unfold isNrm at hb
      cases h : isQu b.toNat
      · simp [h] at hb; exact absurd hb hc
      · rfl
    have he : encQ b = [92, b] := by unfold encQ; rw [if_neg hc, if_pos hq]
    have hc2 : b.toNat = 34 ∨ b.toNat = 92 := by unfold isQu at hq; simpa using hq
    rw [he] at h1 h2 hl
    have h2' : bAt (bOf T) (l.length + 1) = b.toNat := h2
    refine ⟨by rw [hl]; simp; omega, h1, by omega, by omega, by omega⟩
end Go.Proofs.YtnibpdmbccfgoaaGreatDoor

namespace Go.Proofs.YtnibpdmbccfgoaaGreatDoor
open Go.RowKit
set_option linter.unusedVariables false

/-- The bytes L stand at k. -/
def Txt (s : ByteArray) (k : Nat) (L : List UInt8) : Prop := k + L.length ≤ s.size ∧ ∀ i, i < L.length → bAt s (k + i) = lAt L i
theorem Txt.le {s : ByteArray} {k : Nat} {L : List UInt8} (h : Txt s k L) : k + L.length ≤ s.size := h.1
theorem Txt.app {s : ByteArray} {k : Nat} {A B : List UInt8} (h : Txt s k (A ++ B)) : Txt s k A ∧ Txt s (k + A.length) B := by
  obtain ⟨h1, h2⟩ := h
  rw [List.length_append] at h1 h2
  refine ⟨⟨by omega, fun i hi => ?_⟩, ⟨by omega, fun i hi => ?_⟩⟩
  · rw [h2 i (by omega), lAt_left hi]
  · rw [Nat.add_assoc, h2 _ (by omega), lAt_right]
theorem Txt.cons {s : ByteArray} {k : Nat} {a : UInt8} {L : List UInt8} (h : Txt s k (a :: L)) : k < s.size ∧ bAt s k = a.toNat ∧ Txt s (k + 1) L := by
  have h0 := h.2 0 (by simp)
  have hl := h.1
  have := (Txt.app (A := [a]) (B := L) h).2
  simp at hl
  exact ⟨by omega, h0, this⟩
theorem Txt.whole (L : List UInt8) : Txt (bOf L) 0 L := ⟨by rw [bOf_size]; omega, fun i _ => by rw [Nat.zero_add, bAt_lAt]⟩
theorem Txt.at {s : ByteArray} {k : Nat} {L : List UInt8} (h : Txt s k L) {i : Nat} (hi : i < L.length) : bAt s (k + i) = L[i].toNat := by
  rw [h.2 i hi]; unfold lAt; rw [List.getD_eq_getElem?_getD, List.getElem?_eq_getElem hi]; rfl
theorem bAt_get {s : ByteArray} {k : Nat} (h : k < s.size) (b : UInt8) (hb : bAt s k = b.toNat) : s[k] = b := by
  rw [bAt_in h] at hb; exact UInt8.toNat_inj.1 hb
theorem ba_ext {x y : ByteArray} (hs : x.size = y.size) (h : ∀ i, i < x.size → bAt x i = bAt y i) : x = y := by
  refine ByteArray.ext (Array.ext hs (fun i h1 h2 => ?_))
  have q1 : i < x.size := h1
  have q2 : i < y.size := h2
  have e := h i q1
  rw [bAt_in q1, bAt_in q2] at e
  exact UInt8.toNat_inj.1 e
theorem Txt.ext {s : ByteArray} {k : Nat} {L : List UInt8} (h : Txt s k L) : s.extract k (k + L.length) = bOf L := by
  have hz : (s.extract k (k + L.length)).size = L.length := by rw [ByteArray.size_extract]; have := h.1; omega
  refine ba_ext (by rw [hz, bOf_size]) (fun i hi => ?_)
  rw [hz] at hi
  rw [bAt_extract (by omega) h.1, bAt_lAt, h.2 i hi]

/-! The escape of a byte by its number. -/
def escL (c : Nat) : List UInt8 := 92 :: (hxS c ++ [32])
theorem hxS_len (c : Nat) : (hxS c).length ≤ 2 := by
  unfold hxS; split
  · simp
  · split <;> simp
theorem hxS_hex {c : Nat} (hc : c < 256) : ∀ i, i < (hxS c).length → isHx (lAt (hxS c) i) = true := by
  intro i hi
  unfold hxS at hi ⊢
  split at hi
  · simp at hi
  · rename_i h0
    rw [if_neg h0]
    split at hi
    · rename_i h1
      rw [if_pos h1]
      simp at hi
      subst hi
      exact (hxB_is h1).1
    · rename_i h1
      rw [if_neg h1]
      simp at hi
      have : i = 0 ∨ i = 1 := by omega
      rcases this with rfl | rfl
      · exact (hxB_is (d := c / 16) (by omega)).1
      · exact (hxB_is (d := c % 16) (by omega)).1
theorem hx_bounds {c : Nat} (h : isHx c = true) : 48 ≤ c := by rw [isHx_iff] at h; omega
theorem esc_read {s : ByteArray} {k c : Nat} (hc : c < 256) (h : Txt s k (escL c)) : escAt s k = true ∧ ∃ o, PEscIs s k o (k + (escL c).length) := by
  obtain ⟨h1, h2, h3⟩ := Txt.cons h
  obtain ⟨h4, h5⟩ := h3.app
  obtain ⟨h6, h7, _⟩ := h5.cons
  have h7 : bAt s (k + 1 + (hxS c).length) = 32 := h7
  have hlen : (escL c).length = (hxS c).length + 2 := by unfold escL; simp
  have hx : ∀ x, x < (hxS c).length → isHx (bAt s (k + 1 + x)) = true := fun x hx => by rw [h4.2 x hx]; exact hxS_hex hc x hx
  refine ⟨(escAt_iff s k).2 ⟨by omega, h2, ?_⟩, ?_⟩
  · by_cases q : (hxS c).length = 0
    · rw [q, Nat.add_zero] at h7; omega
    · have := hx_bounds (hx 0 (by omega)); rw [Nat.add_zero] at this; omega
  · have hto : HxTo s (k + 1) (hxS c).length := ⟨by have := hxS_len c; omega, by omega, hx, fun _ _ => by rw [h7]; decide⟩
    by_cases q : (hxS c).length = 0
    · exact ⟨_, _, hto, fun _ => ⟨rfl, by rw [hlen]; omega⟩, fun q2 => by omega⟩
    · refine ⟨_, _, hto, fun q2 => absurd q2 q, fun _ => ⟨?_, rfl⟩⟩
      unfold wsEnd
      rw [if_pos h6, if_neg (by omega), if_pos (by omega), hlen]
      omega
theorem esc_chr {s : ByteArray} {k : Nat} {b : UInt8} (hx : isHx b.toNat = false) (h32 : 32 ≤ b.toNat) (h : Txt s k [92, b]) : escAt s k = true ∧ ∃ o, PEscIs s k o (k + 2) := by
  obtain ⟨h1, h2, h3⟩ := Txt.cons h
  obtain ⟨h4, h5, _⟩ := Txt.cons h3
  have h2 : bAt s k = 92 := h2
  refine ⟨(escAt_iff s k).2 ⟨by omega, h2, by omega, by omega, by omega⟩, _, 0, ⟨by omega, by omega, fun x hx => absurd hx (Nat.not_lt_zero x), fun _ _ => by rw [Nat.add_zero, h5]; exact hx⟩, fun _ => ⟨rfl, rfl⟩, fun q => absurd q (Nat.lt_irrefl 0)⟩

/-! Names. -/
def escQ (x : ByteArray) (i : Nat) : Bool := decide (bAt x i < 32 ∨ bAt x i = 127) || (decide (48 ≤ bAt x i ∧ bAt x i ≤ 57) && (decide (i = 0) || (decide (i = 1) && decide (bAt x 0 = 45)))) || (decide (bAt x i = 45) && decide (i = 1) && decide (bAt x 0 = 45))
theorem escQ_iff (x : ByteArray) (i : Nat) : escQ x i = true ↔ (bAt x i < 32 ∨ bAt x i = 127) ∨ ((48 ≤ bAt x i ∧ bAt x i ≤ 57) ∧ (i = 0 ∨ (i = 1 ∧ bAt x 0 = 45))) ∨ (bAt x i = 45 ∧ i = 1 ∧ bAt x 0 = 45) := by
  unfold escQ
  simp only [Bool.or_eq_true, Bool.and_eq_true, decide_eq_true_eq]
  constructor
  · rintro ((h | h) | ⟨⟨h1, h2⟩, h3⟩)
    · exact .inl h
    · exact .inr (.inl h)
    · exact .inr (.inr ⟨h1, h2, h3⟩)
  · rintro (h | h | ⟨h1, h2, h3⟩)
    · exact .inl (.inl h)
    · exact .inl (.inr h)
    · exact .inr ⟨⟨h1, h2⟩, h3⟩
def pieceL (x : ByteArray) (i : Nat) : List UInt8 := if escQ x i = true then escL (bAt x i) else if isNm (bAt x i) = true then [x.get! i] else [92, x.get! i]
def nmL (x : ByteArray) : Nat → List UInt8
  | 0 => []
  | n + 1 => nmL x n ++ pieceL x n
def namedL (x : ByteArray) : List UInt8 := if x = ⟨#[45]⟩ then [92, 45] else nmL x x.size
theorem escL_len (c : Nat) : 2 ≤ (escL c).length ∧ (escL c).length ≤ 4 := by unfold escL; have := hxS_len c; simp; omega
theorem pieceL_len (x : ByteArray) (i : Nat) : 1 ≤ (pieceL x i).length ∧ (pieceL x i).length ≤ 4 := by
  unfold pieceL; have := escL_len (bAt x i)
  split
  · omega
  · split <;> simp
theorem nmL_len (x : ByteArray) : ∀ n, n ≤ (nmL x n).length ∧ (nmL x n).length ≤ 4 * n
  | 0 => ⟨Nat.le_refl _, Nat.le_refl _⟩
  | n + 1 => by
    have := nmL_len x n
    have := pieceL_len x n
    unfold nmL
    rw [List.length_append]
    omega
theorem namedL_len (x : ByteArray) : (namedL x).length ≤ 4 * x.size + 2 := by
  unfold namedL; split
  · simp
  · have := nmL_len x x.size; omega
/-- One piece of a name. -/
theorem piece_read {s x : ByteArray} {k i m : Nat} {O : ByteArray} (h : NmAc s k O m) (ht : Txt s m (pieceL x i)) : ∃ O', NmAc s k O' (m + (pieceL x i).length) ∧ O.size ≤ O'.size := by
  have hle := ht.le
  unfold pieceL at ht hle ⊢
  by_cases c1 : escQ x i = true
  · rw [if_pos c1] at ht hle ⊢
    obtain ⟨h1, o, h2⟩ := esc_read (bAt_lt x i) ht
    exact ⟨O ++ o, .esc h h1 h2 hle, by rw [ByteArray.size_append]; omega⟩
  · rw [if_neg c1] at ht hle ⊢
    by_cases c2 : isNm (bAt x i) = true
    · rw [if_pos c2] at ht hle ⊢
      obtain ⟨h1, h2, _⟩ := ht.cons
      exact ⟨_, .chr h h1 (by rw [h2]; exact c2), by rw [ByteArray.size_append]; omega⟩
    · rw [if_neg c2] at ht hle ⊢
      have h0 : isNm (bAt x i) = false := by simpa using c2
      rw [escQ_iff] at c1
      have hx : isHx (x.get! i).toNat = false := by
        cases hq : isHx (x.get! i).toNat
        · rfl
        · rw [isHx_iff] at hq; rw [isNm_no] at h0; unfold bAt at h0; omega
      obtain ⟨h1, o, h2⟩ := esc_chr hx (by unfold bAt at c1; omega) ht
      exact ⟨O ++ o, .esc h h1 h2 hle, by rw [ByteArray.size_append]; omega⟩
theorem nm_read {s x : ByteArray} {k : Nat} {O : ByteArray} {m : Nat} (n : Nat) (h : NmAc s m O k) : ∀ d, (∃ t, nmL x (n + d) = nmL x n ++ t ∧ (Txt s k t → ∃ O', NmAc s m O' (k + t.length) ∧ O.size ≤ O'.size))
  | 0 => ⟨[], by simp, fun _ => ⟨O, h, Nat.le_refl _⟩⟩
  | d + 1 => by
    obtain ⟨t, h1, h2⟩ := nm_read n h d
    refine ⟨t ++ pieceL x (n + d), ?_, fun ht => ?_⟩
    · show nmL x (n + d) ++ pieceL x (n + d) = _
      rw [h1, List.append_assoc]
    · obtain ⟨q1, q2⟩ := ht.app
      obtain ⟨O1, q3, q4⟩ := h2 q1
      obtain ⟨O2, q5, q6⟩ := piece_read q3 q2
      exact ⟨O2, by rw [List.length_append, ← Nat.add_assoc]; exact q5, Nat.le_trans q4 q6⟩
theorem nm_pos {s : ByteArray} {k i : Nat} {O : ByteArray} (h : NmAc s k O i) (hk : k < i) : 0 < O.size := by
  rcases Nat.eq_zero_or_pos O.size with q | q
  · have := nm_empty h q; omega
  · exact q
/-- A name where it is written. -/
theorem named_read {s x : ByteArray} {k : Nat} (h0 : 0 < x.size) (h : Txt s k (namedL x)) (hst : NmStop s (k + (namedL x).length)) : ∃ O, NameTo s k O (k + (namedL x).length) := by
  unfold namedL at h hst ⊢
  by_cases c : x = ⟨#[45]⟩
  · rw [if_pos c] at h hst ⊢
    obtain ⟨h1, o, h2⟩ := esc_chr (by decide) (by decide) h
    have hn : NmAc s k (ByteArray.empty ++ o) (k + 2) := .esc .zero h1 h2 h.le
    exact ⟨_, hn, hst, nm_pos hn (by omega)⟩
  · rw [if_neg c] at h hst ⊢
    obtain ⟨t, h1, h2⟩ := nm_read (s := s) (x := x) 0 (.zero (s := s) (k := k)) x.size
    rw [Nat.zero_add] at h1
    have h1 : nmL x x.size = t := h1
    rw [← h1] at h2
    obtain ⟨O, h3, _⟩ := h2 h
    have hl := (nmL_len x x.size).1
    exact ⟨O, h3, hst, nm_pos h3 (by omega)⟩
/-- What a name begins with. -/
theorem named_first {s x : ByteArray} {k : Nat} (h0 : 0 < x.size) (h : Txt s k (namedL x)) : k < s.size ∧ (bAt s k = 92 ∨ isBgG (bAt s k) = true ∨ (bAt s k = 45 ∧ k + 1 < s.size ∧ (bAt s (k + 1) = 92 ∨ isBgG (bAt s (k + 1)) = true))) := by
  unfold namedL at h
  by_cases c : x = ⟨#[45]⟩
  · rw [if_pos c] at h
    obtain ⟨h1, h2, _⟩ := h.cons
    exact ⟨h1, .inl h2⟩
  · rw [if_neg c] at h
    have split : ∀ n, 1 ≤ n → ∃ t, nmL x n = pieceL x 0 ++ t ∧ (2 ≤ n → ∃ u, t = pieceL x 1 ++ u) := by
      intro n
      induction n with
      | zero => intro q; omega
      | succ n ih =>
        intro _
        by_cases q : 1 ≤ n
        · obtain ⟨t, h1, h2⟩ := ih q
          refine ⟨t ++ pieceL x n, by show nmL x n ++ _ = _; rw [h1, List.append_assoc], fun _ => ?_⟩
          by_cases q2 : 2 ≤ n
          · obtain ⟨u, hu⟩ := h2 q2
            exact ⟨u ++ pieceL x n, by rw [hu, List.append_assoc]⟩
          · have hn : n = 1 := by omega
            subst hn
            have ht : t = [] := by
              have e : nmL x 1 = pieceL x 0 := rfl
              rw [e] at h1
              have := congrArg List.length h1
              rw [List.length_append] at this
              exact List.length_eq_zero_iff.1 (by omega)
            exact ⟨[], by rw [ht]; simp⟩
        · have hn : n = 0 := by omega
          subst hn
          exact ⟨[], by simp [nmL], fun q => by omega⟩
    obtain ⟨t, h1, h2⟩ := split x.size h0
    rw [h1] at h
    obtain ⟨q1, q2⟩ := h.app
    have hq1 := q1
    unfold pieceL at q1
    by_cases c1 : escQ x 0 = true
    · rw [if_pos c1] at q1
      obtain ⟨r1, r2, _⟩ := Txt.cons q1
      exact ⟨r1, .inl r2⟩
    · rw [if_neg c1] at q1
      by_cases c2 : isNm (bAt x 0) = true
      · rw [if_pos c2] at q1
        obtain ⟨r1, r2, _⟩ := q1.cons
        have r2 : bAt s k = bAt x 0 := r2
        rw [escQ_iff] at c1
        by_cases c3 : bAt x 0 = 45
        · have hz : 2 ≤ x.size := by
            rcases Nat.lt_or_ge x.size 2 with q | q
            · exfalso
              apply c
              have hs1 : x.size = 1 := by omega
              refine ba_ext (by rw [hs1]; rfl) (fun i hi => ?_)
              have : i = 0 := by omega
              subst this
              rw [c3]; rfl
            · exact q
          obtain ⟨u, hu⟩ := h2 hz
          have hp0 : pieceL x 0 = [x.get! 0] := by unfold pieceL; rw [if_neg (by rw [escQ_iff]; exact c1), if_pos c2]
          rw [hp0, hu] at q2
          have q3 := (q2.app).1
          have q3 : Txt s (k + 1) (pieceL x 1) := q3
          refine ⟨r1, .inr (.inr ⟨by omega, ?_⟩)⟩
          unfold pieceL at q3
          by_cases d1 : escQ x 1 = true
          · rw [if_pos d1] at q3
            obtain ⟨s1, s2, _⟩ := Txt.cons q3
            exact ⟨s1, .inl s2⟩
          · rw [if_neg d1] at q3
            by_cases d2 : isNm (bAt x 1) = true
            · rw [if_pos d2] at q3
              obtain ⟨s1, s2, _⟩ := q3.cons
              have s2 : bAt s (k + 1) = bAt x 1 := s2
              rw [escQ_iff] at d1
              rw [isNm_iff] at d2
              exact ⟨s1, .inr (by rw [s2, isBgG_iff]; omega)⟩
            · rw [if_neg d2] at q3
              obtain ⟨s1, s2, _⟩ := q3.cons
              exact ⟨s1, .inl s2⟩
        · rw [isNm_iff] at c2
          exact ⟨r1, .inr (.inl (by rw [r2, isBgG_iff]; omega))⟩
      · rw [if_neg c2] at q1
        obtain ⟨r1, r2, _⟩ := q1.cons
        exact ⟨r1, .inl r2⟩
end Go.Proofs.YtnibpdmbccfgoaaGreatDoor

namespace Go.Proofs.YtnibpdmbccfgoaaGreatDoor
open Go.RowKit
set_option linter.unusedVariables false

theorem rep0 (x : ByteArray) : rep 0 ++ x = x := by
  have : rep 0 = ByteArray.empty := by
    have h : rep 0 = ⟨(Lib.repeatL [45] 0).toArray⟩ := rfl
    rw [h]; rfl
  rw [this, ByteArray.empty_append]
theorem bg_facts {c : Nat} (h : isBgG c = true) : isNm c = true ∧ c ≠ 45 ∧ c ≠ 92 := by
  rw [isBgG_iff] at h; rw [isNm_iff]; omega
/-- An identifier where a name is written. -/
theorem named_id {s x : ByteArray} {k : Nat} (h0 : 0 < x.size) (h : Txt s k (namedL x)) (hst : NmStop s (k + (namedL x).length)) : ∃ O, IdYes s k O (k + (namedL x).length) := by
  obtain ⟨h1, h2⟩ := named_first h0 h
  obtain ⟨O, hn, _, hpos⟩ := named_read h0 h hst
  by_cases c : bAt s k = 45
  · have h3 : k + 1 < s.size ∧ (bAt s (k + 1) = 92 ∨ isBgG (bAt s (k + 1)) = true) := by
      rcases h2 with q | q | ⟨_, q⟩
      · omega
      · exact absurd c (bg_facts q).2.1
      · exact q
    have hne : bAt s (k + 1) ≠ 45 := by
      rcases h3.2 with q | q
      · omega
      · exact (bg_facts q).2.1
    -- the first byte is read, then the rest
    have hone : NmAc s k (rep 1) (k + 1) := hy_ac 1 (by omega) (fun x hx => by
      obtain rfl : x = 0 := by omega
      exact c)
    obtain ⟨R, hR, hac⟩ := nm_uniq hn (stop_term hst) hone
    have hl : k + 1 < k + (namedL x).length := by
      have ha := hac.size.1
      rcases Nat.lt_or_ge (k + 1) (k + (namedL x).length) with q | q
      · exact q
      · exfalso
        have e : k + (namedL x).length = k + 1 := by omega
        rw [e] at hst
        have := hst.2 (by omega)
        rcases h3.2 with r | r
        · exact this.2 r
        · rw [(bg_facts r).1] at this; exact absurd this.1 (by simp)
    exact ⟨_, 1, R, ⟨by omega, fun x hx => by obtain rfl : x = 0 := by omega
                                              exact c, fun _ => hne⟩, ⟨h3.1, h3.2.symm⟩, hac, hst, nm_pos hac hl, rfl⟩
  · have h3 : bAt s k = 92 ∨ isBgG (bAt s k) = true := by
      rcases h2 with q | q | ⟨q, _⟩
      · exact .inl q
      · exact .inr q
      · exact absurd q c
    exact ⟨_, 0, O, ⟨by omega, fun x hx => absurd hx (Nat.not_lt_zero x), fun _ => c⟩, ⟨h1, h3.symm⟩, hn, hst, hpos, rfl⟩
/-- A word of letters and hyphens. -/
theorem word_id {s : ByteArray} {k : Nat} {a : UInt8} {L : List UInt8} (h : Txt s k (a :: L)) (ha : isBgG a.toNat = true) (hl : (a :: L).all (fun b => isNm b.toNat) = true) (hst : NmStop s (k + (a :: L).length)) : IdYes s k (bOf (a :: L)) (k + (a :: L).length) := by
  obtain ⟨h1, h2, _⟩ := h.cons
  have hall : ∀ x, x < (a :: L).length → isNm (bAt s (k + x)) = true := fun x hx => by
    rw [h.at hx]
    exact List.all_eq_true.1 hl _ (List.getElem_mem hx)
  have hac := NmAc.run (.zero (s := s) (k := k)) (a :: L).length h.le hall
  rw [h.ext] at hac
  refine ⟨0, _, ⟨by omega, fun x hx => absurd hx (Nat.not_lt_zero x), fun _ => by rw [Nat.add_zero, h2]; exact (bg_facts ha).2.1⟩, ⟨h1, .inl (by rw [Nat.add_zero, h2]; exact ha)⟩, hac, hst, ?_, ?_⟩
  · rw [ByteArray.size_append, bOf_size]; simp
  · rw [ByteArray.empty_append, rep0]

/-! Strings. -/
theorem quoted_read {s : ByteArray} : ∀ (l : List UInt8) (k : Nat), Txt s k (encL l ++ [34]) → QtR s (k + (encL l).length) k
  | [], k, h => by
    obtain ⟨h1, h2, _⟩ := Txt.cons (L := []) h
    exact .fin h1 h2
  | b :: l, k, h => by
    rw [encL_cons, List.append_assoc] at h
    obtain ⟨h1, h2⟩ := h.app
    have ih := quoted_read l _ h2
    rw [encL_cons, List.length_append, ← Nat.add_assoc]
    have hle := ih.lt
    unfold encQ at h1 ih hle ⊢
    by_cases c : isCtl b.toNat = true
    · rw [if_pos c] at h1 ih hle ⊢
      obtain ⟨q1, o, q2⟩ := esc_read (c := b.toNat) b.toNat_lt h1
      exact .esc q1 q2 (Nat.le_of_lt hle) ih
    · rw [if_neg c] at h1 ih hle ⊢
      by_cases c2 : isQu b.toNat = true
      · rw [if_pos c2] at h1 ih hle ⊢
        have hc : b.toNat = 34 ∨ b.toNat = 92 := by unfold isQu at c2; simpa using c2
        obtain ⟨q1, o, q2⟩ := esc_chr (by cases hq : isHx b.toNat
                                          · rfl
                                          · rw [isHx_iff] at hq; omega) (by omega) h1
        exact .esc q1 q2 (Nat.le_of_lt hle) ih
      · rw [if_neg c2] at h1 ih hle ⊢
        obtain ⟨q1, q2, _⟩ := h1.cons
        unfold isCtl at c
        unfold isQu at c2
        simp only [Bool.or_eq_true, decide_eq_true_eq, not_or] at c c2
        exact .chr q1 (by rw [q2, isPl_iff]; omega) ih

/-! Numbers. -/
def dg1 (n : Nat) : List UInt8 := [UInt8.ofNat (48 + n % 10)]
def decL : Nat → Nat → List UInt8
  | 0, n => dg1 n
  | f + 1, n => if n < 10 then dg1 n else decL f (n / 10) ++ dg1 n
theorem dg1_nat (n : Nat) : (UInt8.ofNat (48 + n % 10)).toNat = 48 + n % 10 := by rw [UInt8.toNat_ofNat']; omega
theorem decL_all : ∀ f n, (decL f n).all (fun b => isDg b.toNat) = true
  | 0, n => by
    unfold decL dg1
    simp only [List.all_cons, List.all_nil, Bool.and_true]
    rw [dg1_nat, isDg_iff]; omega
  | f + 1, n => by
    have h1 : (dg1 n).all (fun b => isDg b.toNat) = true := decL_all 0 n
    unfold decL
    split
    · exact h1
    · rw [List.all_append, decL_all f, h1]; rfl
theorem decL_len : ∀ f n, 1 ≤ (decL f n).length ∧ (decL f n).length ≤ f + 1
  | 0, n => by simp [decL, dg1]
  | f + 1, n => by
    unfold decL
    split
    · simp [dg1]
    · have := decL_len f (n / 10)
      rw [List.length_append]
      simp [dg1]; omega
theorem dgC_pow (s : ByteArray) (k : Nat) : ∀ n, (∀ x, x < n → isDg (bAt s (k + x)) = true) → dgC s k n < 10 ^ n
  | 0, _ => by simp [dgC]
  | n + 1, h => by
    have ih := dgC_pow s k n (fun x hx => h x (by omega))
    have hd := h n (by omega)
    rw [isDg_iff] at hd
    show min (10 * dgC s k n + (bAt s (k + n) - 48)) 100000 < 10 ^ (n + 1)
    rw [Nat.pow_succ]
    omega
theorem dec_read {s : ByteArray} {k : Nat} (n : Nat) (h : Txt s k (decL 3 n)) (hst : isDg (bAt s (k + (decL 3 n).length)) = false) : DgTo s k (decL 3 n).length ∧ dgC s k (decL 3 n).length < 100000 := by
  have hall : ∀ x, x < (decL 3 n).length → isDg (bAt s (k + x)) = true := fun x hx => by
    rw [h.at hx]
    exact List.all_eq_true.1 (decL_all 3 n) _ (List.getElem_mem hx)
  refine ⟨⟨h.le, hall, hst⟩, ?_⟩
  have h1 := dgC_pow s k _ hall
  have h2 := (decL_len 3 n).2
  have h3 : (10 : Nat) ^ (decL 3 n).length ≤ 10 ^ 4 := Nat.pow_le_pow_right (by omega) h2
  omega
def signL (n : Int) : List UInt8 := if n < 0 then 45 :: decL 3 n.natAbs else 43 :: decL 3 n.natAbs
def cntL (a b : Int) : List UInt8 := if a < 0 then 45 :: (decL 3 a.natAbs ++ ([110] ++ signL b)) else decL 3 a.natAbs ++ ([110] ++ signL b)
theorem signL_len (n : Int) : 2 ≤ (signL n).length ∧ (signL n).length ≤ 5 := by
  unfold signL; have := decL_len 3 n.natAbs; split <;> simp <;> omega
theorem cntL_len (a b : Int) : 1 ≤ (cntL a b).length ∧ (cntL a b).length ≤ 11 := by
  unfold cntL; have := decL_len 3 a.natAbs; have := signL_len b; split <;> simp <;> omega

/-! Blanks. -/
theorem ws_no {c : Nat} (h : 33 ≤ c) : isWs c = false := by
  cases hq : isWs c
  · rfl
  · exfalso; revert hq; unfold isWs; simp; omega
/-- Nothing to skip. -/
theorem sk_none {s : ByteArray} {k : Nat} (hk : k ≤ s.size) (h : k < s.size → 33 ≤ bAt s k ∧ bAt s k ≠ 47) : Sk s k k :=
  ⟨.zero, hk, sk_stop (fun q => ws_no (h q).1) (fun q q2 => absurd q2 (h (by omega)).2)⟩
/-- One blank. -/
theorem sk_one {s : ByteArray} {k : Nat} (hk : k < s.size) (hb : bAt s k = 32) (h : k + 1 < s.size → 33 ≤ bAt s (k + 1) ∧ bAt s (k + 1) ≠ 47) : Sk s k (k + 1) :=
  ⟨.one (.inl ⟨hk, by rw [hb]; rfl, rfl⟩), by omega, (sk_none (k := k + 1) (by omega) h).2.2⟩
/-- A count where it is written, and a closing parenthesis behind it. -/
theorem sign_read {s : ByteArray} {k : Nat} (n : Int) (h : Txt s k (signL n)) (hst : isDg (bAt s (k + (signL n).length)) = false) :
    k < s.size ∧ (bAt s k = 43 ∨ bAt s k = 45) ∧ Sk s (k + 1) (k + 1) ∧ ∃ j2, 0 < j2 ∧ DgTo s (k + 1) j2 ∧ dgC s (k + 1) j2 < 100000 ∧ k + (signL n).length = k + 1 + j2 := by
  have key : ∀ c : UInt8, c.toNat = 43 ∨ c.toNat = 45 → Txt s k (c :: decL 3 n.natAbs) → isDg (bAt s (k + (c :: decL 3 n.natAbs).length)) = false → k < s.size ∧ (bAt s k = 43 ∨ bAt s k = 45) ∧ Sk s (k + 1) (k + 1) ∧ ∃ j2, 0 < j2 ∧ DgTo s (k + 1) j2 ∧ dgC s (k + 1) j2 < 100000 ∧ k + (c :: decL 3 n.natAbs).length = k + 1 + j2 := by
    intro c hc h hst
    obtain ⟨h1, h2, h3⟩ := h.cons
    rw [show k + (c :: decL 3 n.natAbs).length = k + 1 + (decL 3 n.natAbs).length by simp; omega] at hst ⊢
    obtain ⟨q1, q2⟩ := dec_read _ h3 hst
    have hl := (decL_len 3 n.natAbs).1
    have hd := q1.all 0 (by omega)
    rw [Nat.add_zero, isDg_iff] at hd
    exact ⟨h1, by rw [h2]; exact hc, sk_none (by have := h3.le; omega) (fun _ => by omega), _, hl, q1, q2, rfl⟩
  unfold signL at h hst ⊢
  by_cases c : n < 0
  · rw [if_pos c] at h hst ⊢; exact key 45 (.inr rfl) h hst
  · rw [if_neg c] at h hst ⊢; exact key 43 (.inl rfl) h hst
theorem cnt_read {s : ByteArray} {k : Nat} (a b : Int) (h : Txt s k (cntL a b)) (hst : isDg (bAt s (k + (cntL a b).length)) = false) :
    k < s.size ∧ 33 ≤ bAt s k ∧ bAt s k ≠ 47 ∧ ∃ p, ((bAt s k = 45 ∧ p = k + 1) ∨ (bAt s k ≠ 45 ∧ p = k)) ∧ NthTo s p (k + (cntL a b).length) := by
  have key : ∀ p, Txt s p (decL 3 a.natAbs ++ ([110] ++ signL b)) → isDg (bAt s (p + (decL 3 a.natAbs ++ ([110] ++ signL b)).length)) = false → NthTo s p (p + (decL 3 a.natAbs ++ ([110] ++ signL b)).length) ∧ p < s.size ∧ 48 ≤ bAt s p ∧ bAt s p ≤ 57 := by
    intro p h hst
    rw [List.length_append] at hst ⊢
    obtain ⟨h1, h2⟩ := h.app
    obtain ⟨h3, h4, h5⟩ := Txt.cons (L := signL b) h2
    have h4 : bAt s (p + (decL 3 a.natAbs).length) = 110 := h4
    obtain ⟨q1, q2⟩ := dec_read _ h1 (by rw [h4]; rfl)
    have hl := (decL_len 3 a.natAbs).1
    have e : p + ((decL 3 a.natAbs).length + ([110] ++ signL b).length) = p + (decL 3 a.natAbs).length + 1 + (signL b).length := by simp; omega
    rw [e] at hst ⊢
    obtain ⟨r1, r2, r3, j2, r4, r5, r6, r7⟩ := sign_read b h5 hst
    have hd := q1.all 0 (by omega)
    rw [Nat.add_zero, isDg_iff] at hd
    exact ⟨⟨_, j2, hl, r4, q1, q2, h4, sk_none (by omega) (fun _ => by omega), r1, r2, r3, r5, r6, r7⟩, by have := h1.le; omega, hd⟩
  unfold cntL at h hst ⊢
  by_cases c : a < 0
  · rw [if_pos c] at h hst ⊢
    obtain ⟨h1, h2, h3⟩ := h.cons
    have h2 : bAt s k = 45 := h2
    have e : k + (45 :: (decL 3 a.natAbs ++ ([110] ++ signL b))).length = k + 1 + (decL 3 a.natAbs ++ ([110] ++ signL b)).length := by simp; omega
    rw [e] at hst ⊢
    exact ⟨h1, by omega, by omega, k + 1, .inl ⟨h2, rfl⟩, (key _ h3 hst).1⟩
  · rw [if_neg c] at h hst ⊢
    obtain ⟨q1, q2, q3, q4⟩ := key k h hst
    exact ⟨q2, by omega, by omega, k, .inr ⟨by omega, rfl⟩, q1⟩
end Go.Proofs.YtnibpdmbccfgoaaGreatDoor

namespace Go.Proofs.YtnibpdmbccfgoaaGreatDoor
open Go.RowKit
set_option linter.unusedVariables false

/-- The fields of a node are as its kind says. -/
structure FOk (x : Sn) : Prop where
  key : x.kind = 2 ∨ x.kind = 5 → 0 < x.key.size
  val : x.kind = 3 ∨ x.kind = 4 ∨ x.kind = 15 → 0 < x.val.size
  att : x.kind = 5 → 1 ≤ x.op ∧ x.op ≤ 8 ∧ (x.flag = 0 ∨ x.flag = 1)
  cmb : x.kind = 22 → 1 ≤ x.op ∧ x.op ≤ 4
  nth : x.kind = 6 → 0 ≤ x.flag ∧ x.flag ≤ 3
  num : -9999 ≤ x.a ∧ x.a ≤ 9999 ∧ -9999 ≤ x.b ∧ x.b ≤ 9999
  onl : x.kind = 7 → x.flag = 0 ∨ x.flag = 2
def isSmp (k : Int) : Prop := 1 ≤ k ∧ k ≤ 20
def isCpx (k : Int) : Prop := isSmp k ∨ k = 21 ∨ k = 22
/-- A node has the kids that its kind says. -/
def Shp (t : ST) : Prop :=
  (t.top.kind = 23 ∧ 0 < t.kids.list.length ∧ ∀ u ∈ t.kids.list, isCpx u.top.kind) ∨
  (18 ≤ t.top.kind ∧ t.top.kind ≤ 20 ∧ ∃ u, t.kids.list = [u] ∧ u.top.kind = 23) ∨
  (t.top.kind = 21 ∧ (∀ u ∈ t.kids.list, isSmp u.top.kind) ∧ ∀ u ∈ t.kids.list.drop 1, u.top.kind ≠ 2) ∨
  (t.top.kind = 22 ∧ ∃ u v, t.kids.list = [u, v] ∧ isCpx u.top.kind ∧ isCpx v.top.kind ∧ v.top.kind ≠ 22) ∨
  (1 ≤ t.top.kind ∧ t.top.kind ≤ 17 ∧ t.kids.list = [])
/-- A node that can be written, without pseudo-elements. -/
def NOk (t : ST) : Prop := FOk t.top ∧ Shp t ∧ (t.top.kind = 21 → t.top.val = ⟨#[]⟩)

/-! The texts. -/
def opL (op : Int) : List UInt8 :=
  if op = 2 then [61] else if op = 3 then [33, 61] else if op = 4 then [126, 61] else if op = 5 then [124, 61] else if op = 6 then [94, 61] else if op = 7 then [36, 61] else [42, 61]
def sepL (op : Int) : List UInt8 := if op = 1 then [32] else if op = 2 then [32, 62, 32] else if op = 3 then [32, 43, 32] else [32, 126, 32]
def qtL (x : ByteArray) : List UInt8 := 34 :: (encL x.data.toList ++ [34])
def wdNth (f : Int) : List UInt8 := if f = 0 then [99, 104, 105, 108, 100] else if f = 1 then [108, 97, 115, 116, 45, 99, 104, 105, 108, 100] else if f = 2 then [111, 102, 45, 116, 121, 112, 101] else [108, 97, 115, 116, 45, 111, 102, 45, 116, 121, 112, 101]
def wdOnly (f : Int) : List UInt8 := if f = 0 then [99, 104, 105, 108, 100] else [111, 102, 45, 116, 121, 112, 101]
def wdPlain (k : Int) : List UInt8 :=
  if k = 8 then [101, 109, 112, 116, 121] else if k = 9 then [114, 111, 111, 116] else if k = 10 then [105, 110, 112, 117, 116] else if k = 11 then [108, 105, 110, 107] else if k = 12 then [101, 110, 97, 98, 108, 101, 100] else if k = 13 then [100, 105, 115, 97, 98, 108, 101, 100] else [99, 104, 101, 99, 107, 101, 100]
def wdRel (k : Int) : List UInt8 := if k = 18 then [110, 111, 116] else if k = 19 then [104, 97, 115] else [104, 97, 115, 99, 104, 105, 108, 100]
def attL (x : Sn) : List UInt8 := if x.op = 1 then 91 :: (namedL x.key ++ [93]) else 91 :: (namedL x.key ++ (opL x.op ++ (qtL x.val ++ ((if x.flag = 1 then [32, 105] else []) ++ [93]))))
/-- A simple selector without others in it. -/
def simL (x : Sn) : List UInt8 :=
  if x.kind = 1 then [42] else if x.kind = 2 then namedL x.key else if x.kind = 3 then 46 :: namedL x.val else if x.kind = 4 then 35 :: namedL x.val
  else if x.kind = 5 then attL x
  else if x.kind = 6 then 58 :: (([110, 116, 104, 45] ++ wdNth x.flag) ++ (40 :: (cntL x.a x.b ++ [41])))
  else if x.kind = 7 then 58 :: ([111, 110, 108, 121, 45] ++ wdOnly x.flag)
  else if x.kind = 15 then 58 :: ([108, 97, 110, 103] ++ (40 :: (namedL x.val ++ [41])))
  else if x.kind = 16 then 58 :: ([99, 111, 110, 116, 97, 105, 110, 115] ++ (40 :: (qtL x.val ++ [41])))
  else if x.kind = 17 then 58 :: ([99, 111, 110, 116, 97, 105, 110, 115, 79, 119, 110] ++ (40 :: (qtL x.val ++ [41])))
  else 58 :: wdPlain x.kind
/-- A compound: its name, and what stands behind. -/
def cmpStep (fr : List UInt8 × List UInt8) (y : Int × List UInt8) : List UInt8 × List UInt8 :=
  if y.1 = 2 then (y.2, fr.2) else if y.1 = 1 then (if fr.1 = [] then ([42], fr.2) else fr) else (fr.1, fr.2 ++ y.2)
def cmpE (fr : List UInt8 × List UInt8) : List UInt8 := if fr.1 ++ fr.2 = [] then [42] else fr.1 ++ fr.2
def cmpL (l : List (Int × List UInt8)) : List UInt8 := cmpE (l.foldl cmpStep ([], []))
/-- Several, with commas between them. -/
def joinL : List (List UInt8) → List UInt8
  | [] => []
  | x :: l => x ++ l.flatMap (fun y => [44, 32] ++ y)
def wrOf (x : Sn) (l : List (Int × List UInt8)) : List UInt8 :=
  if x.kind = 23 then joinL (l.map Prod.snd)
  else if x.kind = 22 then (l.map Prod.snd).headD [] ++ (sepL x.op ++ ((l.map Prod.snd).drop 1).headD [])
  else if x.kind = 21 then cmpL l
  else if 18 ≤ x.kind ∧ x.kind ≤ 20 then 58 :: (wdRel x.kind ++ (40 :: ((l.map Prod.snd).headD [] ++ [41])))
  else simL x
mutual
/-- A selector's text. -/
def ST.wr : ST → List UInt8
  | .nd x ks => wrOf x ks.wrs
def SK.wrs : SK → List (Int × List UInt8)
  | .nil => []
  | .cons t ks => (t.top.kind, t.wr) :: ks.wrs
end
theorem SK.wrs_list : ∀ ks : SK, ks.wrs = ks.list.map (fun t => (t.top.kind, t.wr))
  | .nil => rfl
  | .cons t ks => by
    show (t.top.kind, t.wr) :: ks.wrs = _
    rw [SK.wrs_list ks]; rfl
theorem SK.sps_list : ∀ ks : SK, ks.sps = ks.list.map ST.sp
  | .nil => rfl
  | .cons t ks => by
    show t.sp :: ks.sps = _
    rw [SK.sps_list ks]; rfl
theorem ST.wr_eq (t : ST) : t.wr = wrOf t.top (t.kids.list.map (fun u => (u.top.kind, u.wr))) := by
  cases t with
  | nd x ks => show wrOf x ks.wrs = _; rw [SK.wrs_list]; rfl
theorem ST.sp_eq (t : ST) : t.sp = spOf t.top (t.kids.list.map ST.sp) := by
  cases t with
  | nd x ks => show spOf x ks.sps = _; rw [SK.sps_list]; rfl

/-! Simple selectors without others in them, read. -/
theorem stop_at {s : ByteArray} {k c : Nat} (hk : k < s.size) (h : bAt s k = c) (hc : isNm c = false) (h92 : c ≠ 92) : NmStop s k := ⟨by omega, fun _ => by rw [h]; exact ⟨hc, h92⟩⟩
/-- A name, and a byte behind it. -/
theorem Txt.name {s : ByteArray} {k : Nat} {x : ByteArray} {a : UInt8} {L : List UInt8} (h0 : 0 < x.size) (h : Txt s k (namedL x ++ (a :: L))) (hc : isNm a.toNat = false) (h92 : a.toNat ≠ 92) :
    (∃ O, IdYes s k O (k + (namedL x).length)) ∧ k + (namedL x).length < s.size ∧ bAt s (k + (namedL x).length) = a.toNat ∧ Txt s (k + (namedL x).length + 1) L := by
  obtain ⟨h1, h2⟩ := h.app
  obtain ⟨h3, h4, h5⟩ := h2.cons
  exact ⟨named_id h0 h1 (stop_at h3 h4 hc h92), h3, h4, h5⟩
theorem name_c0 {s : ByteArray} {k : Nat} {x : ByteArray} (h0 : 0 < x.size) (h : Txt s k (namedL x)) : k < s.size ∧ (bAt s k = 92 ∨ isNm (bAt s k) = true) := by
  obtain ⟨h1, h2⟩ := named_first h0 h
  refine ⟨h1, ?_⟩
  rcases h2 with q | q | ⟨q, _⟩
  · exact .inl q
  · exact .inr (bg_facts q).1
  · exact .inr (by rw [q]; rfl)
theorem nm_33 {c : Nat} (h : c = 92 ∨ isNm c = true) : 33 ≤ c ∧ c ≠ 47 ∧ c ≠ 58 ∧ c ≠ 42 ∧ c ≠ 35 ∧ c ≠ 46 ∧ c ≠ 91 ∧ c ≠ 43 ∧ c ≠ 62 ∧ c ≠ 126 ∧ c ≠ 44 ∧ c ≠ 41 ∧ c ≠ 124 := by
  rcases h with h | h
  · omega
  · rw [isNm_iff] at h; omega
theorem Txt.quote {s : ByteArray} {k : Nat} {x : ByteArray} {a : UInt8} {L : List UInt8} (h : Txt s k (qtL x ++ (a :: L))) :
    k < s.size ∧ bAt s k = 34 ∧ ∃ e0, QtR s e0 (k + 1) ∧ e0 + 1 < s.size ∧ bAt s (e0 + 1) = a.toNat ∧ Txt s (e0 + 1 + 1) L ∧ e0 + 1 = k + (qtL x).length := by
  obtain ⟨h1, h2⟩ := h.app
  obtain ⟨h3, h4, h5⟩ := h2.cons
  obtain ⟨q1, q2, q3⟩ := Txt.cons h1
  have hq := quoted_read _ _ q3
  have e : k + 1 + (encL x.data.toList).length + 1 = k + (qtL x).length := by unfold qtL; simp; omega
  exact ⟨q1, q2, _, hq, by rw [e]; exact h3, by rw [e]; exact h4, by rw [e]; exact h5, e⟩
theorem att_read {s : ByteArray} {g k : Nat} {D P : Value} (x : Sn) (hf : FOk x) (hk : x.kind = 5) (hs : s.size ≤ 100000) (h : Txt s k (attL x)) : Sim1 s g D P k (k + (attL x).length) (0, 1, 0) := by
  have hkey := hf.key (.inr hk)
  obtain ⟨hop1, hop8, hfl⟩ := hf.att hk
  unfold attL at h ⊢
  by_cases c : x.op = 1
  · rw [if_pos c] at h ⊢
    obtain ⟨h1, h2, h3⟩ := h.cons
    obtain ⟨⟨O, q1⟩, q2, q3, _⟩ := h3.name hkey (by decide) (by decide)
    obtain ⟨q4, q5⟩ := name_c0 hkey (h3.app).1
    have q6 := nm_33 q5
    have e : k + (91 :: (namedL x.key ++ [93])).length = k + 1 + (namedL x.key).length + 1 := by simp; omega
    rw [e]
    have q3 : bAt s (k + 1 + (namedL x.key).length) = 93 := q3
    exact .att h2 (fun N V U hU => pAttrHas_to s g k _ O D P N V U hs h2 h1 (sk_none (by omega) (fun _ => ⟨q6.1, q6.2.1⟩)) q1 (sk_none (by omega) (fun _ => by rw [q3]; decide)) q2 q3 hU) rfl
  · rw [if_neg c] at h ⊢
    obtain ⟨h1, h2, h3⟩ := h.cons
    obtain ⟨q4, q5⟩ := name_c0 hkey (h3.app).1
    have q6 := nm_33 q5
    -- what stands behind the name
    have hop : ∃ (a : UInt8) (L : List UInt8), opL x.op = a :: L ∧ isNm a.toNat = false ∧ a.toNat ≠ 92 ∧ a.toNat ≠ 93 ∧ a.toNat ≠ 47 ∧ 33 ≤ a.toNat ∧ ((a = 61 ∧ L = []) ∨ (a.toNat ≠ 61 ∧ L = [61] ∧ (bOf [a, 61] = ⟨#[33, 61]⟩ ∨ bOf [a, 61] = ⟨#[126, 61]⟩ ∨ bOf [a, 61] = ⟨#[124, 61]⟩ ∨ bOf [a, 61] = ⟨#[94, 61]⟩ ∨ bOf [a, 61] = ⟨#[36, 61]⟩ ∨ bOf [a, 61] = ⟨#[42, 61]⟩))) := by
      unfold opL
      by_cases c2 : x.op = 2
      · rw [if_pos c2]; exact ⟨61, [], rfl, by decide, by decide, by decide, by decide, by decide, .inl ⟨rfl, rfl⟩⟩
      rw [if_neg c2]
      by_cases c3 : x.op = 3
      · rw [if_pos c3]; exact ⟨33, [61], rfl, by decide, by decide, by decide, by decide, by decide, .inr ⟨by decide, rfl, .inl rfl⟩⟩
      rw [if_neg c3]
      by_cases c4 : x.op = 4
      · rw [if_pos c4]; exact ⟨126, [61], rfl, by decide, by decide, by decide, by decide, by decide, .inr ⟨by decide, rfl, .inr (.inl rfl)⟩⟩
      rw [if_neg c4]
      by_cases c5 : x.op = 5
      · rw [if_pos c5]; exact ⟨124, [61], rfl, by decide, by decide, by decide, by decide, by decide, .inr ⟨by decide, rfl, .inr (.inr (.inl rfl))⟩⟩
      rw [if_neg c5]
      by_cases c6 : x.op = 6
      · rw [if_pos c6]; exact ⟨94, [61], rfl, by decide, by decide, by decide, by decide, by decide, .inr ⟨by decide, rfl, .inr (.inr (.inr (.inl rfl)))⟩⟩
      rw [if_neg c6]
      by_cases c7 : x.op = 7
      · rw [if_pos c7]; exact ⟨36, [61], rfl, by decide, by decide, by decide, by decide, by decide, .inr ⟨by decide, rfl, .inr (.inr (.inr (.inr (.inl rfl))))⟩⟩
      rw [if_neg c7]
      exact ⟨42, [61], rfl, by decide, by decide, by decide, by decide, by decide, .inr ⟨by decide, rfl, .inr (.inr (.inr (.inr (.inr rfl))))⟩⟩
    obtain ⟨a, L, ho, a1, a2, a3, a4, a5, a6⟩ := hop
    rw [ho] at h3 ⊢
    rw [List.cons_append] at h3
    obtain ⟨⟨O, q1⟩, q2, q3, q7⟩ := h3.name hkey a1 a2
    -- the quote, and what ends it
    have hend : ∃ (b : UInt8) (M : List UInt8), (if x.flag = 1 then [32, 105] else []) ++ [(93 : UInt8)] = b :: M ∧ ((b = 93 ∧ M = []) ∨ (b = 32 ∧ M = [105, 93])) := by
      by_cases c2 : x.flag = 1
      · exact ⟨32, [105, 93], by rw [if_pos c2]; rfl, .inr ⟨rfl, rfl⟩⟩
      · exact ⟨93, [], by rw [if_neg c2]; rfl, .inl ⟨rfl, rfl⟩⟩
    obtain ⟨b, M, hM, hb⟩ := hend
    rw [hM] at q7 ⊢
    -- where the quote stands
    obtain ⟨k1, hk1⟩ : ∃ k1, k1 = k + 1 + (namedL x.key).length := ⟨_, rfl⟩
    rw [← hk1] at q1 q2 q3 q7
    have hsk1 : Sk s k1 k1 := sk_none (by omega) (fun _ => by rw [q3]; exact ⟨a5, a4⟩)
    have hsk0 : Sk s (k + 1) (k + 1) := sk_none (by omega) (fun _ => ⟨q6.1, q6.2.1⟩)
    have fin : ∀ (k2 : Nat) (o : ByteArray), k2 < s.size → ((bAt s k1 = 61 ∧ k2 = k1 + 1 ∧ o = ⟨#[61]⟩) ∨ (bAt s k1 ≠ 61 ∧ bAt s (k1 + 1) = 61 ∧ k2 = k1 + 2 ∧ o = s.extract k1 (k1 + 2))) →
        (o = ⟨#[61]⟩ ∨ o = ⟨#[33, 61]⟩ ∨ o = ⟨#[126, 61]⟩ ∨ o = ⟨#[124, 61]⟩ ∨ o = ⟨#[94, 61]⟩ ∨ o = ⟨#[36, 61]⟩ ∨ o = ⟨#[42, 61]⟩) → Txt s k2 (qtL x.val ++ (b :: M)) → Sim1 s g D P k (k2 + (qtL x.val).length + (b :: M).length) (0, 1, 0) := by
      intro k2 o hk2 hop ho7 ht
      obtain ⟨r1, r2, e0, r3, r4, r5, r6, r7⟩ := ht.quote
      rw [← r7]
      have hsk2 : Sk s k2 k2 := sk_none (by omega) (fun _ => by rw [r2]; decide)
      have hq := r3.lt
      rcases hb with ⟨rfl, rfl⟩ | ⟨rfl, rfl⟩
      · have r5 : bAt s (e0 + 1) = 93 := r5
        exact .att h2 (fun N V U hU => pAttrOp_to s g k k1 O o k2 e0 (e0 + 1) (e0 + 1) false D P N V U hs h2 h1 hsk0 q1 hsk1 q2 (by rw [q3]; exact a3) (by omega) hop ho7 hsk2 r2 r3 (sk_none (by omega) (fun _ => by rw [r5]; decide)) r4 (.inr ⟨rfl, by omega, by omega, rfl⟩) (sk_none (by omega) (fun _ => by rw [r5]; decide)) r4 r5 hU) rfl
      · have r5 : bAt s (e0 + 1) = 32 := r5
        obtain ⟨t1, t2, t3⟩ := r6.cons
        obtain ⟨t4, t5, _⟩ := t3.cons
        have t2 : bAt s (e0 + 1 + 1) = 105 := t2
        have t5 : bAt s (e0 + 1 + 1 + 1) = 93 := t5
        exact .att h2 (fun N V U hU => pAttrOp_to s g k k1 O o k2 e0 (e0 + 1 + 1) (e0 + 1 + 1 + 1) true D P N V U hs h2 h1 hsk0 q1 hsk1 q2 (by rw [q3]; exact a3) (by omega) hop ho7 hsk2 r2 r3 (sk_one r4 r5 (fun _ => by rw [t2]; decide)) t1 (.inl ⟨rfl, t2, rfl⟩) (sk_none (by omega) (fun _ => by rw [t5]; decide)) t4 t5 hU) rfl
    rcases a6 with ⟨rfl, rfl⟩ | ⟨a6, rfl, ho6⟩
    · have q3 : bAt s k1 = 61 := q3
      have q7 : Txt s (k1 + 1) (qtL x.val ++ (b :: M)) := q7
      have e : k + (91 :: (namedL x.key ++ ([61] ++ (qtL x.val ++ (b :: M))))).length = k1 + 1 + (qtL x.val).length + (b :: M).length := by rw [hk1]; simp; omega
      rw [e]
      have hl := q7.le
      simp at hl
      exact fin (k1 + 1) ⟨#[61]⟩ (by omega) (.inl ⟨q3, rfl, rfl⟩) (.inl rfl) q7
    · obtain ⟨q8, q9, q10⟩ := Txt.cons (L := qtL x.val ++ (b :: M)) q7
      have q9 : bAt s (k1 + 1) = 61 := q9
      have e : k + (91 :: (namedL x.key ++ ([a, 61] ++ (qtL x.val ++ (b :: M))))).length = k1 + 2 + (qtL x.val).length + (b :: M).length := by rw [hk1]; simp; omega
      rw [e]
      have hl := q10.le
      simp at hl
      have hex : s.extract k1 (k1 + 2) = bOf [a, 61] := by
        have : Txt s k1 [a, 61] := ⟨by simp; omega, fun i hi => by
          simp at hi
          have : i = 0 ∨ i = 1 := by omega
          rcases this with rfl | rfl
          · exact q3
          · exact q9⟩
        exact this.ext
      exact fin (k1 + 2) (bOf [a, 61]) (by omega) (.inr ⟨by rw [q3]; exact a6, q9, rfl, hex.symm⟩) (.inr ho6) q10
end Go.Proofs.YtnibpdmbccfgoaaGreatDoor
