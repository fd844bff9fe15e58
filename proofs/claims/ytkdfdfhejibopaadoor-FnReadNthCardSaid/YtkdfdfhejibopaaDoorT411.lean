/- A text written as a string, and where its bytes stand then. (No program in sight.) -/
import Derived.Test.YtkdfdfhejibopaaDoorT406
namespace Go.Proofs.YtkdfdfhejibopaaDoor
open Go.RowKit
set_option linter.unusedVariables false

/-- Bytes that are written by their number; those that get a backslash; all others. -/
def isCtl (c : Nat) : Bool := decide (c < 32) || decide (c = 127)
def isQu (c : Nat) : Bool := decide (c = 34) || decide (c = 92)
def isNrm (c : Nat) : Bool := !isCtl c && !isQu c

/-- A hexadecimal digit as a byte. -/
def hxB (d : Nat) : UInt8 := UInt8.ofNat (if d < 10 then 48 + d else 87 + d)
/-- The hexadecimal digits of a number below 256. -/
def hxS (c : Nat) : List UInt8 := if c = 0 then [] else if c < 16 then [hxB c] else [hxB (c / 16), hxB (c % 16)]
def encQ (b : UInt8) : List UInt8 := if isCtl b.toNat then 92 :: (hxS b.toNat ++ [32]) else if isQu b.toNat then [92, b] else [b]
def encL (l : List UInt8) : List UInt8 := l.flatMap encQ

theorem encL_nil : encL [] = [] := rfl
theorem encL_cons (b : UInt8) (l : List UInt8) : encL (b :: l) = encQ b ++ encL l := by unfold encL; rw [List.flatMap_cons]
theorem encL_app (l l' : List UInt8) : encL (l ++ l') = encL l ++ encL l' := by unfold encL; rw [List.flatMap_append]

/-- The text of a list of bytes. -/
def bOf (l : List UInt8) : ByteArray := ⟨l.toArray⟩
theorem bOf_size (l : List UInt8) : (bOf l).size = l.length := by show l.toArray.size = l.length; simp
theorem bOf_app (l l' : List UInt8) : bOf l ++ bOf l' = bOf (l ++ l') := by
  apply ByteArray.ext
  rw [ByteArray.data_append]
  show l.toArray ++ l'.toArray = (l ++ l').toArray
  simp
theorem bOf_data (s : ByteArray) : bOf s.data.toList = s := by cases s; simp [bOf]
theorem bAt_bOf (l : List UInt8) (k : Nat) (h : k < l.length) : bAt (bOf l) k = l[k].toNat := by
  rw [bAt_in (by rw [bOf_size]; exact h)]
  rfl
/-- The byte at a place of a list, 0 behind the end. -/
def lAt (l : List UInt8) (k : Nat) : Nat := (l.getD k 0).toNat
theorem bAt_lAt (l : List UInt8) (k : Nat) : bAt (bOf l) k = lAt l k := by
  unfold lAt
  by_cases h : k < l.length
  · rw [bAt_bOf l k h, List.getD_eq_getElem?_getD, List.getElem?_eq_getElem h]; rfl
  · rw [bAt_out (by rw [bOf_size]; omega), List.getD_eq_getElem?_getD, List.getElem?_eq_none (by omega)]; rfl
theorem lAt_left {l l' : List UInt8} {k : Nat} (h : k < l.length) : lAt (l ++ l') k = lAt l k := by
  unfold lAt; rw [List.getD_eq_getElem?_getD, List.getD_eq_getElem?_getD, List.getElem?_append_left h]
theorem lAt_right {l l' : List UInt8} {k : Nat} : lAt (l ++ l') (l.length + k) = lAt l' k := by
  unfold lAt
  rw [List.getD_eq_getElem?_getD, List.getD_eq_getElem?_getD, List.getElem?_append_right (by omega), Nat.add_sub_cancel_left]
theorem bOf_extract (l : List UInt8) (a b : Nat) (h : b ≤ l.length) : (bOf l).extract a b = bOf ((l.take b).drop a) := by
  apply ByteArray.ext
  rw [ByteArray.data_extract]
  show l.toArray.extract a b = ((l.take b).drop a).toArray
  apply Array.ext'
  simp [List.drop_take]

theorem hxB_nat {d : Nat} (h : d < 16) : (hxB d).toNat = if d < 10 then 48 + d else 87 + d := by
  unfold hxB
  split
  · rw [UInt8.toNat_ofNat']; omega
  · rw [UInt8.toNat_ofNat']; omega
theorem hxB_is {d : Nat} (h : d < 16) : isHx (hxB d).toNat = true ∧ hxD (hxB d).toNat = d := by
  rw [hxB_nat h, isHx_iff]
  unfold hxD
  split
  · constructor
    · omega
    · rw [if_pos (by omega)]; omega
  · constructor
    · omega
    · rw [if_neg (by omega), if_pos (by omega)]; omega

/-- One byte as UTF-8. -/
theorem encode_lo {c : Nat} (h : c < 128) : Utf8.encode (c : Int) = bOf [UInt8.ofNat c] := by
  have : ∀ c : Fin 128, Utf8.encode ((c : Nat) : Int) = bOf [UInt8.ofNat (c : Nat)] := by decide +kernel
  exact this ⟨c, h⟩

/-- The escape of a byte, where it stands in a text: what is read of it. -/
theorem esc_ctl {l r : List UInt8} {b : UInt8} (hb : isCtl b.toNat = true) (h0 : b.toNat ≠ 0) (T : List UInt8) (hT : T = l ++ (encQ b ++ r)) {out : ByteArray} {i' : Nat}
    (h : PEscIs (bOf T) l.length out i') : escAt (bOf T) l.length = true → out = bOf [b] ∧ i' = l.length + (encQ b).length := by
  intro _
  have hlt := b.toNat_lt
  have hc : b.toNat < 32 ∨ b.toNat = 127 := by unfold isCtl at hb; simpa using hb
  have he : encQ b = 92 :: (hxS b.toNat ++ [32]) := by unfold encQ; rw [if_pos hb]
  have hlen : (encQ b).length = (hxS b.toNat).length + 2 := by rw [he]; simp
  have hat : ∀ k, lAt T (l.length + k) = lAt (encQ b ++ r) k := fun k => by rw [hT, lAt_right]
  have hat1 : ∀ k, k < (hxS b.toNat).length → bAt (bOf T) (l.length + 1 + k) = lAt (hxS b.toNat) k := fun k hk => by
    rw [bAt_lAt, Nat.add_assoc, hat, he]
    show lAt (92 :: (hxS b.toNat ++ [32] ++ r)) (1 + k) = _
    have : lAt (92 :: (hxS b.toNat ++ [32] ++ r)) (1 + k) = lAt ((hxS b.toNat ++ [32]) ++ r) k := by unfold lAt; rw [Nat.add_comm, List.getD_cons_succ]
    rw [this, List.append_assoc, lAt_left hk]
  have hat2 : bAt (bOf T) (l.length + 1 + (hxS b.toNat).length) = 32 := by
    rw [bAt_lAt, Nat.add_assoc, hat, he]
    have : lAt (92 :: (hxS b.toNat ++ [32]) ++ r) (1 + (hxS b.toNat).length) = lAt (hxS b.toNat ++ ([32] ++ r)) ((hxS b.toNat).length + 0) := by
      unfold lAt; rw [Nat.add_comm, List.cons_append, List.getD_cons_succ, List.append_assoc]; rfl
    rw [this, lAt_right]; rfl
  have hTl : l.length + 1 + (hxS b.toNat).length < (bOf T).size := by rw [bOf_size, hT, List.length_append, List.length_append, hlen]; omega
  -- how many digits
  have hx : HxTo (bOf T) (l.length + 1) (hxS b.toNat).length ∧ hxV (bOf T) (l.length + 1) (hxS b.toNat).length = b.toNat ∧ 0 < (hxS b.toNat).length := by
    have hs : (b.toNat < 16 ∧ hxS b.toNat = [hxB b.toNat]) ∨ (16 ≤ b.toNat ∧ hxS b.toNat = [hxB (b.toNat / 16), hxB (b.toNat % 16)]) := by
      unfold hxS
      rw [if_neg h0]
      split
      · exact .inl ⟨by assumption, rfl⟩
      · exact .inr ⟨by omega, rfl⟩
    rcases hs with ⟨h1, hs⟩ | ⟨h1, hs⟩
    · rw [hs] at hat1 hat2 hTl ⊢
      obtain ⟨q1, q2⟩ := hxB_is h1
      have e0 : bAt (bOf T) (l.length + 1 + 0) = (hxB b.toNat).toNat := hat1 0 (by simp)
      refine ⟨⟨by simp, by simp at hTl ⊢; omega, fun x hx => ?_, fun _ _ => ?_⟩, ?_, by simp⟩
      · simp at hx; subst hx; rw [e0]; exact q1
      · rw [hat2]; decide
      · show 16 * 0 + hxD (bAt (bOf T) (l.length + 1 + 0)) = _
        rw [e0, q2]; omega
    · rw [hs] at hat1 hat2 hTl ⊢
      obtain ⟨q1, q2⟩ := hxB_is (d := b.toNat / 16) (by omega)
      obtain ⟨q3, q4⟩ := hxB_is (d := b.toNat % 16) (by omega)
      have e0 : bAt (bOf T) (l.length + 1 + 0) = (hxB (b.toNat / 16)).toNat := hat1 0 (by simp)
      have e1 : bAt (bOf T) (l.length + 1 + 1) = (hxB (b.toNat % 16)).toNat := hat1 1 (by simp)
      refine ⟨⟨by simp, by simp at hTl ⊢; omega, fun x hx => ?_, fun _ _ => ?_⟩, ?_, by simp⟩
      · simp at hx
        have : x = 0 ∨ x = 1 := by omega
        rcases this with rfl | rfl
        · rw [e0]; exact q1
        · rw [e1]; exact q3
      · rw [hat2]; decide
      · show 16 * (16 * 0 + hxD (bAt (bOf T) (l.length + 1 + 0))) + hxD (bAt (bOf T) (l.length + 1 + 1)) = _
        rw [e0, e1, q2, q4]; omega
  obtain ⟨hx1, hx2, hx3⟩ := hx
  obtain ⟨j, j1, _, j3⟩ := h
  obtain rfl := hx1.uniq j1
  obtain ⟨k1, k2⟩ := j3 hx3
  rw [hx2, encode_lo (by omega), UInt8.ofNat_toNat] at k2
  refine ⟨k2, ?_⟩
  rw [k1]
  unfold wsEnd
  rw [if_pos hTl, if_neg (by omega), if_pos (by omega), hlen]
  omega

theorem esc_qu {l r : List UInt8} {b : UInt8} (hb : isQu b.toNat = true) (T : List UInt8) (hT : T = l ++ (encQ b ++ r)) {out : ByteArray} {i' : Nat}
    (h : PEscIs (bOf T) l.length out i') : out = bOf [b] ∧ i' = l.length + (encQ b).length := by
  have hc : b.toNat = 34 ∨ b.toNat = 92 := by unfold isQu at hb; simpa using hb
  have hn : isCtl b.toNat = false := by unfold isCtl; simp; omega
  have he : encQ b = [92, b] := by unfold encQ; rw [hn, if_neg (by simp), if_pos hb]
  rw [he] at hT ⊢
  have hat : bAt (bOf T) (l.length + 1) = b.toNat := by rw [bAt_lAt, hT, lAt_right]; rfl
  obtain ⟨j, j1, j2, _⟩ := h
  have hj : j = 0 := by
    rcases Nat.eq_zero_or_pos j with h | h
    · exact h
    · have := j1.all 0 h
      rw [Nat.add_zero, hat, isHx_iff] at this
      omega
  obtain ⟨k1, k2⟩ := j2 hj
  refine ⟨?_, by rw [k2]; rfl⟩
  rw [k1, bOf_extract _ _ _ (by rw [hT]; simp), hT]
  simp [List.take_append, List.drop_append]
  rw [List.drop_eq_nil_of_le (by rw [List.length_take]; omega)]
  rfl

/-- Where the escape begins. -/
theorem esc_at {l r : List UInt8} {b : UInt8} (hb : isNrm b.toNat = false) (h0 : b.toNat ≠ 0) (T : List UInt8) (hT : T = l ++ (encQ b ++ r)) : escAt (bOf T) l.length = true := by
  rw [escAt_iff, bOf_size]
  have h1 : bAt (bOf T) l.length = lAt (encQ b ++ r) 0 := by rw [bAt_lAt, hT]; exact lAt_right (k := 0)
  have h2 : bAt (bOf T) (l.length + 1) = lAt (encQ b ++ r) 1 := by rw [bAt_lAt, hT, lAt_right]
  have hl : T.length = l.length + ((encQ b).length + r.length) := by rw [hT]; simp
  by_cases hc : isCtl b.toNat = true
  · have he : encQ b = 92 :: (hxS b.toNat ++ [32]) := by unfold encQ; rw [if_pos hc]
    have hlt := b.toNat_lt
    rw [he] at h1 h2 hl
    have hs : ∃ d t, d < 16 ∧ hxS b.toNat = hxB d :: t := by
      unfold hxS
      rw [if_neg h0]
      split
      · exact ⟨_, _, by assumption, rfl⟩
      · exact ⟨_, _, by omega, rfl⟩
    obtain ⟨d, t, hd, hs⟩ := hs
    have q := (hxB_is hd).1
    rw [hs] at h1 h2 hl
    have h2' : bAt (bOf T) (l.length + 1) = (hxB d).toNat := h2
    rw [← h2', isHx_iff] at q
    refine ⟨by rw [hl]; simp; omega, h1, by omega, by omega, by omega⟩
  · have hq : isQu b.toNat = true := by
      unfold isNrm at hb
      cases h : isQu b.toNat
      · simp [h] at hb; exact absurd hb hc
      · rfl
    have he : encQ b = [92, b] := by unfold encQ; rw [if_neg hc, if_pos hq]
    have hc2 : b.toNat = 34 ∨ b.toNat = 92 := by unfold isQu at hq; simpa using hq
    rw [he] at h1 h2 hl
    have h2' : bAt (bOf T) (l.length + 1) = b.toNat := h2
    refine ⟨by rw [hl]; simp; omega, h1, by omega, by omega, by omega⟩
end Go.Proofs.YtkdfdfhejibopaaDoor
