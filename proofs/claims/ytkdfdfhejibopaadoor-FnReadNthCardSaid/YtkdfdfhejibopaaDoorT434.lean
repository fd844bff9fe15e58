/- What the reference reads as a+b is what parseNth reads. (No program in sight.) -/
import Derived.Test.YtkdfdfhejibopaaDoorT433
import Derived.Test.YtkdfdfhejibopaaDoorT428
namespace Go.Proofs.YtkdfdfhejibopaaDoor
open Go.RowKit
set_option linter.unusedVariables false

def lowN (c : Nat) : Nat := if 65 ≤ c ∧ c ≤ 90 then c + 32 else c
theorem lowerB_nat (b : UInt8) : (Lib.lowerB b).toNat = lowN b.toNat := by
  unfold lowN
  cases h : Lib.isUpperB b
  · rw [Lib.lowerB_of_not b h, if_neg]
    intro q
    have : Lib.isUpperB b = true := by
      unfold Lib.isUpperB
      rw [Bool.and_eq_true, decide_eq_true_eq, decide_eq_true_eq, UInt8.le_iff_toNat_le, UInt8.le_iff_toNat_le]
      exact q
    rw [h] at this; cases this
  · have h2 := Lib.lowerB_int b h
    unfold Lib.isUpperB at h
    rw [Bool.and_eq_true, decide_eq_true_eq, decide_eq_true_eq, UInt8.le_iff_toNat_le, UInt8.le_iff_toNat_le] at h
    have h3 : 65 ≤ b.toNat ∧ b.toNat ≤ 90 := h
    rw [if_pos h3]
    omega
theorem bAt_lowS (s : ByteArray) (i : Nat) : bAt (lowS s) i = lowN (bAt s i) := by
  by_cases q : i < s.size
  · have h1 : i < (lowS s).size := by rw [lowS_size]; exact q
    rw [bAt_in h1, bAt_in q, ← lowerB_nat]
    have h2 : (lowS s)[i] = Lib.lowerB s[i] := by
      show (s.data.toList.map Lib.lowerB).toArray[i]'(by simpa using q) = _
      rw [List.getElem_toArray, List.getElem_map]
      rfl
    rw [h2]
  · rw [bAt_out (by rw [lowS_size]; omega), bAt_out (by omega)]
    rfl
theorem lowN_nm {c x : Nat} (h : lowN c = x) (h1 : 97 ≤ x) (h2 : x ≤ 122) : isNm c = true ∧ c ≠ 92 := by
  unfold lowN at h
  rw [isNm_iff]
  split at h <;> omega
theorem hasN_low {s : ByteArray} {i : Nat} (h : i < s.size) (hl : isLN (bAt s i)) : HasN (lowS s) := by
  refine ⟨i, by rw [lowS_size]; exact h, ?_⟩
  rw [bAt_lowS]
  rcases hl with q | q <;> rw [q] <;> rfl
theorem low_hasN {s : ByteArray} (h : HasN (lowS s)) : ∃ i, i < s.size ∧ isLN (bAt s i) := by
  obtain ⟨i, h1, h2⟩ := h
  rw [lowS_size] at h1
  rw [bAt_lowS] at h2
  refine ⟨i, h1, ?_⟩
  unfold lowN at h2
  unfold isLN
  split at h2 <;> omega

def isWd (t : ByteArray) : Prop := t = oddT ∨ t = evenT
theorem wd_size {t : ByteArray} (h : isWd t) : (t = oddT ∧ t.size = 3) ∨ (t = evenT ∧ t.size = 4) := by
  rcases h with rfl | rfl
  · exact .inl ⟨rfl, rfl⟩
  · exact .inr ⟨rfl, rfl⟩
theorem wd_at {t : ByteArray} (h : isWd t) : ∀ x, x < t.size → 97 ≤ bAt t x ∧ bAt t x ≤ 122 := by
  rcases h with rfl | rfl
  · decide
  · decide
theorem wd_oe {t : ByteArray} (h : isWd t) : bAt t 0 = 111 ∨ bAt t 0 = 101 := by
  rcases h with rfl | rfl
  · exact .inl rfl
  · exact .inr rfl
theorem lowN_oe {c : Nat} (h : lowN c = 111 ∨ lowN c = 101) : isOE c := by
  unfold lowN at h
  unfold isOE
  split at h <;> omega
theorem low_oe {s : ByteArray} (h : isWd (lowS s)) : isOE (bAt s 0) := by
  have := wd_oe h
  rw [bAt_lowS] at this
  exact lowN_oe this
/-- A word that stands at the beginning. -/
theorem word_nm {s t : ByteArray} (ht : isWd t) (h : wordB s t 0 = true) :
    t.size ≤ s.size ∧ lowS (s.extract 0 t.size) = t ∧ NmStop s t.size ∧ (∀ x, x < t.size → isNm (bAt s x) = true ∧ bAt s x ≠ 92) ∧ isOE (bAt s 0) := by
  have h := of_decide_eq_true h
  rw [Nat.zero_add] at h
  obtain ⟨h1, h2, h3, h4⟩ := h
  have key : ∀ x, x < t.size → lowN (bAt s x) = bAt t x := fun x hx => by
    have e := bAt_extract (s := s) (a := 0) (b := t.size) (x := x) (by omega) h1
    rw [Nat.zero_add] at e
    rw [← e, ← bAt_lowS, h2]
  have hs : 0 < t.size := by rcases wd_size ht with q | q <;> omega
  refine ⟨h1, h2, ⟨h1, fun _ => ⟨h3, h4⟩⟩, fun x hx => ?_, ?_⟩
  · have := wd_at ht x hx
    exact lowN_nm (key x hx) this.1 this.2
  · have := wd_oe ht
    rw [← key 0 hs] at this
    exact lowN_oe this
theorem esc_92 {s : ByteArray} {i : Nat} (h : escAt s i = true) : bAt s i = 92 ∧ i + 1 < s.size := by
  rw [escAt_iff] at h
  exact ⟨h.2.1, h.1⟩
theorem one_add (s : ByteArray) {i : Nat} (h : i < s.size) : s.extract 0 i ++ oneB s i = s.extract 0 (i + 1) := by
  unfold oneB
  rw [ByteArray.extract_append_extract]
  congr 1 <;> omega
/-- What can be read where d bytes of names stand, and then none. -/
theorem nm_seg {s : ByteArray} {d : Nat} (hst : NmStop s d) (hn : ∀ x, x < d → isNm (bAt s x) = true ∧ bAt s x ≠ 92) {acc : ByteArray} {i : Nat} (h : NmAc s 0 acc i) : i ≤ d ∧ acc = s.extract 0 i := by
  induction h with
  | zero => exact ⟨Nat.zero_le _, by apply ByteArray.ext; rw [ByteArray.data_extract]; simp⟩
  | @chr acc i _ hi hm ih =>
    obtain ⟨h1, h2⟩ := ih
    by_cases q : i = d
    · subst q
      have := (hst.2 hi).1
      rw [hm] at this; cases this
    · exact ⟨by omega, by rw [h2, one_add s hi]⟩
  | @esc acc o i i1 _ he _ _ ih =>
    obtain ⟨h1, h2⟩ := ih
    have h3 := esc_92 he
    by_cases q : i = d
    · subst q
      exact absurd h3.1 (hst.2 (by omega)).2
    · exact absurd h3.1 (hn i (by omega)).2
theorem nm_end {s : ByteArray} {d : Nat} (hst : NmStop s d) (hn : ∀ x, x < d → isNm (bAt s x) = true ∧ bAt s x ≠ 92) {acc : ByteArray} {i : Nat} (h : NmAc s 0 acc i) (hs : NmStop s i) : i = d ∧ acc = s.extract 0 d := by
  obtain ⟨h1, h2⟩ := nm_seg hst hn h
  have hd := hst.1
  by_cases q : i = d
  · subst q; exact ⟨rfl, h2⟩
  · have := (hs.2 (by omega)).1
    rw [(hn i (by omega)).1] at this; cases this
theorem nm_bad {s : ByteArray} {d : Nat} (hst : NmStop s d) (hn : ∀ x, x < d → isNm (bAt s x) = true ∧ bAt s x ≠ 92) {acc : ByteArray} {i : Nat} (h : NmAc s 0 acc i) (hs : NmBad s i) : False := by
  obtain ⟨h1, h2⟩ := nm_seg hst hn h
  obtain ⟨b1, b2, b3⟩ := hs
  by_cases q : i = d
  · subst q; exact (hst.2 b1).2 b2
  · exact (hn i (by omega)).2 b2
/-- Where a word stands parseNth answers by it. -/
theorem word_yes {s t : ByteArray} (ht : isWd t) (h : wordB s t 0 = true) {r : Option (Int × Int × Nat)} (hr : WordR s 0 r) :
    r = if t = oddT then some (2, 1, 3) else some (2, 0, 4) := by
  obtain ⟨h1, h2, h3, h4, _⟩ := word_nm ht h
  have hs : 0 < t.size := by rcases wd_size ht with q | q <;> omega
  rcases hr with ⟨_, acc, i, ha, hb | ⟨hb, h0⟩⟩ | ⟨out, i, ha, hb, hp, hc⟩
  · exact (nm_bad h3 h4 ha hb).elim
  · obtain ⟨_, q⟩ := nm_end h3 h4 ha hb
    rw [q, ByteArray.size_extract] at h0
    omega
  · obtain ⟨q1, q2⟩ := nm_end h3 h4 ha hb
    rw [← q2] at h2
    rcases hc with ⟨c1, c2⟩ | ⟨c1, c2, c3⟩ | ⟨c1, c2, c3⟩
    · rw [h2] at c1
      rw [c2, q1, if_pos c1, c1]; rfl
    · rw [h2] at c1 c2
      rw [c3, q1, if_neg c1, c2]; rfl
    · rw [h2] at c1 c2
      exact absurd ht (fun q => by rcases q with q | q; exact c1 q; exact c2 q)

theorem enc_pos (n : Int) : 0 < (Utf8.encode n).size := by
  unfold Utf8.encode
  dsimp only
  generalize (if Utf8.valid n = true then n.toNat else Utf8.runeError) = c
  split
  · exact Nat.succ_pos _
  · split
    · exact Nat.succ_pos _
    · split <;> exact Nat.succ_pos _
theorem pesc_pos {s : ByteArray} {i i1 : Nat} {o : ByteArray} (h : PEscIs s i o i1) (hi : i + 1 < s.size) : 0 < o.size := by
  obtain ⟨j, hx, h0, h1⟩ := h
  rcases Nat.eq_zero_or_pos j with c | c
  · obtain ⟨rfl, _⟩ := h0 c
    rw [ByteArray.size_extract]; omega
  · rw [(h1 c).2]; exact enc_pos _
/-- Where no backslash stands among the first four bytes. -/
theorem nm_four {s : ByteArray} (hn : ∀ x, x < 4 → bAt s x ≠ 92) {acc : ByteArray} {i : Nat} (h : NmAc s 0 acc i) :
    (i ≤ 4 ∧ i ≤ s.size ∧ acc = s.extract 0 i ∧ acc.size = i) ∨ 4 < acc.size := by
  induction h with
  | zero => exact .inl ⟨by omega, by omega, by apply ByteArray.ext; rw [ByteArray.data_extract]; simp, rfl⟩
  | @chr acc i _ hi hm ih =>
    have h1 : (oneB s i).size = 1 := by unfold oneB; rw [ByteArray.size_extract]; omega
    rcases ih with ⟨h2, h3, h4, h5⟩ | h2
    · by_cases q : i < 4
      · refine .inl ⟨by omega, by omega, by rw [h4, one_add s hi], ?_⟩
        rw [ByteArray.size_append, h1, h5]
      · refine .inr ?_
        rw [ByteArray.size_append, h1, h5]; omega
    · refine .inr ?_
      rw [ByteArray.size_append]; omega
  | @esc acc o i i1 _ he hp _ ih =>
    have h1 := esc_92 he
    have h2 := pesc_pos hp h1.2
    rcases ih with ⟨h3, h4, h5, h6⟩ | h3
    · by_cases q : i < 4
      · exact absurd h1.1 (hn i q)
      · refine .inr ?_
        rw [ByteArray.size_append, h6]; omega
    · refine .inr ?_
      rw [ByteArray.size_append]; omega
theorem word_no {s : ByteArray} (hn : ∀ x, x < 4 → bAt s x ≠ 92) (h1 : wordB s oddT 0 = false) (h2 : wordB s evenT 0 = false) {r : Option (Int × Int × Nat)} (hr : WordR s 0 r) : r = none := by
  rcases hr with ⟨hr, _⟩ | ⟨out, i, ha, hb, hp, hc⟩
  · exact hr
  · have key : ∀ t, isWd t → lowS out = t → wordB s t 0 = true := fun t ht hl => by
      have hz : out.size = t.size := by rw [← hl, lowS_size]
      rcases nm_four hn ha with ⟨q1, q2, q3, q4⟩ | q1
      · have hi : i = t.size := by omega
        subst hi
        refine decide_eq_true ?_
        rw [Nat.zero_add, ← q3]
        refine ⟨q2, hl, ?_⟩
        by_cases q : t.size < s.size
        · exact hb.2 q
        · rw [bAt_out (by omega)]
          exact ⟨rfl, by decide⟩
      · rcases wd_size ht with q | q <;> omega
    rcases hc with ⟨c1, c2⟩ | ⟨c1, c2, c3⟩ | ⟨c1, c2, c3⟩
    · have := key oddT (.inl rfl) c1
      rw [h1] at this; cases this
    · have := key evenT (.inr rfl) c2
      rw [h2] at this; cases this
    · exact c3

theorem Sg.c0 {s : ByteArray} {p : Nat} {σ : Int} (h : Sg s p σ) : (p = 1 ∧ (bAt s 0 = 45 ∨ bAt s 0 = 43)) ∨ (p = 0 ∧ σ = 1 ∧ bAt s 0 ≠ 45 ∧ bAt s 0 ≠ 43) := by
  rcases h with ⟨h, rfl, _⟩ | ⟨h, rfl, _⟩ | ⟨h1, h2, rfl, rfl⟩
  · exact .inl ⟨rfl, .inl h⟩
  · exact .inl ⟨rfl, .inr h⟩
  · exact .inr ⟨rfl, rfl, h1, h2⟩
theorem word_oe {s t : ByteArray} (ht : isWd t) (h : wordB s t 0 = true) : isOE (bAt s 0) := (word_nm ht h).2.2.2.2
theorem oe_facts {s : ByteArray} (h : isOE (bAt s 0)) : bAt s 0 ≠ 45 ∧ bAt s 0 ≠ 43 ∧ isDg (bAt s 0) = false ∧ ¬ isLN (bAt s 0) := by
  unfold isOE at h
  refine ⟨by omega, by omega, ?_, ?_⟩
  · rw [isDg_no]; omega
  · unfold isLN; omega

theorem sm_of {s : ByteArray} {a b : Int} {k : Nat} {bd : Bool} (h : CntS s a b k bd) (hoe : ¬ isOE (bAt s 0)) (p : Nat) (σ : Int) (hsg : Sg s p σ) : SmD s p := by
  intro j hj
  rcases h with ⟨h, _⟩ | ⟨_, h, _⟩ | ⟨_, _, h | h | h⟩
  · exact absurd (word_oe (.inl rfl) h) hoe
  · exact absurd (word_oe (.inr rfl) h) hoe
  · obtain ⟨p', j', σ', h1, h2, h3, h4, _⟩ := h
    obtain ⟨rfl, rfl⟩ := hsg.uniq h1
    obtain rfl := hj.uniq h2
    exact ⟨h3, fun _ q => absurd q h4⟩
  · obtain ⟨p', j', e, σ', h1, h2, h3, h4, _, h6, h7, h8, _⟩ := h
    obtain ⟨rfl, rfl⟩ := hsg.uniq h1
    obtain rfl := hj.uniq h2
    refine ⟨h3, fun _ _ => fun e' e2 j2 q1 q2 _ _ => ?_⟩
    obtain rfl := q1.uniq h6
    rcases q2 with q2 | q2
    · exact absurd q2 h7
    · exact absurd q2 h8
  · obtain ⟨p', j', e, e2, j2, σ', h1, h2, h3, h4, _, h6, h7, h8, h9, h10, _⟩ := h
    obtain ⟨rfl, rfl⟩ := hsg.uniq h1
    obtain rfl := hj.uniq h2
    refine ⟨h3, fun _ _ => fun e' e2' j2' q1 q2 q3 q4 => ?_⟩
    obtain rfl := q1.uniq h6
    obtain rfl := q3.uniq h8
    obtain rfl := q4.uniq h9
    exact h10

/-- What the two sides answer is the same. -/
def SameN (r : Option (Int × Int × Nat)) (a b : Int) (k : Nat) (ok : Bool) : Prop := (ok = true → r = some (a, b, k)) ∧ (ok = false → r = none)

/-- A text of a sign and digits has no n. -/
theorem no_n {s : ByteArray} {p j : Nat} {σ : Int} (hs : Sg s p σ) (hd : DgTo s p j) (he : p + j = s.size) : ¬ HasN (lowS s) := by
  intro h
  obtain ⟨i, h1, h2⟩ := low_hasN h
  have hc := hs.c0
  by_cases q : i < p
  · rcases hc with ⟨q1, q2⟩ | ⟨q1, _⟩
    · obtain rfl : i = 0 := by omega
      unfold isLN at h2
      omega
    · omega
  · have := (isDg_iff _).1 (hd.all (i - p) (by omega))
    rw [show p + (i - p) = i by omega] at this
    unfold isLN at h2
    omega
theorem ln_lt {s : ByteArray} {i : Nat} (h : isLN (bAt s i)) : i < s.size := by
  by_cases q : i < s.size
  · exact q
  · rw [bAt_out (by omega)] at h
    unfold isLN at h; omega
theorem dg_lt {s : ByteArray} {i : Nat} (h : isDg (bAt s i) = true) : i < s.size := by
  by_cases q : i < s.size
  · exact q
  · rw [bAt_out (by omega)] at h
    cases h
theorem ln_dg {s : ByteArray} {i : Nat} (h : isLN (bAt s i)) : isDg (bAt s i) = false := by
  rw [isDg_no]; unfold isLN at h; omega
theorem dg_none {s : ByteArray} {p j : Nat} (h : DgTo s p j) (hd : isDg (bAt s p) = false) : j = 0 := by
  rcases Nat.eq_zero_or_pos j with q | q
  · exact q
  · have := h.all 0 q
    rw [Nat.add_zero, hd] at this; cases this
theorem last_dg {s : ByteArray} {m e : Nat} (hl : isLN (bAt s (m - 1))) (hm : 0 < m) (h : Sk s m e) : isDg (bAt s (e - 1)) = false := by
  rcases h.1.last with rfl | ⟨_, q⟩
  · exact ln_dg hl
  · rw [isDg_no]
    rcases q with q | q
    · unfold isWs at q
      have := of_decide_eq_true q
      omega
    · omega

/-- Behind n, where no sign stands. -/
theorem match_n {s : ByteArray} {L e : Nat} {a : Int} {r : Option (Int × Int × Nat)} {ok : Bool} (hl : isLN (bAt s L)) (hk : Sk s (L + 1) e) (h43 : bAt s e ≠ 43) (h45 : bAt s e ≠ 45)
    (hno : ¬ isOE (bAt s 0)) (hok : ok = true ↔ (e = s.size → 0 < e → lowS s ≠ oddT → lowS s ≠ evenT → HasN (lowS s) ∧ isDg (bAt s (e - 1)) = true)) (hr : RN s (L + 1) a r) : SameN r a 0 e ok := by
  have hge := hk.ge
  obtain ⟨e', hk', hc⟩ := hr
  obtain rfl := hk'.uniq hk
  rcases hc with ⟨h1, h2⟩ | ⟨h1, _, _, h2⟩ | ⟨_, h1, _⟩
  · refine ⟨fun h => ?_, fun _ => h2⟩
    have := (hok.1 h h1 (by omega) (fun q => hno (low_oe (.inl q))) (fun q => hno (low_oe (.inr q)))).2
    rw [last_dg (by rw [Nat.add_sub_cancel]; exact hl) (by omega) hk] at this
    cases this
  · exact ⟨fun _ => h2, fun h => by rw [hok.2 (fun q => by omega)] at h; cases h⟩
  · rcases h1 with q | q
    · exact absurd q h43
    · exact absurd q h45
/-- Behind n, where a sign stands. -/
theorem match_m {s : ByteArray} {L e e2 j2 : Nat} {a b : Int} {r : Option (Int × Int × Nat)} {ok : Bool} (hl : isLN (bAt s L)) (hk : Sk s (L + 1) e) (hpm : bAt s e = 43 ∨ bAt s e = 45) (hk2 : Sk s (e + 1) e2) (hd : DgTo s e2 j2) (hsm : dgC s e2 j2 < 100000)
    (hb : b = (if bAt s e = 45 then -(dgC s e2 j2 : Int) else (dgC s e2 j2 : Int)))
    (hok : ok = true ↔ j2 ≠ 0 ∧ (e2 + j2 = s.size → 0 < e2 + j2 → lowS s ≠ oddT → lowS s ≠ evenT → HasN (lowS s) ∧ isDg (bAt s (e2 + j2 - 1)) = true)) (hr : RN s (L + 1) a r) : SameN r a b (e2 + j2) ok := by
  obtain ⟨e', hk', hc⟩ := hr
  obtain rfl := hk'.uniq hk
  rcases hc with ⟨h1, h2⟩ | ⟨h1, q1, q2, h2⟩ | ⟨h1, _, e2', j2', k2', d', z1, z2⟩
  · rw [bAt_out (by omega)] at hpm; omega
  · omega
  · obtain rfl := k2'.uniq hk2
    obtain rfl := d'.uniq hd
    rcases Nat.eq_zero_or_pos j2' with q | q
    · exact ⟨fun h => absurd q (hok.1 h).1, fun _ => z1 q⟩
    · have hv := dgC_eq s e2' j2' hsm
      have hlast := hd.all (j2' - 1) (by omega)
      rw [show e2' + (j2' - 1) = e2' + j2' - 1 by omega] at hlast
      have : ok = true := hok.2 ⟨by omega, fun _ _ _ _ => ⟨hasN_low (ln_lt hl) hl, hlast⟩⟩
      refine ⟨fun _ => ?_, fun h => by rw [this] at h; cases h⟩
      rw [z2 q, hb, hv]

theorem nth_match {s : ByteArray} {a b : Int} {k : Nat} {ok : Bool} (h : RnF s a b k ok) {r : Option (Int × Int × Nat)} (hp : PN s 0 r) : SameN r a b k ok := by
  obtain ⟨a0, b0, bd, hc, hab1, hab2, _, _, hok⟩ := h
  rcases hc with ⟨hw, rfl, rfl, rfl, rfl⟩ | ⟨hn, hw, rfl, rfl, rfl, rfl⟩ | ⟨hw1, hw2, hc⟩
  · obtain ⟨rfl, rfl⟩ := hab2 rfl
    have hoe := word_oe (.inl rfl) hw
    obtain ⟨f1, f2, f3, f4⟩ := oe_facts hoe
    have hnm := word_nm (.inl rfl) hw
    have hok1 : ok = true := hok.2 ⟨rfl, fun q _ q3 _ => absurd (by
      have e := hnm.2.1
      rw [show oddT.size = 3 from rfl, q, ByteArray.extract_zero_size] at e
      exact e) q3⟩
    have hr : WordR s 0 r := by
      rcases hp with ⟨p, σ, q1, _, q2 | q2 | q2⟩ | ⟨q, _⟩ | ⟨_, _, q⟩ | ⟨_, _, _, _, _, q, _⟩
      · have := q1.c0; omega
      · rw [f3] at q2; cases q2
      · exact absurd q2 f4
      · have := hnm.1; rw [show oddT.size = 3 from rfl] at this; omega
      · exact q
      · exact absurd hoe q
    refine ⟨fun _ => ?_, fun q => by rw [hok1] at q; cases q⟩
    rw [word_yes (.inl rfl) hw hr, if_pos rfl]
  · obtain ⟨rfl, rfl⟩ := hab2 rfl
    have hoe := word_oe (.inr rfl) hw
    obtain ⟨f1, f2, f3, f4⟩ := oe_facts hoe
    have hnm := word_nm (.inr rfl) hw
    have hok1 : ok = true := hok.2 ⟨rfl, fun q _ _ q3 => absurd (by
      have e := hnm.2.1
      rw [show evenT.size = 4 from rfl, q, ByteArray.extract_zero_size] at e
      exact e) q3⟩
    have hr : WordR s 0 r := by
      rcases hp with ⟨p, σ, q1, _, q2 | q2 | q2⟩ | ⟨q, _⟩ | ⟨_, _, q⟩ | ⟨_, _, _, _, _, q, _⟩
      · have := q1.c0; omega
      · rw [f3] at q2; cases q2
      · exact absurd q2 f4
      · have := hnm.1; rw [show evenT.size = 4 from rfl] at this; omega
      · exact q
      · exact absurd hoe q
    refine ⟨fun _ => ?_, fun q => by rw [hok1] at q; cases q⟩
    rw [word_yes (.inr rfl) hw hr, if_neg (by decide)]
  · -- no word stands there
    have hno : ∀ {p j : Nat} {σ : Int}, Sg s p σ → DgTo s p j → (isLN (bAt s (p + j)) ∨ 0 < j) → ¬ isOE (bAt s 0) := fun {p j σ} q1 q2 q3 q4 => by
      obtain ⟨f1, f2, f3, f4⟩ := oe_facts q4
      rcases q1.c0 with ⟨_, q⟩ | ⟨q, _⟩
      · omega
      · subst q
        have := dg_none q2 f3
        subst this
        rcases q3 with q3 | q3
        · exact f4 q3
        · omega
    rcases hc with hc | hc | hc
    · obtain ⟨p, j, σ, hsg, hd, hsm, hln, ha, hb, hk, hbd, h92⟩ := hc
      subst hk
      have hle := hd.le
      have hv := dgC_eq s p j hsm
      rcases Nat.eq_zero_or_pos j with hj | hj
      · -- no number
        have hok0 : ok = false := by
          cases ok
          · rfl
          · have := (hok.1 rfl).1
            rw [hbd, decide_eq_false_iff_not] at this
            exact absurd hj this
        refine ⟨(fun q => by rw [hok0] at q; cases q), fun _ => ?_⟩
        subst hj
        rw [Nat.add_zero] at hln
        rcases hp with ⟨p', σ', q1, q2, _⟩ | ⟨_, q⟩ | ⟨_, q1, q⟩ | ⟨_, _, _, _, _, _, q⟩
        · obtain ⟨rfl, rfl⟩ := hsg.uniq q1
          rcases q2 with ⟨_, q⟩ | ⟨_, q, j', z1, z2, _⟩ | ⟨_, q, _⟩ | ⟨_, _, _, q⟩
          · exact q
          · have := z2.uniq hd; omega
          · exact absurd q hln
          · exact q
        · exact q
        · obtain ⟨f1, f2, f3, f4⟩ := oe_facts q1
          rcases hsg.c0 with ⟨_, z⟩ | ⟨z, _⟩
          · omega
          · subst z
            exact word_no (fun x hx => h92 x (by omega) (by omega)) hw1 hw2 q
        · exact q
      · -- a number
        have hnoe := hno hsg hd (.inr hj)
        have hbd0 : bd = false := by rw [hbd]; exact decide_eq_false (by omega)
        obtain ⟨rfl, rfl⟩ := hab2 hbd0
        have hdp : isDg (bAt s p) = true := hd.all 0 hj
        have hra : RA s (p + j) (σ * (dgV s p j : Int)) r := by
          rcases hp with ⟨p', σ', q1, q2, _⟩ | ⟨q, _⟩ | ⟨_, q1, q⟩ | ⟨q0, q1, q2, q3, _⟩
          · obtain ⟨rfl, rfl⟩ := hsg.uniq q1
            rcases q2 with ⟨q, _⟩ | ⟨_, q, j', z1, z2, z3⟩ | ⟨_, q, _⟩ | ⟨_, q, _⟩
            · omega
            · obtain rfl := z2.uniq hd
              exact z3
            · rw [ln_dg q] at hdp; cases hdp
            · rw [q] at hdp; cases hdp
          · omega
          · exact absurd q1 hnoe
          · rcases hsg.c0 with ⟨_, z⟩ | ⟨z, _⟩
            · omega
            · subst z; rw [q3] at hdp; cases hdp
        rcases hra with ⟨q1, q2⟩ | ⟨_, q, _⟩ | ⟨q1, _, q2⟩
        · refine ⟨fun z => ?_, fun _ => q2⟩
          exact absurd ((hok.1 z).2 q1 (by omega) (fun q => hnoe (low_oe (.inl q))) (fun q => hnoe (low_oe (.inr q)))).1 (no_n hsg hd q1)
        · exact absurd q hln
        · have : ok = true := hok.2 ⟨hbd0, fun q => by omega⟩
          refine ⟨fun _ => ?_, fun z => by rw [this] at z; cases z⟩
          rw [q2, ha, hb, hv]
    · obtain ⟨p, j, e, σ, hsg, hd, hsm, hln, ha, hk, h43, h45, hb, hke, hbd⟩ := hc
      subst hke
      have hnoe := hno hsg hd (.inl hln)
      obtain ⟨rfl, rfl⟩ := hab2 hbd
      have hv := dgC_eq s p j hsm
      have hok' : ok = true ↔ (k = s.size → 0 < k → lowS s ≠ oddT → lowS s ≠ evenT → HasN (lowS s) ∧ isDg (bAt s (k - 1)) = true) := hok.trans ⟨fun q => q.2, fun q => ⟨hbd, q⟩⟩
      have hrn : RN s (p + j + 1) (σ * (num1 s p j : Int)) r := by
        rcases hp with ⟨p', σ', q1, q2, _⟩ | ⟨q, _⟩ | ⟨_, q1, q⟩ | ⟨q0, q1, q2, q3, q4, _⟩
        · obtain ⟨rfl, rfl⟩ := hsg.uniq q1
          rcases q2 with ⟨q, _⟩ | ⟨_, q, j', z1, z2, z3⟩ | ⟨_, q, z⟩ | ⟨_, q, z, _⟩
          · have := ln_lt hln; omega
          · obtain rfl := z2.uniq hd
            have e1 : num1 s p j' = dgV s p j' := by unfold num1; rw [if_neg (by omega), hv]
            rw [e1]
            rcases z3 with ⟨y, _⟩ | ⟨_, _, y⟩ | ⟨_, y, _⟩
            · have := ln_lt hln; omega
            · exact y
            · exact absurd hln y
          · have := dg_none hd (ln_dg q)
            subst this
            rw [show num1 s p 0 = 1 from rfl, Nat.add_zero]
            rw [show σ * ((1 : Nat) : Int) = σ by omega]
            exact z
          · have := dg_none hd q
            subst this
            exact absurd hln z
        · have := ln_lt hln; omega
        · exact absurd q1 hnoe
        · rcases hsg.c0 with ⟨_, z⟩ | ⟨z, _⟩
          · omega
          · subst z
            have := dg_none hd q3
            subst this
            exact absurd hln q4
      have := match_n hln hk h43 h45 hnoe hok' hrn
      rw [ha, hb]
      exact this
    · obtain ⟨p, j, e, e2, j2, σ, hsg, hd, hsm, hln, ha, hk, hpm, hk2, hd2, hsm2, hb, hke, hbd⟩ := hc
      subst hke
      have hnoe := hno hsg hd (.inl hln)
      have hv := dgC_eq s p j hsm
      have hok' : ok = true ↔ j2 ≠ 0 ∧ (e2 + j2 = s.size → 0 < e2 + j2 → lowS s ≠ oddT → lowS s ≠ evenT → HasN (lowS s) ∧ isDg (bAt s (e2 + j2 - 1)) = true) := by
        rw [hok, hbd, decide_eq_false_iff_not]
      have hrn : RN s (p + j + 1) (σ * (num1 s p j : Int)) r := by
        rcases hp with ⟨p', σ', q1, q2, _⟩ | ⟨q, _⟩ | ⟨_, q1, q⟩ | ⟨q0, q1, q2, q3, q4, _⟩
        · obtain ⟨rfl, rfl⟩ := hsg.uniq q1
          rcases q2 with ⟨q, _⟩ | ⟨_, q, j', z1, z2, z3⟩ | ⟨_, q, z⟩ | ⟨_, q, z, _⟩
          · have := ln_lt hln; omega
          · obtain rfl := z2.uniq hd
            have e1 : num1 s p j' = dgV s p j' := by unfold num1; rw [if_neg (by omega), hv]
            rw [e1]
            rcases z3 with ⟨y, _⟩ | ⟨_, _, y⟩ | ⟨_, y, _⟩
            · have := ln_lt hln; omega
            · exact y
            · exact absurd hln y
          · have := dg_none hd (ln_dg q)
            subst this
            rw [show num1 s p 0 = 1 from rfl, Nat.add_zero]
            rw [show σ * ((1 : Nat) : Int) = σ by omega]
            exact z
          · have := dg_none hd q
            subst this
            exact absurd hln z
        · have := ln_lt hln; omega
        · exact absurd q1 hnoe
        · rcases hsg.c0 with ⟨_, z⟩ | ⟨z, _⟩
          · omega
          · subst z
            have := dg_none hd q3
            subst this
            exact absurd hln q4
      have := match_m hln hk hpm hk2 hd2 hsm2 hb hok' hrn
      rcases Nat.eq_zero_or_pos j2 with q | q
      · have hok0 : ok = false := by
          cases ok
          · rfl
          · exact absurd q (hok'.1 rfl).1
        exact ⟨(fun z => by rw [hok0] at z; cases z), fun _ => this.2 hok0⟩
      · obtain ⟨rfl, rfl⟩ := hab2 (by rw [hbd]; exact decide_eq_false (by omega))
        rw [ha]
        exact this
end Go.Proofs.YtkdfdfhejibopaaDoor
