/- What the reference reads as a class is what the package reads. (No program in sight.) -/
import Derived.Test.YtkdfdfhejibopaaGreatDoorT443
namespace Go.Proofs.YtkdfdfhejibopaaGreatDoor
open Go.RowKit
set_option linter.unusedVariables false

theorem coB_at {s : ByteArray} {k : Nat} : ∀ {N : Nat}, coB s k N = true → ∀ m, m < N → isCo (bAt s (k + m + 1)) = true
  | 0, _, m, hm => absurd hm (Nat.not_lt_zero m)
  | N + 1, h, m, hm => by
    have h : (coB s k N && isCo (bAt s (k + N + 1))) = true := h
    rw [Bool.and_eq_true] at h
    by_cases q : m = N
    · subst q; exact h.2
    · exact coB_at h.1 m (by omega)
theorem ptG_co {s : ByteArray} {k N : Nat} {c l : Int} {x : Nat} (h0 : 0 < x) (h : x < (ptG s k N c l).2) : 128 ≤ bAt s (k + x) := by
  unfold ptG at h
  split at h
  · exact absurd h (Nat.not_lt_zero x)
  · split at h
    · rename_i hc
      split at h
      · exact absurd h (Nat.not_lt_zero x)
      · have h : x < N + 1 := h
        have := coB_at hc (x - 1) (by omega)
        rw [show k + (x - 1) + 1 = k + x by omega] at this
        exact (of_decide_eq_true this).1
    · exact absurd h (Nat.not_lt_zero x)
theorem ptF_co {s : ByteArray} {k x : Nat} (h0 : 0 < x) (h : x < (ptF s k).2) : 128 ≤ bAt s (k + x) := by
  unfold ptF at h
  split at h
  · have h : x < 1 := h
    omega
  · split at h
    · exact absurd h (Nat.not_lt_zero x)
    · split at h
      · exact ptG_co h0 h
      · split at h
        · exact ptG_co h0 h
        · exact ptG_co h0 h
/-- A byte of ASCII is where a point begins. -/
theorem rdb_bnd {s : ByteArray} {i : Nat} (hi : i < s.size) (hb : bAt s i < 128) : ∀ d k, d = s.size - k → k ≤ i → rdbN s (s.size - k) k = true → rdbN s (s.size - i) i = true := by
  intro d
  induction d using Nat.strongRecOn with
  | _ d ih =>
    intro k hd hk h
    by_cases q : k = i
    · subst q; exact h
    · rw [rdbN_step (by omega), Bool.and_eq_true] at h
      obtain ⟨h1, h2⟩ := h
      have h0 := (of_decide_eq_true h1).1
      by_cases q2 : k + (ptF s k).2 ≤ i
      · exact ih (s.size - (k + (ptF s k).2)) (by omega) _ rfl q2 h2
      · have := ptF_co (s := s) (k := k) (x := i - k) (by omega) (by omega)
        rw [show k + (i - k) = i by omega] at this
        omega
theorem rdb_next {s : ByteArray} {i : Nat} (hr : rdb s = true) (hi : i + 1 < s.size) (hb : bAt s i < 128) : (ptF s (i + 1)).2 ≠ 0 := by
  have h := rdb_bnd (i := i) (by omega) hb s.size 0 rfl (Nat.zero_le _) hr
  rw [rdbN_step (by omega), Bool.and_eq_true] at h
  have h2 : (ptF s i).2 = 1 := by unfold ptF; rw [if_pos hb]
  have h3 := h.2
  rw [h2, rdbN_step hi, Bool.and_eq_true] at h3
  exact (of_decide_eq_true h3.1).1

theorem esc_92z {s : ByteArray} {i : Nat} (h : escAt s i = true) : bAt s i = 92 ∧ i + 1 < s.size := by
  rw [escAt_iff] at h
  exact ⟨h.2.1, h.1⟩
theorem nm_hi {c : Nat} (h : 128 ≤ c) : isNm c = true := by rw [isNm_iff]; omega
/-- What the reference has read the package has read. -/
theorem nmG_ac {s : ByteArray} (hr : rdb s = true) {k : Nat} {O : ByteArray} {i : Nat} (h : NmG s k O i) : NmAc s k O i := by
  induction h with
  | zero => exact .zero
  | chr _ h1 h2 ih => exact ih.chr h1 h2
  | @esc acc o i i1 _ he hg hle ih =>
    obtain ⟨j, hx, h0, h1⟩ := hg
    have h92 := esc_92z he
    rcases Nat.eq_zero_or_pos j with q | q
    · obtain ⟨e1, e2⟩ := h0 q
      have hn := rdb_next hr h92.2 (by omega)
      obtain ⟨n, hn2⟩ : ∃ n, (ptF s (i + 1)).2 = n + 1 := ⟨(ptF s (i + 1)).2 - 1, by omega⟩
      have hp : PEscIs s i (s.extract (i + 1) (i + 2)) (i + 2) := ⟨j, hx, fun _ => ⟨rfl, rfl⟩, fun z => absurd z (by omega)⟩
      have a1 := ih.esc he hp (by omega)
      have a2 := a1.run n (by omega) (fun x hx2 => nm_hi (by
        have := ptF_co (s := s) (k := i + 1) (x := x + 1) (by omega) (by omega)
        rw [show i + 1 + (x + 1) = i + 2 + x by omega] at this
        exact this))
      rw [ByteArray.append_assoc, ByteArray.extract_append_extract] at a2
      rw [e1, e2, hn2]
      have e3 : min (i + 1) (i + 2) = i + 1 := by omega
      have e4 : max (i + 2) (i + 2 + n) = i + 1 + (n + 1) := by omega
      rw [e3, e4] at a2
      rw [show i + 1 + (n + 1) = i + 2 + n by omega] at a2 ⊢
      exact a2
    · obtain ⟨e1, _, e3⟩ := h1 q
      exact ih.esc he ⟨j, hx, fun z => absurd z (by omega), fun _ => ⟨e1, e3⟩⟩ hle

/-- Behind the first byte. -/
theorem tl_size {s : ByteArray} (h : 0 < s.size) : (s.extract 1 s.size).size = s.size - 1 := by rw [ByteArray.size_extract, Nat.min_self]
theorem tl_at {s : ByteArray} (h : 0 < s.size) (x : Nat) : bAt (s.extract 1 s.size) x = bAt s (x + 1) := by
  by_cases q : 1 + x < s.size
  · rw [bAt_extract q (Nat.le_refl _), Nat.add_comm]
  · have : bAt s (x + 1) = 0 := by
      unfold bAt
      have e : s.get! (x + 1) = default := by
        show s.data.toList.toArray.getD (x + 1) default = default
        simp [Array.getD]
        intro h2
        have : s.data.size = s.size := rfl
        omega
      rw [e]; rfl
    rw [this]
    have hz := tl_size h
    unfold bAt
    have e : (s.extract 1 s.size).get! x = default := by
      show (s.extract 1 s.size).data.toList.toArray.getD x default = default
      simp only [Array.getD]
      split
      · rename_i h2
        have h3 : (s.extract 1 s.size).data.toList.toArray.size = (s.extract 1 s.size).size := by simp
        omega
      · rfl
    rw [e]; rfl
theorem tl_esc {s : ByteArray} (h : 0 < s.size) (x : Nat) : escAt (s.extract 1 s.size) x = escAt s (x + 1) := by
  rw [Bool.eq_iff_iff, escAt_iff, escAt_iff, tl_at h, tl_at h, tl_size h]
  constructor
  · rintro ⟨a, b⟩; exact ⟨by omega, b⟩
  · rintro ⟨a, b⟩; exact ⟨by omega, b⟩
theorem tl_ws {s : ByteArray} (h : 0 < s.size) (x : Nat) : wsEnd (s.extract 1 s.size) x + 1 = wsEnd s (x + 1) := by
  unfold wsEnd
  rw [tl_at h, tl_at h, tl_size h]
  by_cases q : x < s.size - 1
  · rw [if_pos q, if_pos (show x + 1 < s.size by omega)]
    by_cases q2 : bAt s (x + 1) = 13
    · rw [if_pos q2, if_pos q2]
      by_cases q3 : x + 1 < s.size - 1 ∧ bAt s (x + 1 + 1) = 10
      · rw [if_pos q3, if_pos (show x + 1 + 1 < s.size ∧ bAt s (x + 1 + 1) = 10 from ⟨by omega, q3.2⟩)]
      · rw [if_neg q3, if_neg (show ¬ (x + 1 + 1 < s.size ∧ bAt s (x + 1 + 1) = 10) from fun z => q3 ⟨by omega, z.2⟩)]
    · rw [if_neg q2, if_neg q2]
      split <;> rfl
  · rw [if_neg q, if_neg (show ¬ (x + 1 < s.size) by omega)]
theorem tl_hxV {s : ByteArray} (h : 0 < s.size) (k : Nat) : ∀ n, hxV (s.extract 1 s.size) k n = hxV s (k + 1) n
  | 0 => rfl
  | n + 1 => by
    show 16 * hxV (s.extract 1 s.size) k n + hxD (bAt (s.extract 1 s.size) (k + n)) = 16 * hxV s (k + 1) n + hxD (bAt s (k + 1 + n))
    rw [tl_hxV h k n, tl_at h, show k + n + 1 = k + 1 + n by omega]
theorem tl_hx {s : ByteArray} (h : 0 < s.size) {k j : Nat} (hx : HxTo (s.extract 1 s.size) k j) : HxTo s (k + 1) j := by
  have hz := tl_size h
  refine ⟨hx.six, by have := hx.le; omega, fun x q => ?_, fun q1 q2 => ?_⟩
  · have := hx.all x q
    rw [tl_at h, show k + x + 1 = k + 1 + x by omega] at this
    exact this
  · have := hx.stop q1 (by omega)
    rw [tl_at h, show k + j + 1 = k + 1 + j by omega] at this
    exact this
theorem tl_ext {s : ByteArray} (h : 0 < s.size) {a b : Nat} (hb : b ≤ s.size - 1) : (s.extract 1 s.size).extract a b = s.extract (a + 1) (b + 1) := by
  rw [ByteArray.extract_extract]
  congr 1 <;> omega
theorem tl_pesc {s : ByteArray} (h : 0 < s.size) {i i1 : Nat} {o : ByteArray} (hp : PEscIs (s.extract 1 s.size) i o i1) (hi : i + 1 < s.size - 1) : PEscIs s (i + 1) o (i1 + 1) := by
  obtain ⟨j, hx, h0, h1⟩ := hp
  refine ⟨j, tl_hx h hx, fun q => ?_, fun q => ?_⟩
  · obtain ⟨e1, e2⟩ := h0 q
    rw [tl_ext h (by omega)] at e1
    exact ⟨e1, by omega⟩
  · obtain ⟨e1, e2⟩ := h1 q
    rw [tl_hxV h] at e2
    have := tl_ws h (i + 1 + j)
    exact ⟨by rw [show i + 1 + 1 + j = i + 1 + j + 1 by omega]; omega, e2⟩
theorem tl_ac {s : ByteArray} (h : 0 < s.size) {O : ByteArray} {j k : Nat} (ha : NmAc (s.extract 1 s.size) k O j) : NmAc s (k + 1) O (j + 1) := by
  have hz := tl_size h
  induction ha with
  | zero => exact .zero
  | @chr acc i _ h1 h2 ih =>
    rw [tl_at h] at h2
    have := ih.chr (by omega) h2
    have e : oneB (s.extract 1 s.size) i = oneB s (i + 1) := by
      unfold oneB
      rw [tl_ext h (by omega)]
    rw [e]; exact this
  | @esc acc o i i1 _ he hp hle ih =>
    have h92 := esc_92z he
    rw [tl_esc h] at he
    exact ih.esc he (tl_pesc h hp (by omega)) (by omega)

theorem pesc_uniq {s : ByteArray} {i : Nat} {o o' : ByteArray} {i1 i1' : Nat} (h : PEscIs s i o i1) (h' : PEscIs s i o' i1') : o = o' ∧ i1 = i1' := by
  obtain ⟨j, x, a, b⟩ := h
  obtain ⟨j', x', a', b'⟩ := h'
  obtain rfl : j = j' := x.uniq x'
  rcases Nat.eq_zero_or_pos j with q | q
  · exact ⟨(a q).1.trans (a' q).1.symm, (a q).2.trans (a' q).2.symm⟩
  · exact ⟨(b q).2.trans (b' q).2.symm, (b q).1.trans (b' q).1.symm⟩
theorem NmAc.head {s : ByteArray} {k : Nat} {O : ByteArray} {j : Nat} (h : NmAc s k O j) :
    (O = ByteArray.empty ∧ j = k) ∨ (k < s.size ∧ isNm (bAt s k) = true ∧ ∃ R, O = oneB s k ++ R ∧ NmAc s (k + 1) R j) ∨
    (escAt s k = true ∧ ∃ o k1 R, PEscIs s k o k1 ∧ k1 ≤ s.size ∧ O = o ++ R ∧ NmAc s k1 R j) := by
  induction h with
  | zero => exact .inl ⟨rfl, rfl⟩
  | @chr acc i _ h1 h2 ih =>
    refine .inr ?_
    rcases ih with ⟨e1, e2⟩ | ⟨a, b, R, e1, e2⟩ | ⟨a, o, k1, R, b, c, e1, e2⟩
    · subst e1; subst e2
      exact .inl ⟨h1, h2, ByteArray.empty, by rw [ByteArray.empty_append, ByteArray.append_empty], .zero⟩
    · exact .inl ⟨a, b, R ++ oneB s i, by rw [e1, ByteArray.append_assoc], e2.chr h1 h2⟩
    · exact .inr ⟨a, o, k1, R ++ oneB s i, b, c, by rw [e1, ByteArray.append_assoc], e2.chr h1 h2⟩
  | @esc acc o i i1 _ he hp hle ih =>
    refine .inr ?_
    rcases ih with ⟨e1, e2⟩ | ⟨a, b, R, e1, e2⟩ | ⟨a, o2, k1, R, b, c, e1, e2⟩
    · subst e1; subst e2
      exact .inr ⟨he, o, i1, ByteArray.empty, hp, hle, by rw [ByteArray.empty_append, ByteArray.append_empty], .zero⟩
    · exact .inl ⟨a, b, R ++ o, by rw [e1, ByteArray.append_assoc], e2.esc he hp hle⟩
    · exact .inr ⟨a, o2, k1, R ++ o, b, c, by rw [e1, ByteArray.append_assoc], e2.esc he hp hle⟩
/-- Nothing more can be read. -/
def NmTerm (s : ByteArray) (i : Nat) : Prop := (i < s.size → isNm (bAt s i) = false) ∧ escAt s i = false
theorem stop_term {s : ByteArray} {i : Nat} (h : NmStop s i) : NmTerm s i := ⟨fun q => (h.2 q).1, by
  cases hh : escAt s i
  · rfl
  · have := esc_92z hh
    exact absurd this.1 (h.2 (by omega)).2⟩
theorem bad_term {s : ByteArray} {i : Nat} (h : NmBad s i) : NmTerm s i := ⟨fun _ => by rw [h.2.1]; rfl, h.2.2⟩
theorem nm_92 : isNm 92 = false := rfl
/-- Two readings from one place end at one place. -/
theorem nm_uniq {s : ByteArray} {k i : Nat} {O : ByteArray} (h : NmAc s k O i) (ht : NmTerm s i) : ∀ {O' : ByteArray} {i' : Nat}, NmAc s k O' i' → ∃ R, O = O' ++ R ∧ NmAc s i' R i := by
  intro O' i' h'
  induction h' with
  | zero => exact ⟨O, by rw [ByteArray.empty_append], h⟩
  | @chr acc x _ h1 h2 ih =>
    obtain ⟨R, e, hR⟩ := ih
    rcases hR.head with ⟨e1, e2⟩ | ⟨_, _, R2, e1, e2⟩ | ⟨a, _⟩
    · subst e2
      rw [ht.1 h1] at h2; cases h2
    · exact ⟨R2, by rw [e, e1, ByteArray.append_assoc], e2⟩
    · rw [(esc_92z a).1] at h2; cases h2
  | @esc acc o x x1 _ he hp hle ih =>
    obtain ⟨R, e, hR⟩ := ih
    rcases hR.head with ⟨e1, e2⟩ | ⟨_, b, _⟩ | ⟨a, o2, k1, R2, b, c, e1, e2⟩
    · subst e2
      rw [ht.2] at he; cases he
    · rw [(esc_92z he).1] at b; cases b
    · obtain ⟨rfl, rfl⟩ := pesc_uniq hp b
      exact ⟨R2, by rw [e, e1, ByteArray.append_assoc], e2⟩
theorem nm_same {s : ByteArray} {k i i' : Nat} {O O' : ByteArray} (h : NmAc s k O i) (ht : NmTerm s i) (h' : NmAc s k O' i') (ht' : NmTerm s i') : O = O' ∧ i = i' := by
  obtain ⟨R, e, hR⟩ := nm_uniq h ht h'
  rcases hR.head with ⟨e1, e2⟩ | ⟨a, b, _⟩ | ⟨a, _⟩
  · exact ⟨by rw [e, e1, ByteArray.append_empty], e2⟩
  · rw [ht'.1 a] at b; cases b
  · rw [ht'.2] at a; cases a
theorem NmAc.cat {s : ByteArray} {k m : Nat} {A : ByteArray} (h : NmAc s k A m) {C : ByteArray} {i : Nat} (h' : NmAc s m C i) : NmAc s k (A ++ C) i := by
  induction h' with
  | zero => rw [ByteArray.append_empty]; exact h
  | chr _ h1 h2 ih => rw [← ByteArray.append_assoc]; exact ih.chr h1 h2
  | esc _ h1 h2 h3 ih => rw [← ByteArray.append_assoc]; exact ih.esc h1 h2 h3
theorem encz_pos (n : Int) : 0 < (Utf8.encode n).size := by
  unfold Utf8.encode
  dsimp only
  generalize (if Utf8.valid n = true then n.toNat else Utf8.runeError) = c
  split
  · exact Nat.succ_pos _
  · split
    · exact Nat.succ_pos _
    · split <;> exact Nat.succ_pos _
theorem pescz_pos {s : ByteArray} {i i1 : Nat} {o : ByteArray} (h : PEscIs s i o i1) (hi : i + 1 < s.size) : 0 < o.size := by
  obtain ⟨j, hx, h0, h1⟩ := h
  rcases Nat.eq_zero_or_pos j with c | c
  · obtain ⟨rfl, _⟩ := h0 c
    rw [ByteArray.size_extract]; omega
  · rw [(h1 c).2]; exact encz_pos _
theorem nm_empty {s : ByteArray} {k i : Nat} {O : ByteArray} (h : NmAc s k O i) (h0 : O.size = 0) : i = k := by
  rcases h.head with ⟨_, e⟩ | ⟨a, _, R, e, _⟩ | ⟨a, o, k1, R, b, _, e, _⟩
  · exact e
  · rw [e, ByteArray.size_append] at h0
    have : (oneB s k).size = 1 := by unfold oneB; rw [ByteArray.size_extract]; omega
    omega
  · rw [e, ByteArray.size_append] at h0
    have := pescz_pos b (esc_92z a).2
    omega

theorem hyA_uniq {s : ByteArray} {k n n' : Nat} (h : HyA s k n) (h' : HyA s k n') : n = n' := by
  rcases Nat.lt_trichotomy n n' with q | q | q
  · have h1 := h'.all n q
    have h2 := h'.le
    exact absurd h1 (h.stop (by omega))
  · exact q
  · have h1 := h.all n' q
    have h2 := h.le
    exact absurd h1 (h'.stop (by omega))
theorem hy_hyA {s : ByteArray} (h : 0 < s.size) {n : Nat} (hy : Hy (s.extract 1 s.size) n) : HyA s 1 n := by
  have hz := tl_size h
  refine ⟨by have := hy.le; omega, fun x q => ?_, fun q => ?_⟩
  · have := hy.all x q
    rw [tl_at h, Nat.add_comm] at this
    exact this
  · have := hy.stop (by omega)
    rw [tl_at h, Nat.add_comm] at this
    exact this
theorem one_45 {s : ByteArray} {i : Nat} (hi : i < s.size) (h : bAt s i = 45) : oneB s i = ⟨#[45]⟩ := by
  have hs : (oneB s i).size = 1 := by unfold oneB; rw [ByteArray.size_extract]; omega
  apply ByteArray.ext
  apply Array.ext
  · exact hs
  · intro x h1 h2
    have h3 : x < 1 := h2
    obtain rfl : x = 0 := by omega
    have e : (oneB s i)[0]'(by omega) = s[i + 0] := by
      unfold oneB
      exact ByteArray.getElem_extract ..
    have e2 : (oneB s i).data[0]'h1 = s[i + 0] := e
    rw [e2]
    rw [bAt_in hi] at h
    exact UInt8.toNat_inj.1 (by rw [show s[i + 0] = s[i] from rfl, h]; rfl)
theorem rep_snoc (n : Nat) : rep (n + 1) = rep n ++ ⟨#[45]⟩ := by
  have key : ∀ m, Lib.repeatL [45] (m + 1) = Lib.repeatL [45] m ++ [45] := by
    intro m
    induction m with
    | zero => rfl
    | succ m ih =>
      show [45] ++ Lib.repeatL [45] (m + 1) = ([45] ++ Lib.repeatL [45] m) ++ [45]
      rw [ih, List.append_assoc]
  apply ByteArray.ext
  show (Lib.repeatL [45] (n + 1)).toArray = (rep n ++ ⟨#[45]⟩).data
  rw [key, ByteArray.data_append]
  show _ = (Lib.repeatL [45] n).toArray ++ #[45]
  simp
theorem hy_ac {s : ByteArray} {k : Nat} : ∀ n, k + n ≤ s.size → (∀ x, x < n → bAt s (k + x) = 45) → NmAc s k (rep n) (k + n)
  | 0, _, _ => .zero
  | n + 1, h1, h2 => by
    have ih := hy_ac n (by omega) (fun x q => h2 x (by omega))
    have h3 := h2 n (by omega)
    have := ih.chr (by omega) (by rw [h3]; rfl)
    rw [one_45 (by omega) h3, ← rep_snoc] at this
    exact this

theorem bg_nm {c : Nat} (h : isBgG c = true) : isNm c = true := by rw [isBgG_iff] at h; rw [isNm_iff]; omega

/-- What both sides read, where the reference is sure. -/
theorem class_match {s : ByteArray} (h0 : 0 < s.size) {O : ByteArray} {j : Nat} {ok : Bool} (h : RidQ (s.extract 1 s.size) O j ok true) :
    (ok = true → ¬ IdNo s 1 ∧ ∀ O' i', IdYes s 1 O' i' → O' = O ∧ i' = j + 1) ∧ (ok = false → ∀ O' i', ¬ IdYes s 1 O' i') := by
  have hz := tl_size h0
  obtain ⟨hj, h⟩ := h
  obtain ⟨hrd, n, hy, hc⟩ := h rfl
  have hyA := hy_hyA h0 hy
  have hle := hyA.le
  rcases hc with ⟨hb, hok⟩ | ⟨hb, hg, hst, hok⟩
  · refine ⟨(fun q => by rw [hok] at q; cases q), fun _ O' i' hid => ?_⟩
    obtain ⟨n', acc, y, ⟨b1, b2⟩, ha, hs, hp, _⟩ := hid
    obtain rfl := hyA_uniq hyA y
    have hno : NmTerm s (1 + n) := by
      constructor
      · intro q
        rcases b2 with b2 | b2
        · exact absurd ⟨by omega, .inl (by rw [tl_at h0, Nat.add_comm]; exact b2)⟩ hb
        · rw [b2]; rfl
      · cases hh : escAt s (1 + n)
        · rfl
        · exact absurd ⟨by omega, .inr (by rw [tl_esc h0, Nat.add_comm]; exact hh)⟩ hb
    rcases ha.head with ⟨e, _⟩ | ⟨a, b, _⟩ | ⟨a, _⟩
    · rw [e] at hp; exact absurd hp (by decide)
    · rw [hno.1 a] at b; cases b
    · rw [hno.2] at a; cases a
  · have hbs : begS s (1 + n) := by
      refine ⟨by have := hb.1; omega, ?_⟩
      rcases hb.2 with q | q
      · rw [tl_at h0, Nat.add_comm] at q; exact .inl q
      · exact .inr (by have := (esc_92z q).1; rw [tl_at h0, Nat.add_comm] at this; exact this)
    have hac := tl_ac h0 (nmG_ac hrd hg)
    have hT : NmTerm s (j + 1) := by
      constructor
      · intro q
        have := (hst (by omega)).1
        rw [tl_at h0] at this
        exact this
      · by_cases q : j < (s.extract 1 s.size).size
        · have := (hst q).2
          rw [tl_esc h0] at this
          exact this
        · cases hh : escAt s (j + 1)
          · rfl
          · have := (esc_92z hh).2; omega
    have hbt : ¬ NmTerm s (1 + n) := fun q => by
      rcases hb.2 with z | z
      · have := bg_nm z
        rw [tl_at h0, Nat.add_comm] at this
        rw [q.1 (by have := hb.1; omega)] at this; cases this
      · rw [tl_esc h0, Nat.add_comm] at z
        rw [q.2] at z; cases z
    have hjp : 0 < j := by
      rcases Nat.eq_zero_or_pos j with q | q
      · exfalso
        subst q
        by_cases hn : n = 0
        · subst hn; exact hbt hT
        · have := hyA.all 0 (by omega)
          have h2 := hT.1 (by omega)
          rw [show 0 + 1 = 1 + 0 from rfl, this] at h2; cases h2
      · exact q
    have hrep := hy_ac n hle hyA.all
    constructor
    · intro hk
      have hne := (hok.1 hk).2
      rw [tl_at h0] at hne
      constructor
      · rintro ⟨n', y, hc⟩
        obtain rfl := hyA_uniq hyA y
        rcases hc with hc | ⟨_, acc, i, ha, hbad | ⟨hs, hz0⟩⟩
        · exact hc hbs
        · obtain ⟨_, e⟩ := nm_same hac hT (hrep.cat ha) (bad_term hbad)
          subst e
          exact hne hbad.2.1
        · have := nm_empty ha hz0
          subst this
          exact hbt (stop_term hs)
      · rintro O' i' ⟨n', acc, y, _, ha, hs, _, e⟩
        obtain rfl := hyA_uniq hyA y
        obtain ⟨e1, e2⟩ := nm_same hac hT (hrep.cat ha) (stop_term hs)
        exact ⟨by rw [e, e1], e2.symm⟩
    · rintro hk O' i' ⟨n', acc, y, _, ha, hs, _, e⟩
      obtain rfl := hyA_uniq hyA y
      obtain ⟨_, e2⟩ := nm_same hac hT (hrep.cat ha) (stop_term hs)
      have h92 : bAt s (j + 1) = 92 := by
        by_cases q : bAt s (j + 1) = 92
        · exact q
        · exfalso
          have := hok.2 ⟨hjp, by rw [tl_at h0]; exact q⟩
          rw [hk] at this; cases this
      have hlt : j + 1 < s.size := by
        by_cases q : j + 1 < s.size
        · exact q
        · have := tl_at h0 j
          have hbo : bAt s (j + 1) = 0 := bAt_out (by omega)
          rw [hbo] at h92; cases h92
      rw [← e2] at hs
      exact (hs.2 hlt).2 h92
end Go.Proofs.YtkdfdfhejibopaaGreatDoor
