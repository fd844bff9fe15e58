/- FnSpecificWhole: texts joined (joinf.py) -/
import Derived.Test.YtnibpdmbccfgoaaGreatDoorT602
import Derived.WalkMore
import Derived.Deep.LoopGhost
import Derived.Test.YtnibpdmbccfgoaaGreatDoorJ3
import Derived.Test.YtnibpdmbccfgoaaGreatDoorJ4
import Derived.Test.YtnibpdmbccfgoaaGreatDoorShelf
import Derived.Deep.DeepCutAuto
import Derived.Deep.CutBlock
namespace Go.Proofs.YtnibpdmbccfgoaaGreatDoor
open Go.RowKit
set_option linter.unusedVariables false

theorem esc_92z {s : ByteArray} {i : Nat} (h : escAt s i = true) : bAt s i = 92 ∧ i + 1 < s.size := by
  rw [escAt_iff] at h
  exact ⟨h.2.1, h.1⟩
theorem pesc_uniq {s : ByteArray} {i : Nat} {o o' : ByteArray} {i1 i1' : Nat} (h : PEscIs s i o i1) (h' : PEscIs s i o' i1') : o = o' ∧ i1 = i1' := by
  obtain ⟨j, x, a, b⟩ := h
  obtain ⟨j', x', a', b'⟩ := h'
  obtain rfl : j = j' := x.uniq x'
  rcases Nat.eq_zero_or_pos j with q | q
  · exact ⟨(a q).1.trans (a' q).1.symm, (a q).2.trans (a' q).2.symm⟩
  · exact ⟨(b q).2.trans (b' q).2.symm, (b q).1.trans (b' q).1.symm⟩
theorem NmAc.head {s : ByteArray} {k : Nat} {O : ByteArray} {j : Nat} (h : NmAc s k O j) :
    (O = ByteArray.empty ∧ j = k) ∨ (k < s.size ∧ isNm (bAt s k) = true ∧ ∃ R, O = oneB s k ++ R ∧ NmAc s (k + 1) R j) ∨
    (escAt s k = true ∧ ∃ o k1 R, PEscIs s k o k1 ∧ k1 ≤ s.size ∧ O = o ++ R ∧ NmAc s k1 R j) := by
  induction h with
  | zero => exact .inl ⟨rfl, rfl⟩
  | @chr acc i _ h1 h2 ih =>
    refine .inr ?_
    rcases ih with ⟨e1, e2⟩ | ⟨a, b, R, e1, e2⟩ | ⟨a, o, k1, R, b, c, e1, e2⟩
    · subst e1; subst e2
      exact .inl ⟨h1, h2, ByteArray.empty, by rw [ByteArray.empty_append, ByteArray.append_empty], .zero⟩
    · exact .inl ⟨a, b, R ++ oneB s i, by rw [e1, ByteArray.append_assoc], e2.chr h1 h2⟩
    · exact .inr ⟨a, o, k1, R ++ oneB s i, b, c, by rw [e1, ByteArray.append_assoc], e2.chr h1 h2⟩
  | @esc acc o i i1 _ he hp hle ih =>
    refine .inr ?_
    rcases ih with ⟨e1, e2⟩ | ⟨a, b, R, e1, e2⟩ | ⟨a, o2, k1, R, b, c, e1, e2⟩
    · subst e1; subst e2
      exact .inr ⟨he, o, i1, ByteArray.empty, hp, hle, by rw [ByteArray.empty_append, ByteArray.append_empty], .zero⟩
    · exact .inl ⟨a, b, R ++ o, by rw [e1, ByteArray.append_assoc], e2.esc he hp hle⟩
    · exact .inr ⟨a, o2, k1, R ++ o, b, c, by rw [e1, ByteArray.append_assoc], e2.esc he hp hle⟩
/-- Nothing more can be read. -/
def NmTerm (s : ByteArray) (i : Nat) : Prop := (i < s.size → isNm (bAt s i) = false) ∧ escAt s i = false
theorem stop_term {s : ByteArray} {i : Nat} (h : NmStop s i) : NmTerm s i := ⟨fun q => (h.2 q).1, by
  cases hh : escAt s i
  · rfl
  · have := esc_92z hh
    exact absurd this.1 (h.2 (by omega)).2⟩
theorem bad_term {s : ByteArray} {i : Nat} (h : NmBad s i) : NmTerm s i := ⟨fun _ => by rw [h.2.1]; rfl, h.2.2⟩
theorem nm_92 : isNm 92 = false := rfl
/-- Two readings from one place end at one place. -/
theorem nm_uniq {s : ByteArray} {k i : Nat} {O : ByteArray} (h : NmAc s k O i) (ht : NmTerm s i) : ∀ {O' : ByteArray} {i' : Nat}, NmAc s k O' i' → ∃ R, O = O' ++ R ∧ NmAc s i' R i := by
  intro O' i' h'
  induction h' with
  | zero => exact ⟨O, by rw [ByteArray.empty_append], h⟩
  | @chr acc x _ h1 h2 ih =>
    obtain ⟨R, e, hR⟩ := ih
    rcases hR.head with ⟨e1, e2⟩ | ⟨_, _, R2, e1, e2⟩ | ⟨a, _⟩
    · subst e2
      rw [ht.1 h1] at h2; cases h2
    · exact ⟨R2, by rw [e, e1, ByteArray.append_assoc], e2⟩
    · rw [(esc_92z a).1] at h2; cases h2
  | @esc acc o x x1 _ he hp hle ih =>
    obtain ⟨R, e, hR⟩ := ih
    rcases hR.head with ⟨e1, e2⟩ | ⟨_, b, _⟩ | ⟨a, o2, k1, R2, b, c, e1, e2⟩
    · subst e2
      rw [ht.2] at he; cases he
    · rw [(esc_92z he).1] at b; cases b
    · obtain ⟨rfl, rfl⟩ := pesc_uniq hp b
      exact ⟨R2, by rw [e, e1, ByteArray.append_assoc], e2⟩
theorem nm_same {s : ByteArray} {k i i' : Nat} {O O' : ByteArray} (h : NmAc s k O i) (ht : NmTerm s i) (h' : NmAc s k O' i') (ht' : NmTerm s i') : O = O' ∧ i = i' := by
  obtain ⟨R, e, hR⟩ := nm_uniq h ht h'
  rcases hR.head with ⟨e1, e2⟩ | ⟨a, b, _⟩ | ⟨a, _⟩
  · exact ⟨by rw [e, e1, ByteArray.append_empty], e2⟩
  · rw [ht'.1 a] at b; cases b
  · rw [ht'.2] at a; cases a
theorem NmAc.cat {s : ByteArray} {k m : Nat} {A : ByteArray} (h : NmAc s k A m) {C : ByteArray} {i : Nat} (h' : NmAc s m C i) : NmAc s k (A ++ C) i := by
  induction h' with
  | zero => rw [ByteArray.append_empty]; exact h
  | chr _ h1 h2 ih => rw [← ByteArray.append_assoc]; exact ih.chr h1 h2
  | esc _ h1 h2 h3 ih => rw [← ByteArray.append_assoc]; exact ih.esc h1 h2 h3
theorem encz_pos (n : Int) : 0 < (Utf8.encode n).size := by
  unfold Utf8.encode
  dsimp only
  generalize (if Utf8.valid n = true then n.toNat else Utf8.runeError) = c
  split
  · exact Nat.succ_pos _
  · split
    · exact Nat.succ_pos _
    · split <;> exact Nat.succ_pos _
theorem pescz_pos {s : ByteArray} {i i1 : Nat} {o : ByteArray} (h : PEscIs s i o i1) (hi : i + 1 < s.size) : 0 < o.size := by
  obtain ⟨j, hx, h0, h1⟩ := h
  rcases Nat.eq_zero_or_pos j with c | c
  · obtain ⟨rfl, _⟩ := h0 c
    rw [ByteArray.size_extract]; omega
  · rw [(h1 c).2]; exact encz_pos _
theorem nm_empty {s : ByteArray} {k i : Nat} {O : ByteArray} (h : NmAc s k O i) (h0 : O.size = 0) : i = k := by
  rcases h.head with ⟨_, e⟩ | ⟨a, _, R, e, _⟩ | ⟨a, o, k1, R, b, _, e, _⟩
  · exact e
  · rw [e, ByteArray.size_append] at h0
    have : (oneB s k).size = 1 := by unfold oneB; rw [ByteArray.size_extract]; omega
    omega
  · rw [e, ByteArray.size_append] at h0
    have := pescz_pos b (esc_92z a).2
    omega

theorem hyA_uniq {s : ByteArray} {k n n' : Nat} (h : HyA s k n) (h' : HyA s k n') : n = n' := by
  rcases Nat.lt_trichotomy n n' with q | q | q
  · have h1 := h'.all n q
    have h2 := h'.le
    exact absurd h1 (h.stop (by omega))
  · exact q
  · have h1 := h.all n' q
    have h2 := h.le
    exact absurd h1 (h'.stop (by omega))
theorem one_45 {s : ByteArray} {i : Nat} (hi : i < s.size) (h : bAt s i = 45) : oneB s i = ⟨#[45]⟩ := by
  have hs : (oneB s i).size = 1 := by unfold oneB; rw [ByteArray.size_extract]; omega
  apply ByteArray.ext
  apply Array.ext
  · exact hs
  · intro x h1 h2
    have h3 : x < 1 := h2
    obtain rfl : x = 0 := by omega
    have e : (oneB s i)[0]'(by omega) = s[i + 0] := by
      unfold oneB
      exact ByteArray.getElem_extract ..
    have e2 : (oneB s i).data[0]'h1 = s[i + 0] := e
    rw [e2]
    rw [bAt_in hi] at h
    exact UInt8.toNat_inj.1 (by rw [show s[i + 0] = s[i] from rfl, h]; rfl)
theorem rep_snoc (n : Nat) : rep (n + 1) = rep n ++ ⟨#[45]⟩ := by
  have key : ∀ m, Lib.repeatL [45] (m + 1) = Lib.repeatL [45] m ++ [45] := by
    intro m
    induction m with
    | zero => rfl
    | succ m ih =>
      show [45] ++ Lib.repeatL [45] (m + 1) = ([45] ++ Lib.repeatL [45] m) ++ [45]
      rw [ih, List.append_assoc]
  apply ByteArray.ext
  show (Lib.repeatL [45] (n + 1)).toArray = (rep n ++ ⟨#[45]⟩).data
  rw [key, ByteArray.data_append]
  show _ = (Lib.repeatL [45] n).toArray ++ #[45]
  simp
theorem hy_ac {s : ByteArray} {k : Nat} : ∀ n, k + n ≤ s.size → (∀ x, x < n → bAt s (k + x) = 45) → NmAc s k (rep n) (k + n)
  | 0, _, _ => .zero
  | n + 1, h1, h2 => by
    have ih := hy_ac n (by omega) (fun x q => h2 x (by omega))
    have h3 := h2 n (by omega)
    have := ih.chr (by omega) (by rw [h3]; rfl)
    rw [one_45 (by omega) h3, ← rep_snoc] at this
    exact this

theorem bg_nm {c : Nat} (h : isBgG c = true) : isNm c = true := by rw [isBgG_iff] at h; rw [isNm_iff]; omega


/-- A name that stands from k up to e. -/
def NameTo (s : ByteArray) (k : Nat) (O : ByteArray) (e : Nat) : Prop := NmAc s k O e ∧ NmStop s e ∧ 0 < O.size
def NmY (s : ByteArray) (O : ByteArray) (e' g : Nat) (D P : Value) (B : Nat) (W : World) (e : Ending) (w' : World) : Prop :=
  e = .returned (.tuple #[.string O, .nilIface]) ∧ PrX s g e' D P B W w'
theorem pName_to (s : ByteArray) (g k : Nat) (O : ByteArray) (e' : Nat) (D P : Value) (B : Nat) (W w : World) (hs : s.size ≤ 100000) (hk : k ≤ s.size) (hn : NameTo s k O e') (h : PrX s g k D P B W w) :
    Calls Tryz.prog 52 #[.pointer (some ⟨g, 0, none⟩)] w (NmY s O e' g D P B W) := by
  refine (pNameX_any s g k D P B W w hs hk h).mono ?_
  intro e w' hp
  obtain ⟨ha, hst, h0⟩ := hn
  rcases hp with ⟨v, x, i', _, _, _, acc, i, hac, hb⟩ | ⟨out, i', rfl, hr, _, hac, hst2, _⟩
  · exfalso
    rcases hb with hb | ⟨hb, hz⟩
    · obtain ⟨_, rfl⟩ := nm_same ha (stop_term hst) hac (bad_term hb)
      exact (hst.2 hb.1).2 hb.2.1
    · obtain ⟨rfl, _⟩ := nm_same ha (stop_term hst) hac (stop_term hb)
      omega
  · obtain ⟨rfl, rfl⟩ := nm_same ha (stop_term hst) hac (stop_term hst2)
    exact ⟨rfl, hr⟩

/-- A name as an identifier. -/
def IdTo (s : ByteArray) (k : Nat) (O : ByteArray) (e : Nat) : Prop := IdYes s k O e
theorem pIdent_to (s : ByteArray) (g k : Nat) (O : ByteArray) (e' : Nat) (D P : Value) (B : Nat) (W w : World) (hs : s.size ≤ 100000) (hk : k ≤ s.size) (hn : IdYes s k O e') (h : PrX s g k D P B W w) :
    Calls Tryz.prog 50 #[.pointer (some ⟨g, 0, none⟩)] w (NmY s O e' g D P B W) := by
  refine (pIdentifier_any s g k D P B W w hs hk h).mono ?_
  intro e w' hp
  obtain ⟨n, acc, hy, hbeg, ha, hst, h0, rfl⟩ := hn
  rcases hp with ⟨v, x, i', _, _, _, n', hy', hno⟩ | ⟨O', i', rfl, hr, _, n', acc', hy', hbeg', ha', hst', h0', rfl⟩
  · exfalso
    obtain rfl := hyA_uniq hy hy'
    rcases hno with hno | ⟨_, acc', i, hac, hb⟩
    · exact hno hbeg
    · rcases hb with hb | ⟨hb, hz⟩
      · obtain ⟨_, rfl⟩ := nm_same ha (stop_term hst) hac (bad_term hb)
        exact (hst.2 hb.1).2 hb.2.1
      · obtain ⟨rfl, _⟩ := nm_same ha (stop_term hst) hac (stop_term hb)
        omega
  · obtain rfl := hyA_uniq hy hy'
    obtain ⟨rfl, rfl⟩ := nm_same ha (stop_term hst) ha' (stop_term hst')
    exact ⟨rfl, hr⟩
end Go.Proofs.YtnibpdmbccfgoaaGreatDoor

namespace Go.Proofs.YtnibpdmbccfgoaaGreatDoor
open Go.RowKit
set_option linter.unusedVariables false

/-- What stands in a string as it is. -/
def isPl (c : Nat) : Bool := !decide (c = 34 ∨ c = 92 ∨ c = 13 ∨ c = 10 ∨ c = 12)
theorem isPl_iff (c : Nat) : isPl c = true ↔ c ≠ 34 ∧ c ≠ 92 ∧ c ≠ 13 ∧ c ≠ 10 ∧ c ≠ 12 := by unfold isPl; simp
/-- From a place on a string's body reads up to the quote at e. -/
inductive QtR (s : ByteArray) (e : Nat) : Nat → Prop
  | fin : e < s.size → bAt s e = 34 → QtR s e e
  | chr {k : Nat} : k < s.size → isPl (bAt s k) = true → QtR s e (k + 1) → QtR s e k
  | esc {k k1 : Nat} {o : ByteArray} : escAt s k = true → PEscIs s k o k1 → k1 ≤ s.size → QtR s e k1 → QtR s e k
theorem QtR.lt {s : ByteArray} {e k : Nat} (h : QtR s e k) : k < s.size := by
  cases h with
  | fin h _ => exact h
  | chr h _ _ => exact h
  | esc h _ _ _ => have := (escAt_iff s k).1 h; omega
theorem QtR.elt {s : ByteArray} {e k : Nat} (h : QtR s e k) : e < s.size ∧ bAt s e = 34 := by
  induction h with
  | fin h h2 => exact ⟨h, h2⟩
  | chr _ _ _ ih => exact ih
  | esc _ _ _ _ ih => exact ih
theorem QtR.look {s : ByteArray} {e k : Nat} (h : QtR s e k) : (k = e ∧ bAt s k = 34) ∨ (isPl (bAt s k) = true ∧ QtR s e (k + 1)) ∨ (escAt s k = true ∧ ∃ o k1, PEscIs s k o k1 ∧ k1 ≤ s.size ∧ QtR s e k1) := by
  cases h with
  | fin h h2 => exact .inl ⟨rfl, h2⟩
  | chr _ h1 h2 => exact .inr (.inl ⟨h1, h2⟩)
  | esc h1 h2 h3 h4 => exact .inr (.inr ⟨h1, _, _, h2, h3, h4⟩)

/-- Where the string is read up to. -/
def StrL (X : ByteArray) (e g : Nat) (D P : Value) (B : Nat) (W : World) (v2 v4 : Value) (wx : World) : Prop :=
  ∃ (i' : Nat) (O : ByteArray), v2 = .string O ∧ v4 = .int .i64 (e : Int) ∧ O.size ≤ 400000 ∧ PrX X g i' D P B W wx
/-- Behind a run. -/
def StrRun (X : ByteArray) (e k : Nat) (v4 : Value) : Prop := ∃ m : Nat, k < m ∧ v4 = .int .i64 (m : Int) ∧ QtR X e m
def StrP2 (X : ByteArray) (e' g : Nat) (D P : Value) (B : Nat) (W : World) (e : Ending) (w' : World) : Prop :=
  ∃ O : ByteArray, e = .returned (.tuple #[.string O, .nilIface]) ∧ O.size ≤ 400000 ∧ PrX X g (e' + 1) D P B W w'

set_option maxRecDepth 100000 in
set_option maxHeartbeats 8000000 in
theorem pStrAt_any (X : ByteArray) (g k0 e : Nat) (D P : Value) (B : Nat) (W w : World) (hs : X.size ≤ 100000) (h34 : bAt X k0 = 34) (hq : QtR X e (k0 + 1)) (h : PrX X g k0 D P B W w) :
    Calls Tryz.prog 53 #[.pointer (some ⟨g, 0, none⟩)] w (StrP2 X e g D P B W) := by
  have HR := Lib.hid h
  have HT := Lib.hid hq
  have c0 := h.c0
  have c1 := h.c1
  have hX3 : k0 + 2 ≤ X.size := by have := hq.lt; omega
  have HQ : Hid (∀ h : k0 < X.size, ((X[k0]'h).toNat : Int) = 34) := fun h => by rw [bAt_in h] at h34; omega
  clear h hq h34
  go_enter Tryz.func53, Tryz.ntmps53
  go_wp2_with fail
  go_step3
  go_upto_region 4 with fail
  go_cut [5] (fun v5 wx => v5 = .int .u8 34 ∧ w = wx)
  case first =>
    go_wp2_with fail
    go_meet
    exact ⟨by rw [HQ.out], by trivial⟩
  case rest =>
    obtain ⟨rfl, rfl⟩ := hcut
    clear HQ
    go_wp2_with fail
    go_step3
    go_upto_block 0 with fail
    go_cut [2, 4] (fun v2 v4 wx => StrL X e g D P B W v2 v4 wx)
    case first =>
      go_wp2_with fail
      go_loopg [2, 4] (X.size - (k0 + 1)) (fun gk v2 v4 wr => ∃ (p i' : Nat) (O : ByteArray), gk = X.size - p ∧ v2 = .string O ∧ v4 = .int .i64 (p : Int) ∧ O.size ≤ 4 * p ∧ p < X.size ∧ Hid (QtR X e p) ∧ Hid (PrX X g i' D P B W wr))
      case atStart => exact ⟨k0 + 1, k0, ByteArray.empty, rfl, rfl, by go_num, Nat.zero_le _, hX3, HT.out, HR.out⟩
      case round =>
        obtain ⟨p, i', O, rfl, rfl, rfl, hO, hpl, HP, HW⟩ := hrel
        clear c0 c1
        have c0 := HW.out.c0
        have c1 := HW.out.c1
        have f1 := HW.out.fz 1
        rcases HP.out.look with ⟨he, hb⟩ | ⟨hpc, hnx⟩ | ⟨hE, o0, k1, hpe0, hle0, hq1⟩
        · subst he
          rw [bAt_in hpl] at hb
          have m0 : ((X[p].toNat : Int) == 92) = false := beq_eq_false_iff_ne.2 (by omega)
          have m1 : ((X[p].toNat : Int) == 34) = true := beq_iff_eq.2 (by omega)
          clear hb
          go_wp2_with fail
          go_meet
          exact ⟨i', _, rfl, rfl, by omega, HW.out⟩
        · -- a run
          rw [isPl_iff, bAt_in hpl] at hpc
          obtain ⟨n1, n2, n3, n4, n5⟩ := hpc
          have m0 : ((X[p].toNat : Int) == 92) = false := beq_eq_false_iff_ne.2 (by omega)
          have m1 : ((X[p].toNat : Int) == 34) = false := beq_eq_false_iff_ne.2 (by omega)
          have m2 : ((X[p].toNat : Int) == 13) = false := beq_eq_false_iff_ne.2 (by omega)
          have m3 : ((X[p].toNat : Int) == 10) = false := beq_eq_false_iff_ne.2 (by omega)
          have m4 : ((X[p].toNat : Int) == 12) = false := beq_eq_false_iff_ne.2 (by omega)
          have HN := Lib.hid hnx
          have HNl : Hid (isPl (bAt X p) = true) := (isPl_iff _).2 (by rw [bAt_in hpl]; omega)
          clear n1 n2 n3 n4 n5 hnx
          go_upto_block 3 with fail
          obtain ⟨wo, rfl⟩ : ∃ wo : World, wo = wr := ⟨_, rfl⟩
          go_cut [4] (fun v4 wx => StrRun X e p v4 ∧ wo = wx)
          case first =>
            go_wp2_with fail
            go_loopg [4] (X.size - p) (fun gk v4 wr => ∃ m : Nat, p ≤ m ∧ gk = X.size - m ∧ v4 = .int .i64 (m : Int) ∧ m < X.size ∧ Hid (QtR X e m) ∧ wo = wr)
            case atStart => exact ⟨p, Nat.le_refl _, rfl, rfl, hpl, HP.out, rfl⟩
            case round =>
              obtain ⟨m, hkm, rfl, rfl, hql, HQ, rfl⟩ := hrel
              clear m0 m1 m2 m3 m4
              by_cases hpm : isPl (bAt X m) = true
              · have hq2 : QtR X e (m + 1) := by
                  rcases HQ.out.look with ⟨_, h⟩ | ⟨_, h⟩ | ⟨h, _⟩
                  · rw [isPl_iff] at hpm; omega
                  · exact h
                  · rw [isPl_iff] at hpm; have := ((escAt_iff X m).1 h).2.1; omega
                have hl2 := hq2.lt
                have HQ2 := Lib.hid hq2
                rw [isPl_iff, bAt_in hql] at hpm
                have m0 : ((X[m].toNat : Int) == 92) = false := beq_eq_false_iff_ne.2 (by omega)
                have m1 : ((X[m].toNat : Int) == 34) = false := beq_eq_false_iff_ne.2 (by omega)
                have m2 : ((X[m].toNat : Int) == 13) = false := beq_eq_false_iff_ne.2 (by omega)
                have m3 : ((X[m].toNat : Int) == 10) = false := beq_eq_false_iff_ne.2 (by omega)
                have m4 : ((X[m].toNat : Int) == 12) = false := beq_eq_false_iff_ne.2 (by omega)
                clear hpm hq2
                go_wp2_with fail
                go_roundg (X.size - (m + 1))
                case measure => omega
                case rel => exact ⟨m + 1, by omega, rfl, by go_num, hl2, HQ2.out, by trivial⟩
              · have hne : p < m := by
                  rcases Nat.lt_or_ge p m with c | c
                  · exact c
                  · obtain rfl : m = p := by omega
                    exact absurd HNl.out hpm
                have hcs : bAt X m = 34 ∨ (bAt X m ≠ 34 ∧ bAt X m = 92) := by
                  rcases HQ.out.look with ⟨_, h⟩ | ⟨h, _⟩ | ⟨h, _⟩
                  · exact .inl h
                  · exact absurd h hpm
                  · have := ((escAt_iff X m).1 h).2.1; omega
                rw [bAt_in hql] at hcs
                clear hpm
                rcases hcs with hb | ⟨hb, hb2⟩
                · have m0 : ((X[m].toNat : Int) == 34) = true := beq_iff_eq.2 (by omega)
                  clear hb
                  go_wp2_with fail
                  go_meet
                  exact ⟨⟨m, hne, rfl, HQ.out⟩, rfl⟩
                · have m0 : ((X[m].toNat : Int) == 34) = false := beq_eq_false_iff_ne.2 (by omega)
                  have m1 : ((X[m].toNat : Int) == 92) = true := beq_iff_eq.2 (by omega)
                  clear hb hb2
                  go_wp2_with fail
                  go_meet
                  exact ⟨⟨m, hne, rfl, HQ.out⟩, rfl⟩
          case rest =>
            obtain ⟨⟨m, hkm, rfl, hqm⟩, rfl⟩ := hcut
            have hml := hqm.lt
            have HQ2 := Lib.hid hqm
            have hO3 : (X.extract p m).size = m - p := by rw [ByteArray.size_extract]; omega
            have hO2 : (O ++ X.extract p m).size ≤ 4 * m := by rw [ByteArray.size_append, hO3]; omega
            clear hqm m0 m1 m2 m3 m4
            go_wp2_with fail
            go_roundg (X.size - m)
            case measure => omega
            case rel => exact ⟨m, i', _, rfl, rfl, rfl, hO2, hml, HQ2.out, HW.out⟩
        · -- an escape
          have HEs : Hid (∀ U, PrX X g p D P B W U → Calls Tryz.prog 63 #[.pointer (some ⟨g, 0, none⟩)] U (PEscYesX X g p D P B W)) := fun U h => pEscYesX_any X g p D P B W U (by omega) hE h
          obtain ⟨q1, q2, q3, q4, q5⟩ := (escAt_iff X p).1 hE
          rw [bAt_in hpl] at q2
          rw [bAt_in q1] at q3 q4 q5
          have m0 : ((X[p].toNat : Int) == 92) = true := beq_iff_eq.2 (by omega)
          have m1 : ((X[p + 1].toNat : Int) == 13) = false := beq_eq_false_iff_ne.2 (by omega)
          have m2 : ((X[p + 1].toNat : Int) == 10) = false := beq_eq_false_iff_ne.2 (by omega)
          have m3 : ((X[p + 1].toNat : Int) == 12) = false := beq_eq_false_iff_ne.2 (by omega)
          have HRes : Hid (∀ out i', PEscIs X p out i' → QtR X e i' ∧ out.size ≤ 4 ∧ p + 2 ≤ i') := fun out i' hpe => by
            obtain ⟨rfl, rfl⟩ := pesc_uniq hpe hpe0
            exact ⟨hq1, pesc_size hpe⟩
          have HS := Lib.hid (HW.out.set p)
          clear hE q2 q3 q4 q5 hpe0 hle0 hq1
          go_wp2_with fail
          refine (HEs.out _ HS.out).mono ?_
          rintro e1 w1 ⟨out, i2, rfl, hr, hle, hpe⟩
          obtain ⟨hq2, ho4, hi2⟩ := HRes.out out i2 hpe
          have hl2 := hq2.lt
          have HQ2 := Lib.hid hq2
          have HR2 := Lib.hid hr
          have c1' := hr.c1
          have hO2 : (O ++ out).size ≤ 4 * i2 := by rw [ByteArray.size_append]; omega
          clear hr hpe hq2 hle c0 c1 f1
          go_wp2_with fail
          go_roundg (X.size - i2)
          case measure => omega
          case rel => exact ⟨i2, i2, _, rfl, rfl, rfl, hO2, hl2, HQ2.out, HR2.out⟩
    case rest =>
      obtain ⟨i', O, rfl, rfl, hOs, hr⟩ := hcut
      have HR2 := Lib.hid hr
      obtain ⟨hel, _⟩ := HT.out.elt
      have HS := Lib.hid (hr.set (e + 1))
      have f1 := hr.fz 1
      clear c0 c1
      have c0 := hr.c0
      have c1 := hr.c1
      clear hr
      go_wp2_with fail
      go_ret2
      exact ⟨_, rfl, hOs, HS.out⟩
end Go.Proofs.YtnibpdmbccfgoaaGreatDoor

namespace Go.Proofs.YtnibpdmbccfgoaaGreatDoor
open Go.RowKit
set_option linter.unusedVariables false

/-- Steps of a relation, one behind the other. -/
inductive Star (R : Nat → Nat → Prop) (k : Nat) : Nat → Prop
  | zero : Star R k k
  | snoc {i m : Nat} : Star R k i → R i m → Star R k m
theorem Star.one {R : Nat → Nat → Prop} {k m : Nat} (h : R k m) : Star R k m := .snoc .zero h
theorem Star.head {R : Nat → Nat → Prop} {k e : Nat} (h : Star R k e) : k = e ∨ ∃ m, R k m ∧ Star R m e := by
  induction h with
  | zero => exact .inl rfl
  | snoc _ hr ih =>
    rcases ih with rfl | ⟨m, h1, h2⟩
    · exact .inr ⟨_, hr, .zero⟩
    · exact .inr ⟨m, h1, h2.snoc hr⟩
theorem Star.rest {R : Nat → Nat → Prop} (det : ∀ i m m', R i m → R i m' → m = m') {k e' : Nat} (h' : Star R k e') (hs' : ∀ m, ¬ R e' m) {i : Nat} (h : Star R k i) : Star R i e' := by
  induction h with
  | zero => exact h'
  | snoc _ hr ih =>
    rcases ih.head with rfl | ⟨c, c1, c2⟩
    · exact absurd hr (hs' _)
    · rw [det _ _ _ hr c1]; exact c2
theorem Star.uniq {R : Nat → Nat → Prop} (det : ∀ i m m', R i m → R i m' → m = m') {k e e' : Nat} (h : Star R k e) (hs : ∀ m, ¬ R e m) (h' : Star R k e') (hs' : ∀ m, ¬ R e' m) : e = e' := by
  rcases (Star.rest det h' hs' h).head with q | ⟨m, q, _⟩
  · exact q
  · exact absurd q (hs m)

/-- Digits. -/
def isDg (c : Nat) : Bool := decide (48 ≤ c ∧ c ≤ 57)
theorem isDg_iff (c : Nat) : isDg c = true ↔ 48 ≤ c ∧ c ≤ 57 := by unfold isDg; rw [decide_eq_true_eq]
theorem isDg_no (c : Nat) : isDg c = false ↔ ¬ (48 ≤ c ∧ c ≤ 57) := by unfold isDg; rw [decide_eq_false_iff_not]
structure DgTo (s : ByteArray) (k j : Nat) : Prop where
  le : k + j ≤ s.size
  all : ∀ x, x < j → isDg (bAt s (k + x)) = true
  stop : isDg (bAt s (k + j)) = false
theorem DgTo.uniq {s : ByteArray} {k j j' : Nat} (h : DgTo s k j) (h' : DgTo s k j') : j = j' := by
  rcases Nat.lt_trichotomy j j' with c | c | c
  · have h1 := h'.all j c
    rw [h.stop] at h1; cases h1
  · exact c
  · have h1 := h.all j' c
    rw [h'.stop] at h1; cases h1
/-- What digits count, and what they count at most. -/
def dgV (s : ByteArray) (k : Nat) : Nat → Nat
  | 0 => 0
  | n + 1 => 10 * dgV s k n + (bAt s (k + n) - 48)
def dgC (s : ByteArray) (k : Nat) : Nat → Nat
  | 0 => 0
  | n + 1 => min (10 * dgC s k n + (bAt s (k + n) - 48)) 100000
theorem dgC_le (s : ByteArray) (k : Nat) : ∀ n, dgC s k n ≤ 100000
  | 0 => by simp [dgC]
  | n + 1 => Nat.min_le_right _ _
theorem dgC_eq (s : ByteArray) (k : Nat) : ∀ n, dgC s k n < 100000 → dgC s k n = dgV s k n
  | 0, _ => rfl
  | n + 1, h => by
    have h1 : dgC s k (n + 1) = min (10 * dgC s k n + (bAt s (k + n) - 48)) 100000 := rfl
    have h2 : 10 * dgC s k n + (bAt s (k + n) - 48) < 100000 := by rw [h1] at h; omega
    have ih := dgC_eq s k n (by omega)
    rw [h1, Nat.min_eq_left (by omega), ih]
    rfl

/-- The end of a comment whose text begins at i; a text without one. -/
def CmTo (s : ByteArray) (i e : Nat) : Prop :=
  ∃ m, i ≤ m ∧ m + 1 < s.size ∧ bAt s m = 42 ∧ bAt s (m + 1) = 47 ∧ e = m + 2 ∧ ∀ x, i ≤ x → x < m → ¬ (bAt s x = 42 ∧ bAt s (x + 1) = 47)
def NoCm (s : ByteArray) (i : Nat) : Prop := ∀ x, i ≤ x → x + 1 < s.size → ¬ (bAt s x = 42 ∧ bAt s (x + 1) = 47)
theorem CmTo.uniq {s : ByteArray} {i e e' : Nat} (h : CmTo s i e) (h' : CmTo s i e') : e = e' := by
  obtain ⟨m, h1, h2, h3, h4, h5, h6⟩ := h
  obtain ⟨n, k1, k2, k3, k4, k5, k6⟩ := h'
  rcases Nat.lt_trichotomy m n with c | c | c
  · exact absurd ⟨h3, h4⟩ (k6 m h1 c)
  · omega
  · exact absurd ⟨k3, k4⟩ (h6 n k1 c)
theorem CmTo.not {s : ByteArray} {i e : Nat} (h : CmTo s i e) (hn : NoCm s i) : False := by
  obtain ⟨m, h1, h2, h3, h4, h5, h6⟩ := h
  exact hn m h1 h2 ⟨h3, h4⟩

/-- One white space, or one comment. -/
def SkR (s : ByteArray) (i m : Nat) : Prop :=
  (i < s.size ∧ isWs (bAt s i) = true ∧ m = i + 1) ∨ (i + 1 < s.size ∧ bAt s i = 47 ∧ bAt s (i + 1) = 42 ∧ CmTo s (i + 2) m)
theorem isWs_47 : isWs 47 = false := by decide
theorem SkR.det {s : ByteArray} (i m m' : Nat) (h : SkR s i m) (h' : SkR s i m') : m = m' := by
  rcases h with ⟨h1, h2, h3⟩ | ⟨h1, h2, h3, h4⟩
  · rcases h' with ⟨k1, k2, k3⟩ | ⟨k1, k2, k3, k4⟩
    · omega
    · rw [k2, isWs_47] at h2; cases h2
  · rcases h' with ⟨k1, k2, k3⟩ | ⟨k1, k2, k3, k4⟩
    · rw [h2, isWs_47] at k2; cases k2
    · exact h4.uniq k4
theorem SkR.lt {s : ByteArray} {i m : Nat} (h : SkR s i m) : i < m ∧ m ≤ s.size ∧ (isWs (bAt s (m - 1)) = true ∨ bAt s (m - 1) = 47) := by
  rcases h with ⟨h1, h2, rfl⟩ | ⟨h1, h2, h3, n, k1, k2, k3, k4, rfl, k6⟩
  · exact ⟨by omega, by omega, .inl (by rw [Nat.add_sub_cancel]; exact h2)⟩
  · exact ⟨by omega, by omega, .inr (by rw [show n + 2 - 1 = n + 1 by omega]; exact k4)⟩
/-- White space and comments from k on go up to e. -/
def Sk (s : ByteArray) (k e : Nat) : Prop := Star (SkR s) k e ∧ e ≤ s.size ∧ ∀ m, ¬ SkR s e m
theorem Sk.uniq {s : ByteArray} {k e e' : Nat} (h : Sk s k e) (h' : Sk s k e') : e = e' := Star.uniq SkR.det h.1 h.2.2 h'.1 h'.2.2
theorem Star.last {s : ByteArray} {k e : Nat} (h : Star (SkR s) k e) : e = k ∨ (k < e ∧ (isWs (bAt s (e - 1)) = true ∨ bAt s (e - 1) = 47)) := by
  induction h with
  | zero => exact .inl rfl
  | snoc _ hr ih =>
    have := hr.lt
    refine .inr ⟨?_, this.2.2⟩
    rcases ih with rfl | ⟨q, _⟩ <;> omega
theorem Sk.ge {s : ByteArray} {k e : Nat} (h : Sk s k e) : k ≤ e := by rcases h.1.last with q | ⟨q, _⟩ <;> omega
/-- Where nothing is skipped any more. -/
theorem sk_stop {s : ByteArray} {e : Nat} (h1 : e < s.size → isWs (bAt s e) = false) (h2 : e + 1 < s.size → bAt s e = 47 → bAt s (e + 1) = 42 → NoCm s (e + 2)) : ∀ m, ¬ SkR s e m := by
  intro m h
  rcases h with ⟨k1, k2, k3⟩ | ⟨k1, k2, k3, k4⟩
  · rw [h1 k1] at k2; cases k2
  · exact k4.not (h2 k1 k2 k3)
end Go.Proofs.YtnibpdmbccfgoaaGreatDoor

namespace Go.Proofs.YtnibpdmbccfgoaaGreatDoor
open Go.RowKit
set_option linter.unusedVariables false

theorem hasPre2 (a b : UInt8) : ∀ L : List UInt8, Lib.hasPrefix L [a, b] = decide (L[0]? = some a ∧ L[1]? = some b)
  | [] => by simp [Lib.hasPrefix]
  | [x] => by simp [Lib.hasPrefix, List.isPrefixOf]
  | x :: y :: r => by
    show ((a == x) && ((b == y) && true)) = decide (some x = some a ∧ some y = some b)
    rw [Bool.and_true, Bool.eq_iff_iff, Bool.and_eq_true, beq_iff_eq, beq_iff_eq, decide_eq_true_eq, Option.some.injEq, Option.some.injEq]
    exact ⟨fun h => ⟨h.1.symm, h.2.symm⟩, fun h => ⟨h.1.symm, h.2.symm⟩⟩
theorem at_opt {s : ByteArray} {k : Nat} (a : UInt8) : s.data.toList[k]? = some a ↔ k < s.size ∧ bAt s k = a.toNat := by
  have hl : s.data.toList.length = s.size := by rw [Array.length_toList]; rfl
  by_cases q : k < s.size
  · rw [List.getElem?_eq_getElem (by omega), bAt_in q]
    have e : s.data.toList[k]'(by omega) = s[k] := by rw [Array.getElem_toList]; rfl
    rw [e, Option.some.injEq, UInt8.toNat_inj]
    exact ⟨fun h => ⟨q, h⟩, fun h => h.2⟩
  · rw [List.getElem?_eq_none (by omega)]
    constructor
    · intro h; cases h
    · intro h; exact absurd h.1 q
theorem ext_size {s : ByteArray} {a : Nat} (h : a ≤ s.size) : (s.extract a s.size).size = s.size - a := by
  rw [ByteArray.size_extract, Nat.min_self]
theorem ext_at {s : ByteArray} {a x : Nat} (h : a ≤ s.size) : bAt (s.extract a s.size) x = bAt s (a + x) := by
  by_cases q : a + x < s.size
  · exact bAt_extract q (Nat.le_refl _)
  · rw [bAt_out (by rw [ext_size h]; omega), bAt_out (by omega)]
theorem pre2_here {s : ByteArray} {a b : UInt8} {i : Nat} (h : i ≤ s.size) : Lib.hasPrefix (s.extract i s.size).data.toList [a, b] = decide (i + 1 < s.size ∧ bAt s i = a.toNat ∧ bAt s (i + 1) = b.toNat) := by
  rw [hasPre2]
  refine decide_eq_decide.2 ?_
  rw [at_opt, at_opt, ext_at h, ext_at h, ext_size h, Nat.add_zero]
  constructor
  · rintro ⟨⟨q1, q2⟩, q3, q4⟩; exact ⟨by omega, q2, q4⟩
  · rintro ⟨q1, q2, q3⟩; exact ⟨⟨by omega, q2⟩, by omega, q3⟩
theorem ext_here {s : ByteArray} {a b : UInt8} {i m : Nat} (h : i ≤ s.size) : hereT (s.extract i s.size) ⟨#[a, b]⟩ m = decide (i + m + 1 < s.size ∧ bAt s (i + m) = a.toNat ∧ bAt s (i + m + 1) = b.toNat) := by
  rw [here2]
  refine decide_eq_decide.2 ?_
  rw [ext_at h, ext_at h, ext_size h, ← Nat.add_assoc]
  constructor
  · rintro ⟨q1, q2⟩; exact ⟨by omega, q2⟩
  · rintro ⟨q1, q2⟩; exact ⟨by omega, q2⟩

def IxP (X t : ByteArray) (w : World) (e : Ending) (w' : World) : Prop :=
  w' = w ∧ ((∃ n : Nat, e = .returned (.int .i64 (n : Int)) ∧ hereT X t n = true ∧ ∀ m, m < n → hereT X t m = false) ∨
    (e = .returned (.int .i64 (-1)) ∧ ∀ m, hereT X t m = false))

set_option maxRecDepth 100000 in
set_option maxHeartbeats 4000000 in
theorem zzIx_any (X t : ByteArray) (hX : X.size ≤ 100000) (ht : t.size ≤ 100000) (w : World) :
    Calls Tryz.prog 39 #[.string X, .string t] w (IxP X t w) := by
  go_enter Tryz.func39, Tryz.ntmps39
  go_wp2_with fail
  obtain ⟨wo, rfl⟩ : ∃ wo : World, wo = w := ⟨_, rfl⟩
  go_loopg [5] (X.size + 1) (fun gk v5 wr => ∃ k : Nat, gk = X.size + 1 - k ∧ k ≤ X.size + 1 ∧ v5 = .int .i64 (k : Int) ∧ Hid (∀ m, m < k → hereT X t m = false) ∧ wo = wr)
  case atStart => exact ⟨0, rfl, Nat.zero_le _, rfl, (fun m hm => absurd hm (Nat.not_lt_zero m)), rfl⟩
  case round =>
    obtain ⟨k, rfl, hk, rfl, HN, rfl⟩ := hrel
    by_cases hle : k + t.size ≤ X.size
    · have HX : Hid (((X.extract k (k + t.size)).toList == t.toList) = hereT X t k) := by
        rw [Hid, tl_beq]; unfold hereT
        exact decide_eq_decide.2 ⟨fun q => ⟨hle, q⟩, fun q => q.2⟩
      cases hb : hereT X t k
      · have HN2 : Hid (∀ m, m < k + 1 → hereT X t m = false) := fun m hm => by
          by_cases q : m = k
          · subst q; exact hb
          · exact HN.out m (by omega)
        have hx := HX.out.trans hb
        clear hb HX
        go_wp2_with fail
        go_roundg (X.size + 1 - (k + 1))
        case measure => omega
        case rel => exact ⟨k + 1, rfl, by omega, by go_num, HN2, by trivial⟩
      · have HF := Lib.hid hb
        have hx := HX.out.trans hb
        clear hb HX
        go_wp2_with fail
        go_ret
        exact ⟨by trivial, .inl ⟨k, rfl, HF.out, HN.out⟩⟩
    · have HF : Hid (∀ m, hereT X t m = false) := fun m => by
        by_cases q : m < k
        · exact HN.out m q
        · exact decide_eq_false (fun h => by omega)
      go_wp2_with fail
      go_ret
      exact ⟨by trivial, .inr ⟨rfl, HF.out⟩⟩

/-- Where (*parser).skipWhitespace ends. -/
def WsP (s : ByteArray) (k g : Nat) (D P : Value) (B : Nat) (W : World) (e : Ending) (w' : World) : Prop :=
  ∃ i : Nat, e = .returned (.bool (decide (k < i))) ∧ Sk s k i ∧ PrX s g i D P B W w'

set_option maxRecDepth 100000 in
set_option maxHeartbeats 8000000 in
theorem pSkip_any (s : ByteArray) (g k : Nat) (D P : Value) (B : Nat) (W w : World) (hs : s.size ≤ 100000) (hk : k ≤ s.size) (h : PrX s g k D P B W w) :
    Calls Tryz.prog 31 #[.pointer (some ⟨g, 0, none⟩)] w (WsP s k g D P B W) := by
  have HR := Lib.hid h
  have c0 := h.c0
  have c1 := h.c1
  clear h
  have HIx : Hid (∀ (i : Nat) (U : World), i ≤ s.size → Calls Tryz.prog 39 #[.string (s.extract i s.size), .string ⟨#[42, 47]⟩] U (IxP (s.extract i s.size) ⟨#[42, 47]⟩ U)) := fun i U hi =>
    zzIx_any _ _ (by rw [ext_size hi]; omega) (by decide) U
  have HPre : Hid (∀ (i : Nat) (U : World), i ≤ s.size → Calls Tryz.prog 38 #[.string (s.extract i s.size), .string ⟨#[47, 42]⟩] U fun e w' => e = .returned (.bool (decide (i + 1 < s.size ∧ bAt s i = 47 ∧ bAt s (i + 1) = 42))) ∧ w' = U) := fun i U hi => by
    refine (Tryz.strings_HasPrefix (s.extract i s.size) ⟨#[47, 42]⟩ U).mono ?_
    rintro e w' ⟨rfl, rfl⟩
    exact ⟨by rw [show (⟨#[47, 42]⟩ : ByteArray).data.toList = [47, 42] from rfl, pre2_here hi]; rfl, rfl⟩
  go_enter Tryz.func31, Tryz.ntmps31
  go_upto_block 0 with fail
  obtain ⟨wo, rfl⟩ : ∃ wo : World, wo = w := ⟨_, rfl⟩
  go_cut [3] (fun v3 wx => ∃ i : Nat, v3 = .int .i64 (i : Int) ∧ Sk s k i ∧ wo = wx)
  case first =>
    go_wp2_with fail
    go_loopg [3] (s.size - k) (fun gk v3 wr => ∃ i : Nat, gk = s.size - i ∧ i ≤ s.size ∧ v3 = .int .i64 (i : Int) ∧ Hid (Star (SkR s) k i) ∧ wo = wr)
    case atStart => exact ⟨k, rfl, hk, rfl, .zero, rfl⟩
    case round =>
      obtain ⟨i, rfl, hi, rfl, HS, rfl⟩ := hrel
      by_cases hlt : i < s.size
      · have hb := bAt_in hlt
        by_cases h32 : s[i].toNat = 32
        · have m32 : ((s[i].toNat : Int) == 32) = true := beq_iff_eq.2 (by omega)
          have HS2 : Hid (Star (SkR s) k (i + 1)) := HS.out.snoc (.inl ⟨hlt, by rw [hb]; unfold isWs; exact decide_eq_true (by omega), rfl⟩)
          clear hb h32
          go_wp2_with fail
          go_roundg (s.size - (i + 1))
          case measure => omega
          case rel => exact ⟨i + 1, rfl, hlt, by go_num, HS2, by trivial⟩
        have m32 : ((s[i].toNat : Int) == 32) = false := beq_eq_false_iff_ne.2 (by omega)
        by_cases h9 : s[i].toNat = 9
        · have m9 : ((s[i].toNat : Int) == 9) = true := beq_iff_eq.2 (by omega)
          have HS2 : Hid (Star (SkR s) k (i + 1)) := HS.out.snoc (.inl ⟨hlt, by rw [hb]; unfold isWs; exact decide_eq_true (by omega), rfl⟩)
          clear hb h32 h9
          go_wp2_with fail
          go_roundg (s.size - (i + 1))
          case measure => omega
          case rel => exact ⟨i + 1, rfl, hlt, by go_num, HS2, by trivial⟩
        have m9 : ((s[i].toNat : Int) == 9) = false := beq_eq_false_iff_ne.2 (by omega)
        by_cases h13 : s[i].toNat = 13
        · have m13 : ((s[i].toNat : Int) == 13) = true := beq_iff_eq.2 (by omega)
          have HS2 : Hid (Star (SkR s) k (i + 1)) := HS.out.snoc (.inl ⟨hlt, by rw [hb]; unfold isWs; exact decide_eq_true (by omega), rfl⟩)
          clear hb h32 h9 h13
          go_wp2_with fail
          go_roundg (s.size - (i + 1))
          case measure => omega
          case rel => exact ⟨i + 1, rfl, hlt, by go_num, HS2, by trivial⟩
        have m13 : ((s[i].toNat : Int) == 13) = false := beq_eq_false_iff_ne.2 (by omega)
        by_cases h10 : s[i].toNat = 10
        · have m10 : ((s[i].toNat : Int) == 10) = true := beq_iff_eq.2 (by omega)
          have HS2 : Hid (Star (SkR s) k (i + 1)) := HS.out.snoc (.inl ⟨hlt, by rw [hb]; unfold isWs; exact decide_eq_true (by omega), rfl⟩)
          clear hb h32 h9 h13 h10
          go_wp2_with fail
          go_roundg (s.size - (i + 1))
          case measure => omega
          case rel => exact ⟨i + 1, rfl, hlt, by go_num, HS2, by trivial⟩
        have m10 : ((s[i].toNat : Int) == 10) = false := beq_eq_false_iff_ne.2 (by omega)
        by_cases h12 : s[i].toNat = 12
        · have m12 : ((s[i].toNat : Int) == 12) = true := beq_iff_eq.2 (by omega)
          have HS2 : Hid (Star (SkR s) k (i + 1)) := HS.out.snoc (.inl ⟨hlt, by rw [hb]; unfold isWs; exact decide_eq_true (by omega), rfl⟩)
          clear hb h32 h9 h13 h10 h12
          go_wp2_with fail
          go_roundg (s.size - (i + 1))
          case measure => omega
          case rel => exact ⟨i + 1, rfl, hlt, by go_num, HS2, by trivial⟩
        have m12 : ((s[i].toNat : Int) == 12) = false := beq_eq_false_iff_ne.2 (by omega)
        have HNw : Hid (isWs (bAt s i) = false) := by rw [Hid, hb]; unfold isWs; exact decide_eq_false (by omega)
        clear h32 h9 h13 h10 h12
        by_cases h47 : s[i].toNat = 47
        · have m47 : ((s[i].toNat : Int) == 47) = true := beq_iff_eq.2 (by omega)
          have HB : Hid (bAt s i = 47) := by rw [Hid, hb]; exact h47
          have HP2 := Lib.hid (fun U => HPre.out i U hi)
          by_cases hc : i + 1 < s.size ∧ bAt s i = 47 ∧ bAt s (i + 1) = 42
          · rw [decide_eq_true hc] at HP2
            obtain ⟨hc1, hc2, hc3⟩ := hc
            have HC := Lib.hid hc3
            have HI2 := Lib.hid (fun U => HIx.out (i + 2) U (by omega))
            clear hb h47 hc2 hc3
            go_wp2_with fail
            refine (HP2.out _).mono ?_
            rintro e1 w1 ⟨rfl, rfl⟩
            go_wp2_with fail
            refine (HI2.out _).mono ?_
            rintro e1 w1 ⟨rfl, ⟨n, rfl, hn, hf⟩ | ⟨rfl, hf⟩⟩
            · rw [ext_here (by omega), decide_eq_true_eq] at hn
              obtain ⟨n1, n2, n3⟩ := hn
              have HS2 : Hid (Star (SkR s) k (i + 2 + n + 2)) := HS.out.snoc (.inr ⟨hc1, HB.out, HC.out, i + 2 + n, by omega, n1, n2, n3, rfl, fun x hx1 hx2 hxx => by
                have hf2 := hf (x - (i + 2)) (by omega)
                rw [ext_here (by omega), decide_eq_false_iff_not, show i + 2 + (x - (i + 2)) = x by omega] at hf2
                exact hf2 ⟨by omega, hxx⟩⟩)
              clear hf n2 n3
              go_wp2_with fail
              go_roundg (s.size - (i + 2 + n + 2))
              case measure => omega
              case rel => exact ⟨i + 2 + n + 2, rfl, by omega, by go_num, HS2, by trivial⟩
            · have HK : Hid (Sk s k i) := ⟨HS.out, hi, sk_stop (fun _ => HNw.out) (fun _ _ _ => fun x hx1 hx2 hxx => by
                have hf2 := hf (x - (i + 2))
                rw [ext_here (by omega), decide_eq_false_iff_not, show i + 2 + (x - (i + 2)) = x by omega] at hf2
                exact hf2 ⟨hx2, hxx⟩)⟩
              clear hf
              go_wp2_with fail
              go_meet
              exact ⟨i, rfl, HK.out, by trivial⟩
          · rw [decide_eq_false hc] at HP2
            have HK : Hid (Sk s k i) := ⟨HS.out, hi, sk_stop (fun _ => HNw.out) (fun q1 q2 q3 => absurd ⟨q1, q2, q3⟩ hc)⟩
            clear hb h47 hc
            go_wp2_with fail
            refine (HP2.out _).mono ?_
            rintro e1 w1 ⟨rfl, rfl⟩
            go_wp2_with fail
            go_meet
            exact ⟨i, rfl, HK.out, by trivial⟩
        · have m47 : ((s[i].toNat : Int) == 47) = false := beq_eq_false_iff_ne.2 (by omega)
          have HK : Hid (Sk s k i) := ⟨HS.out, hi, sk_stop (fun _ => HNw.out) (fun q1 q2 q3 => absurd (hb.symm.trans q2) h47)⟩
          clear hb h47
          go_wp2_with fail
          go_meet
          exact ⟨i, rfl, HK.out, by trivial⟩
      · have HK : Hid (Sk s k i) := ⟨HS.out, hi, sk_stop (fun q => absurd q hlt) (fun q1 _ _ => absurd q1 (by omega))⟩
        go_wp2_with fail
        go_meet
        exact ⟨i, rfl, HK.out, by trivial⟩
  case rest =>
    obtain ⟨i, rfl, hk2, rfl⟩ := hcut
    have HK := Lib.hid hk2
    have hge := hk2.ge
    have hle := hk2.2.1
    have f1 := HR.out.fz 1
    have HS := Lib.hid (HR.out.set i)
    clear hk2
    by_cases h0 : i = k
    · subst h0
      have m0 : decide ((i : Int) < (i : Int)) = false := decide_eq_false (by omega)
      go_wp2_with fail
      go_ret
      exact ⟨i, by rw [decide_eq_false (Nat.lt_irrefl i)]; rfl, HK.out, HR.out⟩
    · have m0 : decide ((k : Int) < (i : Int)) = true := decide_eq_true (by omega)
      go_wp2_with fail
      go_ret
      exact ⟨i, by rw [decide_eq_true (Nat.lt_of_le_of_ne hge (fun h => h0 h.symm))]; rfl, HK.out, HS.out⟩
end Go.Proofs.YtnibpdmbccfgoaaGreatDoor
