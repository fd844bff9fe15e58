/- Places of elements, each once; a right tree, and such places ascending. -/
import Derived.Test.YtgilbckfkngaiaaT39
namespace Go.Proofs.Ytgilbckfkngaiaa
open Go.RowKit
set_option linter.unusedVariables false

set_option maxRecDepth 100000 in
set_option maxHeartbeats 1000000 in
theorem isPlace_any (a : Option Addr) (c : Nat) (l : List Int) (hl : l.length ≤ 2147483647) (x : Int) (w : World) (h : RSl w w.heap.size a (ivs l)) :
    Calls Try.prog 69 #[.slice a l.length c, .int .i64 x] w fun e w' => e = .returned (.bool (decide (x ∈ l))) ∧ w = w' := by
  have HH := Lib.hid h
  clear h
  go_enter Try.func69, Try.ntmps69
  go_wp2_with fail
  go_loopw [5] (fun y wr => ∃ k : Nat, k ≤ l.length ∧ y = .int .i64 k ∧ Hid (x ∉ l.take k) ∧ w = wr) (fun y _ => l.length - (intOf y).toNat)
  case atStart => exact ⟨0, by omega, rfl, by simp [Hid], rfl⟩
  case round =>
    obtain ⟨k, hk, rfl, hno, rfl⟩ := hrel
    by_cases hlt : k < l.length
    · obtain ⟨b, o, rfl, hbB, hc⟩ := HH.out.at_ (by rw [ivs_length]; omega)
      have g1 := hc k (by rw [ivs_length]; exact hlt)
      rw [ivs_at hlt] at g1
      clear hc
      obtain ⟨y, hy⟩ : ∃ y, y = l[k] := ⟨_, rfl⟩
      rw [← hy] at g1
      by_cases e : y = x
      · have HT : Hid (decide (x ∈ l) = true) := by rw [Hid, decide_eq_true_eq, ← e, hy]; exact List.getElem_mem hlt
        have z1 : (y == x) = true := beq_iff_eq.2 e
        clear hy e
        go_wp2_with fail
        go_ret
        exact ⟨ret_b HT.out, rfl⟩
      · have HN : Hid (x ∉ l.take (k + 1)) := by
          rw [Hid, List.take_succ_eq_append_getElem hlt, List.mem_append, List.mem_singleton]
          rintro (h2 | h2)
          · exact hno.out h2
          · exact e (hy.trans h2.symm)
        have z1 : (y == x) = false := beq_eq_false_iff_ne.2 e
        clear hy e
        go_wp2_with fail
        go_roundw
        case rel => exact ⟨k + 1, by omega, by go_num, HN, by trivial⟩
        case measure => simp [intOf]; omega
    · have HF : Hid (decide (x ∈ l) = false) := by
        have e : k = l.length := by omega
        have := hno.out
        rw [e, List.take_length] at this
        rw [Hid, decide_eq_false_iff_not]; exact this
      go_wp2_with fail
      go_ret
      exact ⟨ret_b HF.out, rfl⟩

/-- Places of elements of a tree, each once. -/
structure ElemP (t : List Nd) (l : List Int) (ns : List Nat) : Prop where
  eq : l = toI ns
  lt : ∀ k ∈ ns, k < t.length
  kind : ∀ k ∈ ns, (t.getD k default).kind = 3
  nodup : ns.Nodup

def ElSeen (t : List Nd) (l : List Int) (k : Nat) : Prop := ∀ i (h : i < l.length), i < k → 0 ≤ l[i] ∧ l[i] < t.length ∧ (t.getD l[i].toNat default).kind = 3 ∧ l[i] ∉ l.take i

theorem elSeen_all {t : List Nd} {l : List Int} (h : ElSeen t l l.length) : ∃ ns, ElemP t l ns := by
  have hl : l = toI (l.map Int.toNat) := by
    unfold toI
    rw [List.map_map]
    apply List.ext_getElem
    · simp
    · intro i h1 h2
      have := (h i h1 h1).1
      simp
      omega
  have hnd : l.Nodup := by
    unfold List.Nodup
    rw [List.pairwise_iff_getElem]
    intro i j hi hj hij e
    refine (h j hj hj).2.2.2 ?_
    rw [← e]
    exact List.mem_take_iff_getElem.2 ⟨i, by omega, rfl⟩
  refine ⟨l.map Int.toNat, hl, fun k hk => ?_, fun k hk => ?_, ?_⟩
  · obtain ⟨x, hx, rfl⟩ := List.mem_map.1 hk
    obtain ⟨i, hi, rfl⟩ := List.getElem_of_mem hx
    have := h i hi hi
    omega
  · obtain ⟨x, hx, rfl⟩ := List.mem_map.1 hk
    obtain ⟨i, hi, rfl⟩ := List.getElem_of_mem hx
    exact (h i hi hi).2.2.1
  · have := hnd
    rw [hl] at this
    unfold toI at this
    exact (List.pairwise_map.1 this).imp (fun h e => h (by rw [e]))

def ElPost (t : List Nd) (l : List Int) (w : World) (e : Ending) (w' : World) : Prop := ∃ b, e = .returned (.bool b) ∧ (b = true → ∃ ns, ElemP t l ns) ∧ Below w.heap.size w w'

set_option maxRecDepth 100000 in
set_option maxHeartbeats 9000000 in
theorem elements_any (a : Option Addr) (c : Nat) (t : List Nd) (ht : t.length ≤ 200) (a2 : Option Addr) (c2 : Nat) (l : List Int) (hl : l.length ≤ 2147483647) (hc2 : l.length ≤ c2) (w : World) (h : NSl w w.heap.size a t) (hi : ISl w w.heap.size a2 l) :
    Calls Try.prog 26 #[.slice a t.length c, .slice a2 l.length c2] w (ElPost t l w) := by
  have HH := Lib.hid h
  have HI := Lib.hid hi
  clear h hi
  go_enter Try.func26, Try.ntmps26
  go_wp2_with fail
  go_loopw [5] (fun x wr => ∃ k : Nat, k ≤ l.length ∧ x = .int .i64 k ∧ Hid (ElSeen t l k) ∧ Below w.heap.size w wr) (fun x _ => l.length - (intOf x).toNat)
  case atStart => exact ⟨0, by omega, rfl, (fun i _ h => by omega), Below.refl _ _⟩
  case round =>
    obtain ⟨k, hk, rfl, hseen, hb⟩ := hrel
    have HB := Lib.hid hb
    clear hb
    by_cases hlt : k < l.length
    · obtain ⟨b, o, rfl, hbB, hcc⟩ := (HI.out.up HB.out).at_ (by omega)
      have g1 := hcc k hlt
      clear hcc
      obtain ⟨x, hx⟩ : ∃ x, x = l[k] := ⟨_, rfl⟩
      rw [← hx] at g1
      have HX := Lib.hid hx
      clear hx
      by_cases c1 : x < 0
      · have d1 : decide (x < 0) = true := by simpa using c1
        clear c1
        go_wp2_with fail
        go_quiet (fail)
        go_wp2_with fail
        go_ret
        exact ⟨false, rfl, by simp, below_drewN HB.out _⟩
      · have d1 : decide (x < 0) = false := by simpa using c1
        by_cases c3 : (t.length : Int) ≤ x
        · have d2 : decide ((t.length : Int) ≤ x) = true := by simpa using c3
          clear c1 c3
          go_wp2_with fail
          go_quiet (fail)
          go_wp2_with fail
          go_ret
          exact ⟨false, rfl, by simp, below_drewN HB.out _⟩
        · obtain ⟨m, rfl⟩ : ∃ m : Nat, x = (m : Int) := ⟨x.toNat, by omega⟩
          have hm : m < t.length := by omega
          have d2 : decide (t.length ≤ m) = false := decide_eq_false (by omega)
          obtain ⟨b', o', rfl, hbB', hn⟩ := (HH.out.up HB.out).at_ (by omega)
          have f1 := (hn m hm).1
          have HG : Hid ((t.getD m default).kind = t[m].kind) := by rw [Hid, getD_at hm]
          obtain ⟨kd, hkd⟩ : ∃ kd, kd = t[m].kind := ⟨_, rfl⟩
          rw [← hkd] at f1 HG
          clear hn hkd c1 c3
          by_cases e : kd = 3
          · subst e
            have hce : k ≤ c2 := by omega
            have HPl : Hid (∀ W, Below w.heap.size w W → Calls Try.prog 69 #[.slice (some ⟨b, o, none⟩) k c2, .int .i64 (m : Int)] W fun e w' => e = .returned (.bool (decide ((m : Int) ∈ l.take k))) ∧ W = w') := by
              intro W hW
              have hrow : RSl W W.heap.size (some ⟨b, o, none⟩) (ivs (l.take k)) := by
                obtain ⟨b1, o1, e1, hbb, hc⟩ := (HI.out.up hW).row.at_ (by rw [ivs_length]; omega)
                refine .inr ⟨b1, o1, e1, hbb, fun i hi => ?_⟩
                have hi2 : i < (l.take k).length := by rw [ivs_length] at hi; exact hi
                have hi3 : i < l.length := by simp at hi2; omega
                rw [ivs_at hi2, hc i (by rw [ivs_length]; exact hi3), ivs_at hi3, List.getElem_take]
              have := isPlace_any (some ⟨b, o, none⟩) c2 (l.take k) (by simp; omega) (m : Int) W hrow
              rw [List.length_take, Nat.min_eq_left (by omega)] at this
              exact this
            by_cases hin : (m : Int) ∈ l.take k
            · rw [decide_eq_true hin] at HPl
              clear hin
              go_wp2_with fail
              go_quiet ((go_at_call 69; exact quiet_left (HPl.out _ (below_drewN HB.out _))))
              go_wp2_with fail
              go_ret
              exact ⟨false, rfl, by simp, below_drewN HB.out _⟩
            · have HNin := Lib.hid hin
              rw [decide_eq_false hin] at HPl
              have HS : Hid (ElSeen t l (k + 1)) := by
                intro i hi hik
                by_cases e2 : i = k
                · subst e2
                  rw [← HX.out]
                  refine ⟨by omega, by omega, ?_, HNin.out⟩
                  rw [Int.toNat_natCast]; exact HG.out
                · exact hseen.out i hi (by omega)
              clear hin
              go_wp2_with fail
              go_quiet ((go_at_call 69; exact quiet_left (HPl.out _ (below_drewN HB.out _))))
              go_wp2_with fail
              go_roundw
              case rel => exact ⟨k + 1, by omega, by go_num, HS, below_drewN HB.out _⟩
              case measure => simp [intOf]; omega
          · have z1 : (kd == 3) = false := beq_eq_false_iff_ne.2 e
            have z2 : (kd != 3) = true := by simp [e]
            clear e
            go_wp2_with fail
            go_quiet (fail)
            go_wp2_with fail
            go_ret
            exact ⟨false, rfl, by simp, below_drewN HB.out _⟩
    · go_wp2_with fail
      go_ret
      refine ⟨true, rfl, fun _ => elSeen_all ?_, HB.out⟩
      intro i hi hi2
      exact hseen.out i hi (by omega)

set_option maxRecDepth 100000 in
set_option maxHeartbeats 1000000 in
theorem rising_any (a : Option Addr) (c : Nat) (t : List Nd) (hf : fits1 t = true) (a2 : Option Addr) (c2 : Nat) (l : List Int) (hl : l.length ≤ 2147483647) (hc2 : l.length ≤ c2) (w : World) (h : NSl w w.heap.size a t) (hi : ISl w w.heap.size a2 l) :
    Calls Try.prog 46 #[.slice a t.length c, .slice a2 l.length c2] w (SelPost t l w) := by
  have HH := Lib.hid h
  have HI := Lib.hid hi
  clear h hi
  go_enter Try.func46, Try.ntmps46
  go_wp2_with fail
  refine (right_any _ _ t _ HH.out hf).mono ?_
  rintro e w1 ⟨b, rfl, hR, hb1⟩
  have HB1 := Lib.hid hb1
  clear hb1
  cases b
  · clear hR
    go_wp2_with fail
    go_ret
    exact ⟨false, rfl, by simp, HB1.out⟩
  have HR := Lib.hid (hR rfl)
  clear hR
  go_wp2_with fail
  refine (order_any _ _ _ _ _ l HR.out.le hl _ (HI.out.up HB1.out)).mono ?_
  rintro e w2 ⟨b, q, rfl, ho, rfl⟩
  have HB2 : Hid (Below w.heap.size w (w1.drewN q)) := below_drewN HB1.out q
  cases b
  · clear ho
    go_wp2_with fail
    go_ret
    exact ⟨false, rfl, by simp, HB2.out⟩
  obtain ⟨ns, ho⟩ := ho rfl
  have HO := Lib.hid ho
  clear ho
  go_wp2_with fail
  refine (elements_any _ _ t HR.out.le _ _ l hl hc2 _ (HH.out.up HB2.out) (HI.out.up HB2.out)).mono ?_
  rintro e w3 ⟨b, rfl, he, hb3⟩
  have HE := Lib.hid he
  have HB3 := Lib.hid (bnext HB2.out hb3)
  clear he hb3
  go_wp2_with fail
  go_ret
  refine ⟨b, rfl, fun hb => ?_, HB3.out⟩
  obtain ⟨ms, hm⟩ := HE.out hb
  have hnm : ns = ms := toI_inj (by rw [← HO.out.toI, ← hm.eq])
  exact ⟨ns, HR.out, HO.out, by rw [hnm]; exact hm.kind⟩
end Go.Proofs.Ytgilbckfkngaiaa
