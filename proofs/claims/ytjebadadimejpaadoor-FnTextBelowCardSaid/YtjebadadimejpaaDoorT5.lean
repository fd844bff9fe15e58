/- The reference's look at a node: its attributes, what its kind says, and the whole tree. -/
import Derived.Test.YtjebadadimejpaaDoorT3
import Derived.Test.YtjebadadimejpaaDoorT4
import Derived.Deep.QuietTactic
import Derived.BigQuiet
namespace Go.Proofs.YtjebadadimejpaaDoor
open Go.RowKit
set_option linter.unusedVariables false

def AnyBB (w : World) (e : Ending) (w' : World) : Prop := ∃ b, e = .returned (.bool b) ∧ Below w.heap.size w w'

/-- A truth value; if it is yes, something is so; at most draws are made. -/
def SomeBD (P : Prop) (w : World) (e : Ending) (w' : World) : Prop := ∃ b n, e = .returned (.bool b) ∧ (b = true → P) ∧ w' = w.drewN n

def keyAt (l : List At2) (i : Nat) : ByteArray := (l.getD i default).key

structure AttrsP (l : List At2) : Prop where
  len : l.length ≤ 20
  once : ∀ i j, i < j → j < l.length → keyAt l i ≠ keyAt l j

set_option maxRecDepth 100000 in
set_option maxHeartbeats 1000000 in
theorem rightAttrs_any (a : Option Addr) (c : Nat) (l : List At2) (w : World) (h : ASl w w.heap.size a l) (hf : fits3 l = true) :
    Calls Tryd.prog 23 #[.slice a l.length c] w (SomeBD (AttrsP l) w) := by
  obtain ⟨hm, hs, hr⟩ := h
  have hfit : ∀ i (h : i < l.length), l[i].key.size ≤ 2147483647 ∧ l[i].val.size ≤ 2147483647 := by
    intro i hi
    simp only [fits3, Bool.and_eq_true, List.all_eq_true] at hf
    have := hf.2 l[i] (List.getElem_mem hi)
    simpa [fits4] using this
  unfold maxLen at hm
  have HF := Lib.hid hfit
  clear hs hf hfit
  by_cases h0 : 20 < l.length
  · go_enter Tryd.func23, Tryd.ntmps23
    go_wp2_with fail
    go_ret
    exact ⟨false, 0, rfl, by simp, rfl⟩
  · have HR := Lib.hid hr
    clear hr
    go_enter Tryd.func23, Tryd.ntmps23
    go_wp2_with fail
    go_loopw [3, 4] (fun x y wr => ∃ (k n : Nat), k ≤ l.length ∧ x = .int .i64 k ∧ Hid (∀ i j, i < j → j < k → keyAt l i ≠ keyAt l j) ∧ wr = w.drewN n) (fun x _ _ => l.length - (intOf x).toNat)
    case atStart => exact ⟨0, 0, by omega, rfl, (fun _ _ _ h => by omega), rfl⟩
    case round =>
      obtain ⟨k, n, hk, rfl, hold, rfl⟩ := hrel
      by_cases hlt : k < l.length
      · rcases HR.out with hz | ⟨b, o, rfl, hbB, hc⟩
        · subst hz; simp at hlt
        · have HC := Lib.hid hc
          have g1 := (hc k hlt).1
          have g2 := (hc k hlt).2
          clear hc
          go_wp2_with fail
          refine (name_any _ _ (HF.out k hlt).1).mono ?_
          rintro e w1 ⟨r1, rfl, rfl⟩
          cases r1
          · go_wp2_with fail
            go_ret
            exact ⟨false, n, rfl, by simp, rfl⟩
          · go_wp2_with fail
            refine (plain_any _ _ (HF.out k hlt).2).mono ?_
            rintro e w1 ⟨r2, rfl, rfl⟩
            cases r2
            · go_wp2_with fail
              go_ret
              exact ⟨false, n, rfl, by simp, rfl⟩
            · go_wp2_with fail
              go_loopw [4] (fun y wr => ∃ (m q : Nat), m ≤ k ∧ y = .int .i64 m ∧ Hid (∀ i, i < m → keyAt l i ≠ keyAt l k) ∧ wr = w.drewN q) (fun y _ => k - (intOf y).toNat)
              case atStart => exact ⟨0, n, by omega, rfl, (fun _ h => by omega), rfl⟩
              case round =>
                obtain ⟨m, q, hm, rfl, hin, rfl⟩ := hrel
                by_cases hmk : m < k
                · have g3 := (HC.out m (by omega)).1
                  go_wp2_with fail
                  go_quiet (fail)
                  go_wp2_with fail
                  · go_ret
                    exact ⟨false, _, rfl, by simp, by rw [World.drewN_drewN]⟩
                  · have hne : ((l[m]?.getD default).key.toList == l[k].key.toList) = false := by assumption
                    go_roundw
                    case rel =>
                      refine ⟨m + 1, _, by omega, by go_num, (fun i hi => ?_), rfl⟩
                      by_cases e : i = m
                      · subst e
                        intro hk2
                        simp only [keyAt, List.getD_eq_getElem?_getD, List.getElem?_eq_getElem hlt, Option.getD_some] at hk2
                        rw [hk2] at hne
                        simp at hne
                      · exact hin.out i (by omega)
                    case measure => simp [intOf]; omega
                · go_wp2_with fail
                  go_roundw
                  case rel =>
                    refine ⟨k + 1, q, by omega, by go_num, (fun i j hij hjk => ?_), rfl⟩
                    by_cases e : j = k
                    · subst e
                      exact hin.out i (by omega)
                    · exact hold.out i j hij (by omega)
                  case measure => simp [intOf]; omega
      · go_wp2_with fail
        go_ret
        have e : k = l.length := by omega
        subst e
        exact ⟨true, n, rfl, fun _ => ⟨by omega, hold.out⟩, rfl⟩

theorem kidsFrom_lt (t : List Nd) (e : Nat) : ∀ (f k : Nat), ∀ x ∈ kidsFrom t f k e, k ≤ x ∧ x < e := by
  intro f
  induction f with
  | zero => intro k x hx; simp [kidsFrom] at hx
  | succ f ih =>
    intro k x hx
    simp only [kidsFrom] at hx
    by_cases hk : k < e
    · rw [if_pos hk] at hx
      rcases List.mem_cons.1 hx with rfl | hx
      · omega
      · have := ih _ x hx; omega
    · rw [if_neg hk] at hx; simp at hx

theorem kidsFrom_len (t : List Nd) (e : Nat) : ∀ (f k : Nat), (kidsFrom t f k e).length ≤ f := by
  intro f
  induction f with
  | zero => intro k; simp [kidsFrom]
  | succ f ih =>
    intro k
    simp only [kidsFrom]
    by_cases hk : k < e
    · rw [if_pos hk, List.length_cons]; have := ih (k + sz t k); omega
    · rw [if_neg hk]; simp

theorem kidsL_lt {t : List Nd} (_hl : Lam t 0 t.length) (h1 : sz t 0 = t.length) : ∀ k ∈ kidsL t 0, k < t.length := by
  intro k hk
  have := kidsFrom_lt t _ _ _ k hk
  omega

theorem kidsL_len {t : List Nd} (_hl : Lam t 0 t.length) (h1 : sz t 0 = t.length) : (kidsL t 0).length ≤ t.length := by
  have := kidsFrom_len t (0 + sz t 0) (sz t 0) (0 + 1)
  unfold kidsL; omega

set_option maxRecDepth 100000 in
set_option maxHeartbeats 1000000 in
theorem rightRoot_any (a : Option Addr) (c : Nat) (t : List Nd) (ht : t.length ≤ 200) (w : World) (h : NSl w w.heap.size a t) (h0 : 0 < t.length) (hl : Lam t 0 t.length) (h1 : sz t 0 = t.length) :
    Calls Tryd.prog 20 #[.slice a t.length c] w (AnyBB w) := by
  have hkid : ∀ k ∈ kidsL t 0, k < t.length := kidsL_lt hl h1
  have HK := Lib.hid hkid
  have HH := Lib.hid h
  clear hkid h
  go_enter Tryd.func20, Tryd.ntmps20
  go_wp2_with fail
  refine (kids_any _ _ t ht 0 0 rfl _ HH.out h0 (by rw [h1]; simpa using hl) (by omega) (by omega)).mono ?_
  rintro e w1 ⟨la, lc, rfl, hrs, hb⟩
  have hn : NSl w1 w.heap.size a t := HH.out.below hb
  have hlen : (kidsL t 0).length ≤ 1000 := by have := kidsL_len hl h1; omega
  obtain ⟨K, hK⟩ : ∃ K, K = kidsL t 0 := ⟨_, rfl⟩
  rw [← hK] at hrs hlen HK ⊢
  have HE := Lib.hid hK
  clear hK
  go_wp2_with fail
  go_loopw [4, 5] (fun x y wr => ∃ (s : Bool) (m : Nat), m ≤ K.length ∧ x = .bool s ∧ y = .int .i64 m ∧ w1 = wr) (fun _ y _ => K.length - (intOf y).toNat)
  case atStart => exact ⟨false, 0, by omega, rfl, rfl, rfl⟩
  case round =>
    obtain ⟨s, m, hm, rfl, rfl, rfl⟩ := hrel
    by_cases hlt : m < K.length
    · obtain ⟨lb, lo, rfl, hlb, hcell⟩ := hrs.at_ (by rw [ints_length]; omega)
      have g1 := hcell m (by rw [ints_length]; exact hlt)
      have e1 : (ints K)[m]'(by rw [ints_length]; exact hlt) = .int .i64 (K[m] : Int) := by simp [ints]
      rw [e1] at g1
      clear hcell e1
      have hkm := HK.out K[m] (List.getElem_mem hlt)
      obtain ⟨b, o, rfl, hbB, hc⟩ := hn.at_ (by omega)
      obtain ⟨f1, -, -, -, -, -⟩ := hc K[m] hkm
      clear hc hn
      obtain ⟨q, hq⟩ : ∃ q, q = K[m] := ⟨_, rfl⟩
      obtain ⟨kd, hkd⟩ : ∃ kd, kd = t[K[m]].kind := ⟨_, rfl⟩
      rw [← hkd] at f1
      rw [← hq] at g1 f1 hkm
      clear hkd hq HK
      by_cases k4 : kd = 4
      · have z4 : (kd == 4) = true := beq_iff_eq.2 k4
        clear k4
        go_wp2_with fail
        go_ret
        exact ⟨false, rfl, hb⟩
      · have z4 : (kd == 4) = false := beq_eq_false_iff_ne.2 k4
        by_cases k2 : kd = 2
        · have z2 : (kd == 2) = true := beq_iff_eq.2 k2
          clear k2 k4
          cases s
          · go_wp2_with fail
            go_roundw
            case rel => exact ⟨true, m + 1, by omega, rfl, by go_num, by trivial⟩
            case measure => simp [intOf]; omega
          · go_wp2_with fail
            go_ret
            exact ⟨false, rfl, hb⟩
        · have z2 : (kd == 2) = false := beq_eq_false_iff_ne.2 k2
          by_cases k3 : kd = 3
          · have z3 : (kd == 3) = true := beq_iff_eq.2 k3
            clear k2 k3 k4
            cases s
            · go_wp2_with fail
              go_roundw
              case rel => exact ⟨true, m + 1, by omega, rfl, by go_num, by trivial⟩
              case measure => simp [intOf]; omega
            · go_wp2_with fail
              go_roundw
              case rel => exact ⟨true, m + 1, by omega, rfl, by go_num, by trivial⟩
              case measure => simp [intOf]; omega
          · have z3 : (kd == 3) = false := beq_eq_false_iff_ne.2 k3
            clear k2 k3 k4
            go_wp2_with fail
            go_roundw
            case rel => exact ⟨s, m + 1, by omega, rfl, by go_num, by trivial⟩
            case measure => simp [intOf]; omega
    · go_wp2_with fail
      go_ret
      exact ⟨true, rfl, hb⟩
end Go.Proofs.YtjebadadimejpaaDoor
