/- The reference's look at a tree: sizes. -/
import Derived.Test.YtjebadadimejpaaDoorT1
namespace Go.Proofs.YtjebadadimejpaaDoor
open Go.RowKit

/-- How many nodes the node at a place is, with all beneath it (0 where Go's number is below 0). -/
def sz (t : List Nd) (i : Nat) : Nat := (t.getD i default).size.toNat

/-- From lo up to hi the sizes are those of trees, one within the other. -/
def Lam (t : List Nd) (lo hi : Nat) : Prop :=
  ∀ i, lo ≤ i → i < hi → (t.getD i default).size = (sz t i : Int) ∧ 1 ≤ sz t i ∧ i + sz t i ≤ hi ∧ ∀ j, i < j → j < i + sz t i → j + sz t j ≤ i + sz t i

theorem Lam.empty (t : List Nd) (lo : Nat) : Lam t lo lo := fun i h1 h2 => by omega

theorem Lam.snoc {t : List Nd} {lo k : Nat} (h : Lam t lo k) (h2 : Lam t k (k + sz t k)) : Lam t lo (k + sz t k) := by
  intro i hi hk
  by_cases e : i < k
  · obtain ⟨a, b, c, d⟩ := h i hi e
    exact ⟨a, b, by omega, d⟩
  · exact h2 i (by omega) hk

theorem Lam.node {t : List Nd} {i : Nat} (hs : (t.getD i default).size = (sz t i : Int)) (h1 : 1 ≤ sz t i) (h : Lam t (i + 1) (i + sz t i)) : Lam t i (i + sz t i) := by
  intro j hj hk
  by_cases e : j = i
  · subst e
    exact ⟨hs, h1, Nat.le_refl _, fun m hm hm2 => (h m hm hm2).2.2.1⟩
  · exact h j (by omega) hk

structure SizedP (t : List Nd) (i en : Nat) : Prop where
  pos : 1 ≤ sz t i
  top : i + sz t i ≤ en
  lam : Lam t i (i + sz t i)

def SomeB (P : Bool → Prop) (w : World) (e : Ending) (w' : World) : Prop := ∃ b, e = .returned (.bool b) ∧ P b ∧ w = w'

set_option maxHeartbeats 1000000 in
theorem sized_any (a : Option Addr) (c : Nat) (t : List Nd) (ht : t.length ≤ 200) (deep : Nat) : ∀ (i en : Nat) (I E D : Int) (w : World), I = i → E = en → D = deep → NSl w w.heap.size a t → i < t.length → en ≤ t.length → i ≤ en → deep ≤ 40 →
    Calls Tryd.prog 12 #[.slice a t.length c, .int .i64 I, .int .i64 E, .int .i64 D] w (SomeB (fun b => b = true → SizedP t i en) w) := by
  induction deep with
  | zero =>
    rintro i en I E D w rfl rfl rfl h hi hen hie _
    obtain ⟨b, o, rfl, hbB, hc⟩ := h.at_ (by omega)
    obtain ⟨h1, h2, h3, h4, h5, hok⟩ := hc i hi
    clear hc h
    go_enter Tryd.func12, Tryd.ntmps12
    go_wp2_with fail
    go_ret
    exact ⟨false, rfl, by simp, rfl⟩
  | succ d ih =>
    rintro i en I E D w rfl rfl rfl h hi hen hie hd
    have HI := Lib.hid ih
    have HH := Lib.hid h
    obtain ⟨b, o, rfl, hbB, hc⟩ := h.at_ (by omega)
    obtain ⟨h1, h2, h3, h4, h5, hok⟩ := hc i hi
    have hr := hok.size
    have HC := Lib.hid hc
    clear hc h ih hok h1 h2 h3 h4
    obtain ⟨s, hs⟩ : ∃ s : Int, s = t[i].size := ⟨_, rfl⟩
    rw [← hs] at h5 hr
    have HS := Lib.hid hs
    clear hs
    by_cases c1 : s < 1
    · go_enter Tryd.func12, Tryd.ntmps12
      go_wp2_with fail
      go_ret
      exact ⟨false, rfl, by simp, rfl⟩
    · by_cases c2 : (en : Int) - i < s
      · go_enter Tryd.func12, Tryd.ntmps12
        go_wp2_with fail
        go_ret
        exact ⟨false, rfl, by simp, rfl⟩
      · obtain ⟨n, rfl⟩ : ∃ n : Nat, s = (n : Int) := ⟨s.toNat, by omega⟩
        have hsz : sz t i = n := by
          unfold sz
          rw [List.getD_eq_getElem?_getD, List.getElem?_eq_getElem hi, Option.getD_some, ← HS.out]
          simp
        have HZ := Lib.hid hsz
        clear hsz
        go_enter Tryd.func12, Tryd.ntmps12
        go_wp2_with fail
        go_loopw [10] (fun x wr => ∃ k : Nat, i + 1 ≤ k ∧ k ≤ i + n ∧ x = .int .i64 k ∧ Lam t (i + 1) k ∧ w = wr) (fun x _ => i + n - (intOf x).toNat)
        case atStart => exact ⟨i + 1, by omega, by omega, by go_num, Lam.empty _ _, rfl⟩
        case round =>
          obtain ⟨k, hk1, hk2, rfl, hlam, rfl⟩ := hrel
          have HL := Lib.hid hlam
          clear hlam
          by_cases hlt : k < i + n
          · have hkt : k < t.length := by omega
            obtain ⟨-, -, -, -, g5, hok⟩ := HC.out k hkt
            have hkr := hok.size
            clear hok
            go_wp2_with fail
            refine (HI.out k (i + n) _ _ _ _ (by omega) (by omega) (by omega) HH.out hkt (by omega) (by omega) (by omega)).mono ?_
            rintro e w1 ⟨r, rfl, hr2, rfl⟩
            cases r
            · go_wp2_with fail
              go_ret
              exact ⟨false, rfl, by simp, rfl⟩
            · have hP := hr2 rfl
              have hl := hP.lam k (Nat.le_refl _) (by have := hP.pos; omega)
              have hkz : t[k].size = (sz t k : Int) := by
                have := hl.1
                rw [List.getD_eq_getElem?_getD, List.getElem?_eq_getElem hkt, Option.getD_some] at this
                exact this
              rw [hkz] at g5
              have hp1 := hP.pos
              have hp2 := hP.top
              have HP := Lib.hid hP
              clear hr2 hP hl hkz hkr
              go_wp2_with fail
              go_roundw
              case rel => exact ⟨k + sz t k, by omega, by omega, by go_num, HL.out.snoc HP.out.lam, by trivial⟩
              case measure => simp [intOf]; omega
          · go_wp2_with fail
            go_ret
            refine ⟨true, rfl, fun _ => ?_, rfl⟩
            have e : k = i + n := by omega
            subst e
            have hs : (t.getD i default).size = (sz t i : Int) := by
              rw [HZ.out, List.getD_eq_getElem?_getD, List.getElem?_eq_getElem hi, Option.getD_some, ← HS.out]
            refine ⟨by rw [HZ.out]; omega, by rw [HZ.out]; omega, Lam.node hs (by rw [HZ.out]; omega) ?_⟩
            rw [HZ.out]
            exact HL.out
end Go.Proofs.YtjebadadimejpaaDoor
