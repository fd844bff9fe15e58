/- Those of some nodes that are not among others: the reference's and the program's. -/
import Derived.Test.YtgilbckfkngaiaaT32
namespace Go.Proofs.Ytgilbckfkngaiaa
open Go.RowKit
set_option linter.unusedVariables false

/-- Places of elements of a right tree, ascending. -/
structure SelP (t : List Nd) (l : List Int) (ns : List Nat) : Prop where
  right : RightP t
  ord : OrdP t.length l ns
  kind : ∀ k ∈ ns, (t.getD k default).kind = 3

def SelPost (t : List Nd) (l : List Int) (w : World) (e : Ending) (w' : World) : Prop := ∃ b, e = .returned (.bool b) ∧ (b = true → ∃ ns, SelP t l ns) ∧ Below w.heap.size w w'

set_option maxRecDepth 100000 in
set_option maxHeartbeats 1000000 in
theorem selection_any (a : Option Addr) (c : Nat) (t : List Nd) (hf : fits1 t = true) (a2 : Option Addr) (c2 : Nat) (l : List Int) (hl : l.length ≤ 2147483647) (w : World) (h : NSl w w.heap.size a t) (hi : ISl w w.heap.size a2 l) :
    Calls Try.prog 34 #[.slice a t.length c, .slice a2 l.length c2] w (SelPost t l w) := by
  have HH := Lib.hid h
  have HI := Lib.hid hi
  clear h hi
  go_enter Try.func34, Try.ntmps34
  go_wp2_with fail
  refine (right_any _ _ t _ HH.out hf).mono ?_
  rintro e w1 ⟨b, rfl, hR, hb1⟩
  have HB1 := Lib.hid hb1
  clear hb1
  cases b
  · clear hR
    go_wp2_with fail
    go_ret
    exact ⟨false, rfl, by simp, HB1.out⟩
  have HR := Lib.hid (hR rfl)
  clear hR
  go_wp2_with fail
  refine (order_any _ _ _ _ _ l HR.out.le hl _ (HI.out.up HB1.out)).mono ?_
  rintro e w2 ⟨b, q, rfl, ho, rfl⟩
  have HB2 : Hid (Below w.heap.size w (w1.drewN q)) := below_drewN HB1.out q
  cases b
  · clear ho
    go_wp2_with fail
    go_ret
    exact ⟨false, rfl, by simp, HB2.out⟩
  obtain ⟨ns, ho⟩ := ho rfl
  have HO := Lib.hid ho
  clear ho
  go_wp2_with fail
  obtain ⟨W, hW⟩ : ∃ W, W = w1.drewN q := ⟨_, rfl⟩
  rw [← hW] at HB2 ⊢
  clear hW
  go_loopw [5] (fun x wr => ∃ k : Nat, k ≤ l.length ∧ x = .int .i64 k ∧ Hid (∀ i (h : i < ns.length), i < k → (t.getD ns[i] default).kind = 3) ∧ W = wr) (fun x _ => l.length - (intOf x).toNat)
  case atStart => exact ⟨0, by omega, rfl, (fun i _ h => by omega), rfl⟩
  case round =>
    obtain ⟨k, hk, rfl, hkind, rfl⟩ := hrel
    by_cases hlt : k < l.length
    · have hln : k < ns.length := by have := HO.out.length; omega
      obtain ⟨b, o, rfl, hbB, hc⟩ := (HI.out.up HB2.out).at_ (by omega)
      have g1 := hc k hlt
      have hx : l[k] = (ns[k] : Int) := by
        have := HO.out.eq
        subst this
        simp
      rw [hx] at g1
      have hi := HO.out.lt ns[k] (List.getElem_mem hln)
      obtain ⟨b', o', rfl, hbB', hn⟩ := (HH.out.up HB2.out).at_ (by omega)
      have f1 := (hn ns[k] hi).1
      have hgd : (t.getD ns[k] default).kind = t[ns[k]].kind := by rw [getD_at hi]
      obtain ⟨kd, hkd⟩ : ∃ kd, kd = t[ns[k]].kind := ⟨_, rfl⟩
      rw [← hkd] at f1 hgd
      obtain ⟨j, hj⟩ : ∃ j, j = ns[k] := ⟨_, rfl⟩
      rw [← hj] at g1 f1 hgd hi
      have HJ := Lib.hid hj
      clear hc hx hn hkd hj
      have HG := Lib.hid hgd
      clear hgd
      by_cases e : kd = 3
      · subst e
        have HK : Hid (∀ i (h : i < ns.length), i < k + 1 → (t.getD ns[i] default).kind = 3) := by
          intro i h hi
          by_cases e2 : i = k
          · subst e2; rw [← HJ.out]; exact HG.out
          · exact hkind.out i h (by omega)
        go_wp2_with fail
        go_roundw
        case rel => exact ⟨k + 1, by omega, by go_num, HK, by trivial⟩
        case measure => simp [intOf]; omega
      · have z1 : (kd == 3) = false := beq_eq_false_iff_ne.2 e
        have z2 : (kd != 3) = true := by simp [e]
        clear e
        go_wp2_with fail
        go_ret
        exact ⟨false, rfl, by simp, HB2.out⟩
    · go_wp2_with fail
      go_ret
      refine ⟨true, rfl, fun _ => ⟨ns, HR.out, HO.out, fun m hm => ?_⟩, HB2.out⟩
      obtain ⟨i, hi, rfl⟩ := List.getElem_of_mem hm
      exact hkind.out i hi (by have := HO.out.length; omega)

def SomePost (t : List Nd) (l m : List Int) (w : World) (e : Ending) (w' : World) : Prop := ∃ b, e = .returned (.bool b) ∧ (b = true → (∃ ns, SelP t l ns) ∧ ∃ ms, SelP t m ms) ∧ Below w.heap.size w w'

/-- Those of ns that are among ms, or are not. -/
def thoseN (ns ms : List Nat) (no : Bool) : List Nat := ns.filter fun n => decide (n ∈ ms) != no

theorem thoseN_snoc (ns ms : List Nat) (no : Bool) (i : Nat) : thoseN (ns ++ [i]) ms no = thoseN ns ms no ++ if (decide (i ∈ ms) != no) = true then [i] else [] := by
  unfold thoseN
  rw [List.filter_append]
  congr 1
  rw [List.filter_cons, List.filter_nil]

theorem thoseN_len (ns ms : List Nat) (no : Bool) : (thoseN ns ms no).length ≤ ns.length := List.length_filter_le _ _
theorem thoseN_mem {ns ms : List Nat} {no : Bool} {k : Nat} (h : k ∈ thoseN ns ms no) : k ∈ ns := (List.mem_filter.1 h).1

def ThoseRel (ns ms : List Nat) (no : Bool) (w : World) (v x : Value) (wr : World) : Prop :=
  ∃ (k : Nat) (a : Option Addr) (c : Nat), k ≤ ns.length ∧ x = .int .i64 (k : Nat) ∧ v = .slice a (thoseN (ns.take k) ms no).length c ∧
    wr.ownsRow w.heap.size 3 1 (.slice a (thoseN (ns.take k) ms no).length c) (thoseN (ns.take k) ms no).length (ivs (toI (thoseN (ns.take k) ms no))) ∧ Below w.heap.size w wr

def OwnIPost (l : List Int) (w : World) (e : Ending) (w' : World) : Prop := ∃ v, e = .returned v ∧ OwnI w.heap.size l v w' ∧ Below w.heap.size w w'

end Go.Proofs.Ytgilbckfkngaiaa
