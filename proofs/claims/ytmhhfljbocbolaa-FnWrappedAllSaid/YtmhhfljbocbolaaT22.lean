/- Selections: how one is made of a tree. -/
import Derived.Test.YtmhhfljbocbolaaT21
import Derived.LaidEqlPtr
namespace Go.Proofs.Ytmhhfljbocbolaa
open Go.RowKit
set_option linter.unusedVariables false

/-- A selection in memory: its nodes, its document, where it comes from. -/
def SelB (w : World) (g : Nat) (a : Option Addr) (n c : Nat) (doc prev : Option Addr) : Prop := w.heap[g]? = some (.cells #[.slice a n c, .pointer doc, .pointer prev] 83 (0, 0))

theorem SelB.below {w w' : World} {B g : Nat} {a : Option Addr} {n c : Nat} {doc prev : Option Addr} (h : SelB w g a n c doc prev) (hb : Below B w w') (hg : g < B) : SelB w' g a n c doc prev := (hb.block g hg).trans h
theorem SelB.cells {w : World} {g : Nat} {a : Option Addr} {n c : Nat} {doc prev : Option Addr} (h : SelB w g a n c doc prev) : w.cell? ⟨g, 0, none⟩ = some (.slice a n c) ∧ w.cell? ⟨g, 1, none⟩ = some (.pointer doc) ∧ w.cell? ⟨g, 2, none⟩ = some (.pointer prev) := by
  refine ⟨?_, ?_, ?_⟩
  all_goals (rw [cell_of_row w g _ _ _ _ h]; rfl)
theorem SelB.lt {w : World} {g : Nat} {a : Option Addr} {n c : Nat} {doc prev : Option Addr} (h : SelB w g a n c doc prev) : g < w.heap.size := (Array.getElem?_eq_some_iff.1 h).1

theorem new_third (w : World) (o1 o2 o3 : Obj) : (((w.alloc o1).alloc o2).alloc o3).heap[w.heap.size + 2]? = some o3 := by
  have := heap_alloc_new ((w.alloc o1).alloc o2) o3
  simpa using this

def DocPost (w : World) (e : Ending) (w' : World) : Prop :=
  ∃ gd gs gn, e = .returned (.pointer (some ⟨gd, 0, none⟩)) ∧ w'.cell? ⟨gd, 0, none⟩ = some (.pointer (some ⟨gs, 0, none⟩)) ∧ SelB w' gs (some ⟨gn, 0, none⟩) 1 1 (some ⟨gd, 0, none⟩) none ∧ Below w.heap.size w w'

set_option maxRecDepth 100000 in
set_option maxHeartbeats 1000000 in
theorem newDoc_any (p : Addr) (w : World) : Calls Try.prog 79 #[.pointer (some p)] w (DocPost w) := by
  go_enter Try.func79, Try.ntmps79
  go_wp2_with (first | go_in | fail)
  go_ret
  refine ⟨w.heap.size, w.heap.size + 2, w.heap.size + 1, rfl, ?_, ?_, ?_⟩
  · rw [World.cell?_alloc_lt _ _ _ (by simp; omega), World.cell?_alloc_lt _ _ _ (by simp), World.cell?_alloc_mark]
    rfl
  · exact new_third w _ _ _
  · exact (((Below.refl _ _).alloc (Nat.le_refl _) _).alloc (by simp) _).alloc (by simp; omega) _

set_option maxRecDepth 100000 in
set_option maxHeartbeats 1000000 in
theorem eq1_any (gs gn gd : Nat) (w : World) (h : SelB w gs (some ⟨gn, 0, none⟩) 1 1 (some ⟨gd, 0, none⟩) none) :
    Calls Try.prog 80 #[.pointer (some ⟨gs, 0, none⟩), .int .i64 1] w fun e w' => e = .returned (.pointer (some ⟨w.heap.size, 0, none⟩)) ∧ SelB w' w.heap.size none 0 0 (some ⟨gd, 0, none⟩) none ∧ Below w.heap.size w w' := by
  obtain ⟨c0, c1, c2⟩ := h.cells
  clear h
  go_enter Try.func80, Try.ntmps80
  go_wp2_with (first | go_in | fail)
  go_ret
  exact ⟨rfl, heap_alloc_new w _, (Below.refl _ _).alloc (Nat.le_refl _) _⟩

theorem Try.infoN : (Try.prog.info? 89).map (fun i => i.size) = some 10 := by kernel_rfl

theorem ptr_same (i : Nat) (bl : Nat → Nat) (w : World) : (binOp .eql 69 (.pointer (some ⟨bl i, 0, none⟩)) (.pointer (some ⟨bl i, 0, none⟩))).run Try.prog w = .ok (.bool true) w := by
  obtain ⟨j, hj, _⟩ := Option.map_eq_some_iff.1 Try.infoN
  exact run_eql_ptr_same w ⟨bl i, 0, none⟩ Try.underlying69 hj

theorem ptr_other {i k : Nat} (bl : Nat → Nat) (w : World) (hne : bl k ≠ bl i) (h1 : ∃ cs, w.heap[bl k]? = some (.cells cs 89 (0, 0)) ∧ cs.size = 10) (h2 : ∃ cs, w.heap[bl i]? = some (.cells cs 89 (0, 0)) ∧ cs.size = 10) :
    (binOp .eql 69 (.pointer (some ⟨bl k, 0, none⟩)) (.pointer (some ⟨bl i, 0, none⟩))).run Try.prog w = .ok (.bool false) w := by
  obtain ⟨j, hj, hjs⟩ := Option.map_eq_some_iff.1 Try.infoN
  obtain ⟨c1, e1, s1⟩ := h1
  obtain ⟨c2, e2, s2⟩ := h2
  exact run_eql_ptr_other w Try.underlying69 hj (by omega) (fun h => hne (congrArg Addr.block h)) e1 e2

set_option maxRecDepth 100000 in
set_option maxHeartbeats 1000000 in
theorem isIn_any (bl : Nat → Nat) (n : Nat) (hinj : ∀ i j, i < n → j < n → bl i = bl j → i = j) (ns : List Nat) (hns : ∀ k ∈ ns, k < n) (hlen : ns.length ≤ 100000) (i : Nat) (hi : i < n) (a : Option Addr) (c : Nat) (w : World) (h : RSl w w.heap.size a (ptrs bl ns)) (hblk : ∀ i, i < n → ∃ cs, w.heap[bl i]? = some (.cells cs 89 (0, 0)) ∧ cs.size = 10) :
    Calls Try.prog 110 #[.slice a ns.length c, .pointer (some ⟨bl i, 0, none⟩)] w fun e w' => e = .returned (.bool (decide (i ∈ ns))) ∧ w = w' := by
  have HH := Lib.hid h
  have HI := Lib.hid hinj
  have HN := Lib.hid hns
  have HBlk := Lib.hid hblk
  clear h hinj hns hblk
  have key : Calls Try.prog 114 #[.slice a ns.length c, .pointer (some ⟨bl i, 0, none⟩)] w fun e w' => (∃ k : Nat, e = .returned (.int .i64 (if i ∈ ns then (k : Int) else -1)) ∧ k ≤ 100000) ∧ w = w' := by
    go_enter Try.func114, Try.ntmps114
    go_wp2_with fail
    go_loopw [11] (fun x wr => ∃ k : Nat, k ≤ ns.length ∧ x = .int .i64 k ∧ Hid (i ∉ ns.take k) ∧ w = wr) (fun x _ => ns.length - (intOf x).toNat)
    case atStart => exact ⟨0, by omega, rfl, by simp [Hid], rfl⟩
    case round =>
      obtain ⟨k, hk, rfl, hno, rfl⟩ := hrel
      by_cases hlt : k < ns.length
      · obtain ⟨b, o, rfl, hbB, hc⟩ := HH.out.at_ (by rw [ptrs_length]; omega)
        have g1 := hc k (by rw [ptrs_length]; exact hlt)
        rw [ptrs_at hlt] at g1
        clear hc
        by_cases e : ns[k] = i
        · have HE : Hid (i ∈ ns) := by rw [Hid, ← e]; exact List.getElem_mem hlt
          rw [e] at g1
          clear e
          have heq := ptr_same i bl w
          go_wp2_with fail
          go_ret
          exact ⟨⟨k, rfl, by omega⟩, rfl⟩
        · have hne : bl ns[k] ≠ bl i := fun h2 => e (HI.out _ _ (HN.out _ (List.getElem_mem hlt)) hi h2)
          have HT : Hid (i ∉ ns.take (k + 1)) := by
            rw [Hid, List.take_succ_eq_append_getElem hlt, List.mem_append, List.mem_singleton]
            rintro (h2 | h2)
            · exact hno.out h2
            · exact e h2.symm
          clear e
          have heq := ptr_other bl w hne (HBlk.out _ (HN.out _ (List.getElem_mem hlt))) (HBlk.out _ hi)
          obtain ⟨bk, hbk⟩ : ∃ bk, bk = bl ns[k] := ⟨_, rfl⟩
          rw [← hbk] at g1 hne heq
          clear hbk
          go_wp2_with fail
          go_roundw
          case rel => exact ⟨k + 1, by omega, by go_num, HT, by trivial⟩
          case measure => simp [intOf]; omega
      · have HE : Hid (i ∉ ns) := by
          have e : k = ns.length := by omega
          have := hno.out
          rw [e, List.take_length] at this
          exact this
        go_wp2_with fail
        go_ret
        exact ⟨⟨rfl, 0, by omega⟩, rfl⟩
  have HKey := Lib.hid key
  clear key
  go_enter Try.func110, Try.ntmps110
  go_wp2_with fail
  refine HKey.out.mono ?_
  rintro e w1 ⟨⟨k, rfl, hk⟩, rfl⟩
  by_cases hm : i ∈ ns
  · rw [if_pos hm]
    have HM := Lib.hid hm
    clear hm
    go_wp2_with fail
    go_ret
    exact ⟨ret_b (by simp [HM.out]; omega), rfl⟩
  · rw [if_neg hm]
    have HM := Lib.hid hm
    clear hm
    go_wp2_with fail
    go_ret
    exact ⟨ret_b (by simp [HM.out]), rfl⟩
end Go.Proofs.Ytmhhfljbocbolaa
