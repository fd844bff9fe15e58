/- FnParts: the reference's parts of a list. (Printed by gen134.py.) -/
import Derived.Test.YtgilbckfkngaiaaGreatT130
import Derived.Test.YtgilbckfkngaiaaGreatT133
import Derived.Test.YtgilbckfkngaiaaGreatT116
namespace Go.Proofs.YtgilbckfkngaiaaGreat
open Go.RowKit
set_option linter.unusedVariables false

/-- A part of a list, if it is sure which one: the program's part of the selection, too. -/
def PdPost (ns : List Nat) (op A B : Int) (w : World) (e : Ending) (w' : World) : Prop :=
  Below w.heap.size w w' ∧ ((∃ v, e = .returned (.tuple #[v, .bool false])) ∨ ∃ (N : List Nat) (a' : Option Addr) (c' : Nat), e = .returned (.tuple #[.slice a' N.length c', .bool true]) ∧ RSl w' w'.heap.size a' (ivs (toI N)) ∧ (∀ m ∈ N, m ∈ ns) ∧ N.length ≤ ns.length ∧ ∀ bl g W, SelR bl ns g W → Parts bl N g op A B W)

theorem pd_no {ns : List Nat} {op A B : Int} {w w' : World} {e : Ending} {v : Value} (hb : Below w.heap.size w w') (he : e = .returned (.tuple #[v, .bool false])) : PdPost ns op A B w e w' := ⟨hb, .inl ⟨v, he⟩⟩
theorem pd_yes {ns : List Nat} {op A B : Int} {w w' : World} {e : Ending} (N : List Nat) {a' : Option Addr} {c' n : Nat} (hn : n = N.length) (hb : Below w.heap.size w w') (hr : RSl w' w'.heap.size a' (ivs (toI N))) (hm : ∀ m ∈ N, m ∈ ns) (hl : N.length ≤ ns.length) (hp : ∀ bl g W, SelR bl ns g W → Parts bl N g op A B W) (he : e = .returned (.tuple #[.slice a' n c', .bool true])) : PdPost ns op A B w e w' := by
  subst hn
  exact ⟨hb, .inr ⟨N, a', c', he, hr, hm, hl, hp⟩⟩

/-- A part of a list lies in memory. -/
theorem rsl_part {w : World} {b o : Nat} {ns : List Nat} (hb : b < w.heap.size) (hc : ∀ i (h : i < (ivs (toI ns)).length), w.cell? ⟨b, o + i, none⟩ = some (ivs (toI ns))[i]) (lo k : Nat) (h : lo + k ≤ ns.length) : RSl w w.heap.size (some ⟨b, o + lo, none⟩) (ivs (toI ((ns.drop lo).take k))) := by
  have := RSl.sub hb hc lo k (by rw [ivs_length, toI_length]; exact h)
  unfold ivs toI at this ⊢
  rw [List.map_take, List.map_drop, List.map_take, List.map_drop]
  exact this
theorem mem_part {ns : List Nat} {lo k : Nat} : ∀ m ∈ (ns.drop lo).take k, m ∈ ns := fun m hm => List.mem_of_mem_drop (List.mem_of_mem_take hm)
theorem len_part {ns : List Nat} {lo k : Nat} : ((ns.drop lo).take k).length ≤ ns.length := by rw [List.length_take, List.length_drop]; omega
theorem rsl_take {w : World} {B : Nat} {a : Option Addr} {ns : List Nat} (h : RSl w B a (ivs (toI ns))) (k : Nat) : RSl w B a (ivs (toI (ns.take k))) := by
  rcases h with h | ⟨b, o, rfl, hb, hc⟩
  · left
    have : ns = [] := by
      apply List.eq_nil_of_length_eq_zero
      have := congrArg List.length h
      rw [ivs_length, toI_length] at this
      exact this
    subst this; simp [ivs, toI]
  · refine .inr ⟨b, o, rfl, hb, fun i hi => ?_⟩
    have hi2 : i < (ns.take k).length := by rw [ivs_length, toI_length] at hi; exact hi
    have hi3 : i < ns.length := by rw [List.length_take] at hi2; omega
    have := hc i (by rw [ivs_length, toI_length]; exact hi3)
    rw [this]
    simp [ivs, toI]
theorem rsl_nil {w : World} {B : Nat} {a : Option Addr} : RSl w B a (ivs (toI [])) := .inl rfl
theorem atMost1_any (a : Option Addr) (c : Nat) (ns : List Nat) (hlen : ns.length ≤ 200) (hc : ns.length ≤ c ∧ True) (w : World) : Calls Tryz.prog 22 #[.slice a ns.length c] w fun e w' => e = .returned (.slice a (min ns.length 1) c) ∧ w = w' := by
  have hc1 := hc.1
  have hc2 := hc.2
  by_cases h0 : ns.length = 0
  · have hm : min ((ns.length : Nat) : Int) 1 = 0 := by omega
    rw [h0]
    rw [h0] at hc1 hm
    clear h0 hc
    go_enter Tryz.func22, Tryz.ntmps22
    go_wp2_with fail
    go_ret
    exact ⟨rfl, rfl⟩
  · by_cases h1 : ns.length = 1
    · rw [h1]
      rw [h1] at hc1
      clear h0 h1 hc
      go_enter Tryz.func22, Tryz.ntmps22
      go_wp2_with fail
      go_ret
      exact ⟨rfl, rfl⟩
    · have hm : min ((ns.length : Nat) : Int) 1 = 1 := by omega
      have hn : ¬ ((ns.length : Nat) : Int) ≤ 1 := by omega
      have HM : Hid (min ns.length 1 = 1) := by rw [Hid]; omega
      have hl1 : 1 ≤ ns.length := by omega
      rw [HM.out]
      clear h0 h1 hc
      go_enter Tryz.func22, Tryz.ntmps22
      go_wp2_with fail
      go_ret
      exact ⟨rfl, rfl⟩

set_option maxRecDepth 100000 in
set_option maxHeartbeats 4000000 in
theorem parted_34 (a : Option Addr) (c : Nat) (ns : List Nat) (hlen : ns.length ≤ 200) (hcap : ns.length ≤ c ∧ True) (A B : Int) (hA : -9223372036854775808 ≤ A ∧ A ≤ 9223372036854775807) (hB : -9223372036854775808 ≤ B ∧ B ≤ 9223372036854775807) (w : World) (h : RSl w w.heap.size a (ivs (toI ns))) :
    Calls Tryz.prog 13 #[.slice a ns.length c, .agg #[.int .i64 34, .string ⟨#[]⟩, .slice none 0 0, .int .i64 A, .int .i64 B]] w (PdPost ns 34 A B w) := by
  obtain ⟨W, hW⟩ : ∃ W, W = w.alloc (.cells #[.int .i64 34, .string ⟨#[]⟩, .slice none 0 0, .int .i64 A, .int .i64 B] 27) := ⟨_, rfl⟩
  have hb0 : Below w.heap.size w W := by rw [hW]; exact (Below.refl _ _).alloc (Nat.le_refl _) _
  have HB0 := Lib.hid hb0
  have p0 : W.cell? ⟨w.heap.size, 0, none⟩ = some (.int .i64 34) := by rw [hW, World.cell?_alloc_mark]; rfl
  have p3 : W.cell? ⟨w.heap.size, 3, none⟩ = some (.int .i64 A) := by rw [hW, World.cell?_alloc_mark]; rfl
  have p4 : W.cell? ⟨w.heap.size, 4, none⟩ = some (.int .i64 B) := by rw [hW, World.cell?_alloc_mark]; rfl
  have HW := Lib.hid hW
  have HH := Lib.hid (h.up hb0)
  have hc1 := hcap.1
  have hc2 := hcap.2
  have hA1 := hA.1
  have hA2 := hA.2
  have hB1 := hB.1
  have hB2 := hB.2
  clear hb0 h hW hcap hA hB
  have HAt := Lib.hid (fun W' => atMost1_any a c ns hlen ⟨hc1, hc2⟩ W')
  go_enter Tryz.func13, Tryz.ntmps13
  go_wp2_with fail
  rw [← HW.out]
  go_quiet (fail)
  go_wp2_with fail
  refine (HAt.out _).mono ?_
  rintro e w1 ⟨rfl, rfl⟩
  go_wp2_with fail
  go_ret2
  exact pd_yes (ns.take 1) (by rw [List.length_take, Nat.min_comm]) (below_drewN HB0.out _) (rsl_take (HH.out.up (below_drewN (Below.refl _ _) _)) 1) (fun m hm => List.mem_of_mem_take hm) (by rw [List.length_take]; omega) (fun bl => parts_first hlen _ _) rfl

set_option maxRecDepth 100000 in
set_option maxHeartbeats 4000000 in
theorem parted_35 (a : Option Addr) (c : Nat) (ns : List Nat) (hlen : ns.length ≤ 200) (hcap : ns.length ≤ c ∧ True) (A B : Int) (hA : -9223372036854775808 ≤ A ∧ A ≤ 9223372036854775807) (hB : -9223372036854775808 ≤ B ∧ B ≤ 9223372036854775807) (w : World) (h : RSl w w.heap.size a (ivs (toI ns))) :
    Calls Tryz.prog 13 #[.slice a ns.length c, .agg #[.int .i64 35, .string ⟨#[]⟩, .slice none 0 0, .int .i64 A, .int .i64 B]] w (PdPost ns 35 A B w) := by
  obtain ⟨W, hW⟩ : ∃ W, W = w.alloc (.cells #[.int .i64 35, .string ⟨#[]⟩, .slice none 0 0, .int .i64 A, .int .i64 B] 27) := ⟨_, rfl⟩
  have hb0 : Below w.heap.size w W := by rw [hW]; exact (Below.refl _ _).alloc (Nat.le_refl _) _
  have HB0 := Lib.hid hb0
  have p0 : W.cell? ⟨w.heap.size, 0, none⟩ = some (.int .i64 35) := by rw [hW, World.cell?_alloc_mark]; rfl
  have p3 : W.cell? ⟨w.heap.size, 3, none⟩ = some (.int .i64 A) := by rw [hW, World.cell?_alloc_mark]; rfl
  have p4 : W.cell? ⟨w.heap.size, 4, none⟩ = some (.int .i64 B) := by rw [hW, World.cell?_alloc_mark]; rfl
  have HW := Lib.hid hW
  have HH := Lib.hid (h.up hb0)
  have hc1 := hcap.1
  have hc2 := hcap.2
  have hA1 := hA.1
  have hA2 := hA.2
  have hB1 := hB.1
  have hB2 := hB.2
  clear hb0 h hW hcap hA hB
  by_cases h0 : ns.length = 0
  · have HE : Hid (lastI ns = []) := by unfold lastI Hid; rw [List.drop_eq_nil_of_le (by omega)]
    have hm : max ((-1 : Int)) 0 = 0 := by omega
    have hl0 := hlen
    rw [h0]
    rw [h0] at hc1
    have HL0 := Lib.hid h0
    clear h0
    go_enter Tryz.func13, Tryz.ntmps13
    go_wp2_with fail
    rw [← HW.out]
    go_quiet (fail)
    go_wp2_with fail
    all_goals
      go_ret2
      exact pd_yes (lastI ns) (by rw [HE.out]; rfl) (below_drewN HB0.out _) (by rw [HE.out]; exact rsl_nil) (by rw [HE.out]; simp) (by rw [HE.out]; simp) (fun bl => parts_last hlen _ _) rfl
  · obtain ⟨b, o, rfl, hbB, hc⟩ := HH.out.at_ (by rw [ivs_length, toI_length]; omega)
    obtain ⟨k, hk⟩ : ∃ k, k + 1 = ns.length := ⟨ns.length - 1, by omega⟩
    have HK := Lib.hid hk
    have hm : max ((k : Int)) 0 = (k : Int) := by omega
    have HR := Lib.hid (rsl_part hbB hc k 1 (by omega))
    have HE : Hid (lastI ns = (ns.drop k).take 1) := by
      unfold lastI Hid
      rw [← hk, Nat.add_sub_cancel, List.take_of_length_le (by rw [List.length_drop]; omega)]
    have HEl : Hid ((lastI ns).length = 1) := by rw [Hid, HE.out, List.length_take, List.length_drop]; omega
    rw [← hk]
    have hkc : k < c := by omega
    have hk2 : k < 200 := by omega
    have hn1 : 0 ≤ (k : Int) := by omega
    rw [← hk] at hc1
    clear h0 hc hk
    go_enter Tryz.func13, Tryz.ntmps13
    go_wp2_with fail
    rw [← HW.out]
    go_quiet (fail)
    go_wp2_with fail
    go_ret2
    exact pd_yes (lastI ns) (by rw [HEl.out]; try omega) (below_drewN HB0.out _) (by rw [HE.out]; exact HR.out.up (below_drewN (Below.refl _ _) _)) (fun m hm => List.mem_of_mem_drop hm) (by rw [HEl.out]; have := HK.out; omega) (fun bl => parts_last hlen _ _) rfl

set_option maxRecDepth 100000 in
set_option maxHeartbeats 4000000 in
theorem parted_36 (a : Option Addr) (c : Nat) (ns : List Nat) (hlen : ns.length ≤ 200) (hcap : ns.length ≤ c ∧ True) (A B : Int) (hA : -9223372036854775808 ≤ A ∧ A ≤ 9223372036854775807) (hB : -9223372036854775808 ≤ B ∧ B ≤ 9223372036854775807) (w : World) (h : RSl w w.heap.size a (ivs (toI ns))) :
    Calls Tryz.prog 13 #[.slice a ns.length c, .agg #[.int .i64 36, .string ⟨#[]⟩, .slice none 0 0, .int .i64 A, .int .i64 B]] w (PdPost ns 36 A B w) := by
  obtain ⟨W, hW⟩ : ∃ W, W = w.alloc (.cells #[.int .i64 36, .string ⟨#[]⟩, .slice none 0 0, .int .i64 A, .int .i64 B] 27) := ⟨_, rfl⟩
  have hb0 : Below w.heap.size w W := by rw [hW]; exact (Below.refl _ _).alloc (Nat.le_refl _) _
  have HB0 := Lib.hid hb0
  have p0 : W.cell? ⟨w.heap.size, 0, none⟩ = some (.int .i64 36) := by rw [hW, World.cell?_alloc_mark]; rfl
  have p3 : W.cell? ⟨w.heap.size, 3, none⟩ = some (.int .i64 A) := by rw [hW, World.cell?_alloc_mark]; rfl
  have p4 : W.cell? ⟨w.heap.size, 4, none⟩ = some (.int .i64 B) := by rw [hW, World.cell?_alloc_mark]; rfl
  have HW := Lib.hid hW
  have HH := Lib.hid (h.up hb0)
  have hc1 := hcap.1
  have hc2 := hcap.2
  have hA1 := hA.1
  have hA2 := hA.2
  have hB1 := hB.1
  have hB2 := hB.2
  clear hb0 h hW hcap hA hB
  by_cases a0 : A < 0
  · obtain ⟨F, hF⟩ : ∃ F, A + (ns.length : Int) = F := ⟨_, rfl⟩
    have hF1 : -9223372036854775808 ≤ F := by omega
    have hF2 : F < 200 := by omega
    have HF := Lib.hid hF
    by_cases f0 : F < 0
    · have d1 : decide (F < 0) = true := decide_eq_true f0
      go_enter Tryz.func13, Tryz.ntmps13
      go_wp2_with fail
      rw [← HW.out]
      go_quiet (fail)
      go_wp2_with fail
      go_ret2
      exact pd_yes [] (by rfl) (below_drewN HB0.out _) rsl_nil (by simp) (by simp) (fun bl => parts_eqo hlen _ _ (.inr ⟨a0, by omega, by omega⟩)) rfl
    · obtain ⟨k, rfl⟩ : ∃ k : Nat, F = (k : Int) := ⟨F.toNat, by omega⟩
      have hkn : k < ns.length := by omega
      clear f0
      have hkc : k < c := by omega
      have d1 : decide (ns.length ≤ k) = false := decide_eq_false (by omega)
      have hn1 : 0 ≤ (k : Int) := by omega
      have d2 : decide ((k : Int) < 0) = false := decide_eq_false (by omega)
      obtain ⟨b, o, rfl, hbB, hc⟩ := HH.out.at_ (by rw [ivs_length, toI_length]; omega)
      have hr := rsl_part hbB hc k 1 (by omega)
      rw [show (ns.drop k).take 1 = [ns[k]] from by have := one_at hkn; rw [show k + 1 - k = 1 by omega] at this; exact this] at hr
      have HR := Lib.hid hr
      clear hr
      have HKn := Lib.hid hkn
      clear hc
      go_enter Tryz.func13, Tryz.ntmps13
      go_wp2_with fail
      rw [← HW.out]
      go_quiet (fail)
      go_wp2_with fail
      go_ret2
      exact pd_yes [ns[k]] (by first | rfl | simp | (simp; omega)) (below_drewN HB0.out _) (HR.out.up (below_drewN (Below.refl _ _) _)) (fun m hm => by simp at hm; subst hm; exact List.getElem_mem _) (by have := HKn.out; simp; omega) (fun bl => parts_eq hlen _ _ k hkn (.inr ⟨a0, HF.out⟩)) rfl
  · by_cases a1 : (ns.length : Int) ≤ A
    · have d1 : decide ((ns.length : Int) ≤ A) = true := decide_eq_true a1
      have d2 : decide (A < 0) = false := decide_eq_false a0
      go_enter Tryz.func13, Tryz.ntmps13
      go_wp2_with fail
      rw [← HW.out]
      go_quiet (fail)
      go_wp2_with fail
      go_ret2
      exact pd_yes [] (by rfl) (below_drewN HB0.out _) rsl_nil (by simp) (by simp) (fun bl => parts_eqo hlen _ _ (.inl a1)) rfl
    · obtain ⟨k, rfl⟩ : ∃ k : Nat, A = (k : Int) := ⟨A.toNat, by omega⟩
      have hkn : k < ns.length := by omega
      clear a0 a1
      have hkc : k < c := by omega
      have d1 : decide (ns.length ≤ k) = false := decide_eq_false (by omega)
      have hn1 : 0 ≤ (k : Int) := by omega
      have d2 : decide ((k : Int) < 0) = false := decide_eq_false (by omega)
      obtain ⟨b, o, rfl, hbB, hc⟩ := HH.out.at_ (by rw [ivs_length, toI_length]; omega)
      have hr := rsl_part hbB hc k 1 (by omega)
      rw [show (ns.drop k).take 1 = [ns[k]] from by have := one_at hkn; rw [show k + 1 - k = 1 by omega] at this; exact this] at hr
      have HR := Lib.hid hr
      clear hr
      have HKn := Lib.hid hkn
      clear hc
      go_enter Tryz.func13, Tryz.ntmps13
      go_wp2_with fail
      rw [← HW.out]
      go_quiet (fail)
      go_wp2_with fail
      go_ret2
      exact pd_yes [ns[k]] (by first | rfl | simp | (simp; omega)) (below_drewN HB0.out _) (HR.out.up (below_drewN (Below.refl _ _) _)) (fun m hm => by simp at hm; subst hm; exact List.getElem_mem _) (by have := HKn.out; simp; omega) (fun bl => parts_eq hlen _ _ k hkn (.inl rfl)) rfl

set_option maxRecDepth 100000 in
set_option maxHeartbeats 4000000 in
theorem parted_33 (a : Option Addr) (c : Nat) (ns : List Nat) (hlen : ns.length ≤ 200) (hcap : ns.length ≤ c ∧ True) (A B : Int) (hA : -9223372036854775808 ≤ A ∧ A ≤ 9223372036854775807) (hB : -9223372036854775808 ≤ B ∧ B ≤ 9223372036854775807) (w : World) (h : RSl w w.heap.size a (ivs (toI ns))) :
    Calls Tryz.prog 13 #[.slice a ns.length c, .agg #[.int .i64 33, .string ⟨#[]⟩, .slice none 0 0, .int .i64 A, .int .i64 B]] w (PdPost ns 33 A B w) := by
  obtain ⟨W, hW⟩ : ∃ W, W = w.alloc (.cells #[.int .i64 33, .string ⟨#[]⟩, .slice none 0 0, .int .i64 A, .int .i64 B] 27) := ⟨_, rfl⟩
  have hb0 : Below w.heap.size w W := by rw [hW]; exact (Below.refl _ _).alloc (Nat.le_refl _) _
  have HB0 := Lib.hid hb0
  have p0 : W.cell? ⟨w.heap.size, 0, none⟩ = some (.int .i64 33) := by rw [hW, World.cell?_alloc_mark]; rfl
  have p3 : W.cell? ⟨w.heap.size, 3, none⟩ = some (.int .i64 A) := by rw [hW, World.cell?_alloc_mark]; rfl
  have p4 : W.cell? ⟨w.heap.size, 4, none⟩ = some (.int .i64 B) := by rw [hW, World.cell?_alloc_mark]; rfl
  have HW := Lib.hid hW
  have HH := Lib.hid (h.up hb0)
  have hc1 := hcap.1
  have hc2 := hcap.2
  have hA1 := hA.1
  have hA2 := hA.2
  have hB1 := hB.1
  have hB2 := hB.2
  clear hb0 h hW hcap hA hB
  by_cases a0 : A < 0
  · obtain ⟨F, hF⟩ : ∃ F, A + (ns.length : Int) = F := ⟨_, rfl⟩
    have hF1 : -9223372036854775808 ≤ F := by omega
    have hF2 : F < 200 := by omega
    have HF := Lib.hid hF
    by_cases f0 : F < 0
    · have d1 : decide (F < 0) = true := decide_eq_true f0
      go_enter Tryz.func13, Tryz.ntmps13
      go_wp2_with fail
      rw [← HW.out]
      go_quiet (fail)
      go_wp2_with fail
      go_ret2
      exact pd_no (below_drewN HB0.out _) rfl
    · obtain ⟨lo, rfl⟩ : ∃ lo : Nat, F = (lo : Int) := ⟨F.toNat, by omega⟩
      have hlo : lo < 200 := by omega
      clear f0
      by_cases t0 : ns.length < lo
      · exfalso; omega
      · have hlh : lo ≤ ns.length := by omega
        clear t0
        have l1 : decide (lo ≤ ns.length) = true := decide_eq_true hlh
        have n1 : ¬ ns.length < lo := by omega
        have n2 : ¬ ns.length < ns.length := by omega
        have d1 : decide (ns.length < lo) = false := decide_eq_false n1
        have d2 : decide (ns.length < ns.length) = false := decide_eq_false n2
        have d3 : decide ((lo : Int) < 0) = false := decide_eq_false (by omega)
        have HN2 : Hid (((ns.drop lo).take (ns.length - lo)).length = ns.length - lo) := by rw [Hid, List.length_take, List.length_drop]; omega
        by_cases hz : ns.length = lo
        · have HEm : Hid ((ns.drop lo).take (ns.length - lo) = []) := by rw [Hid, hz, Nat.sub_self]; rfl
          have HZ := Lib.hid hz
          clear hz
          go_enter Tryz.func13, Tryz.ntmps13
          go_wp2_with fail
          rw [← HW.out]
          go_quiet (fail)
          go_wp2_with fail
          all_goals
            go_ret2
            exact pd_yes ((ns.drop lo).take (ns.length - lo)) (by first | exact HN2.out.symm | (rw [HN2.out]; have := HZ.out; omega)) (below_drewN HB0.out _) (by rw [HEm.out]; exact rsl_nil) mem_part len_part (fun bl => parts_toend hlen _ _ lo (.inr ⟨a0, HF.out⟩) hlh) rfl
        · obtain ⟨b, o, rfl, hbB, hc⟩ := HH.out.at_ (by rw [ivs_length, toI_length]; omega)
          have HR := Lib.hid (rsl_part hbB hc lo (ns.length - lo) (by omega))
          have hlc : lo < c := by omega
          clear hc hz
          go_enter Tryz.func13, Tryz.ntmps13
          go_wp2_with fail
          rw [← HW.out]
          go_quiet (fail)
          go_wp2_with fail
          go_ret2
          exact pd_yes ((ns.drop lo).take (ns.length - lo)) HN2.out.symm (below_drewN HB0.out _) (HR.out.up (below_drewN (Below.refl _ _) _)) mem_part len_part (fun bl => parts_toend hlen _ _ lo (.inr ⟨a0, HF.out⟩) hlh) rfl
  · obtain ⟨lo, rfl⟩ : ∃ lo : Nat, A = (lo : Int) := ⟨A.toNat, by omega⟩
    clear a0
    by_cases t0 : ns.length < lo
    · have d1 : decide (ns.length < lo) = true := decide_eq_true t0
      have dn : decide (ns.length < ns.length) = false := decide_eq_false (Nat.lt_irrefl _)
      have dn2 : ¬ ns.length < ns.length := Nat.lt_irrefl _
      have d3 : decide ((lo : Int) < 0) = false := decide_eq_false (by omega)
      go_enter Tryz.func13, Tryz.ntmps13
      go_wp2_with fail
      rw [← HW.out]
      go_quiet (fail)
      go_wp2_with fail
      go_ret2
      exact pd_no (below_drewN HB0.out _) rfl
    · have hlh : lo ≤ ns.length := by omega
      clear t0
      have l1 : decide (lo ≤ ns.length) = true := decide_eq_true hlh
      have n1 : ¬ ns.length < lo := by omega
      have n2 : ¬ ns.length < ns.length := by omega
      have d1 : decide (ns.length < lo) = false := decide_eq_false n1
      have d2 : decide (ns.length < ns.length) = false := decide_eq_false n2
      have d3 : decide ((lo : Int) < 0) = false := decide_eq_false (by omega)
      have HN2 : Hid (((ns.drop lo).take (ns.length - lo)).length = ns.length - lo) := by rw [Hid, List.length_take, List.length_drop]; omega
      by_cases hz : ns.length = lo
      · have HEm : Hid ((ns.drop lo).take (ns.length - lo) = []) := by rw [Hid, hz, Nat.sub_self]; rfl
        have HZ := Lib.hid hz
        clear hz
        go_enter Tryz.func13, Tryz.ntmps13
        go_wp2_with fail
        rw [← HW.out]
        go_quiet (fail)
        go_wp2_with fail
        all_goals
          go_ret2
          exact pd_yes ((ns.drop lo).take (ns.length - lo)) (by first | exact HN2.out.symm | (rw [HN2.out]; have := HZ.out; omega)) (below_drewN HB0.out _) (by rw [HEm.out]; exact rsl_nil) mem_part len_part (fun bl => parts_toend hlen _ _ lo (.inl rfl) hlh) rfl
      · obtain ⟨b, o, rfl, hbB, hc⟩ := HH.out.at_ (by rw [ivs_length, toI_length]; omega)
        have HR := Lib.hid (rsl_part hbB hc lo (ns.length - lo) (by omega))
        have hlc : lo < c := by omega
        clear hc hz
        go_enter Tryz.func13, Tryz.ntmps13
        go_wp2_with fail
        rw [← HW.out]
        go_quiet (fail)
        go_wp2_with fail
        go_ret2
        exact pd_yes ((ns.drop lo).take (ns.length - lo)) HN2.out.symm (below_drewN HB0.out _) (HR.out.up (below_drewN (Below.refl _ _) _)) mem_part len_part (fun bl => parts_toend hlen _ _ lo (.inl rfl) hlh) rfl

set_option maxRecDepth 100000 in
set_option maxHeartbeats 4000000 in
theorem parted_32 (a : Option Addr) (c : Nat) (ns : List Nat) (hlen : ns.length ≤ 200) (hcap : ns.length ≤ c ∧ True) (A B : Int) (hA : -9223372036854775808 ≤ A ∧ A ≤ 9223372036854775807) (hB : -9223372036854775808 ≤ B ∧ B ≤ 9223372036854775807) (w : World) (h : RSl w w.heap.size a (ivs (toI ns))) :
    Calls Tryz.prog 13 #[.slice a ns.length c, .agg #[.int .i64 32, .string ⟨#[]⟩, .slice none 0 0, .int .i64 A, .int .i64 B]] w (PdPost ns 32 A B w) := by
  obtain ⟨W, hW⟩ : ∃ W, W = w.alloc (.cells #[.int .i64 32, .string ⟨#[]⟩, .slice none 0 0, .int .i64 A, .int .i64 B] 27) := ⟨_, rfl⟩
  have hb0 : Below w.heap.size w W := by rw [hW]; exact (Below.refl _ _).alloc (Nat.le_refl _) _
  have HB0 := Lib.hid hb0
  have p0 : W.cell? ⟨w.heap.size, 0, none⟩ = some (.int .i64 32) := by rw [hW, World.cell?_alloc_mark]; rfl
  have p3 : W.cell? ⟨w.heap.size, 3, none⟩ = some (.int .i64 A) := by rw [hW, World.cell?_alloc_mark]; rfl
  have p4 : W.cell? ⟨w.heap.size, 4, none⟩ = some (.int .i64 B) := by rw [hW, World.cell?_alloc_mark]; rfl
  have HW := Lib.hid hW
  have HH := Lib.hid (h.up hb0)
  have hc1 := hcap.1
  have hc2 := hcap.2
  have hA1 := hA.1
  have hA2 := hA.2
  have hB1 := hB.1
  have hB2 := hB.2
  clear hb0 h hW hcap hA hB
  by_cases a0 : A < 0
  · obtain ⟨F, hF⟩ : ∃ F, A + (ns.length : Int) = F := ⟨_, rfl⟩
    have hF1 : -9223372036854775808 ≤ F := by omega
    have hF2 : F < 200 := by omega
    have HF := Lib.hid hF
    by_cases f0 : F < 0
    · have d1 : decide (F < 0) = true := decide_eq_true f0
      by_cases b0 : B < 0
      · have hT1 : -9223372036854775808 ≤ B + (ns.length : Int) := by omega
        have hT2 : B + (ns.length : Int) ≤ 9223372036854775807 := by omega
        go_enter Tryz.func13, Tryz.ntmps13
        go_wp2_with fail
        rw [← HW.out]
        go_quiet (fail)
        go_wp2_with fail
        go_ret2
        exact pd_no (below_drewN HB0.out _) rfl
      · go_enter Tryz.func13, Tryz.ntmps13
        go_wp2_with fail
        rw [← HW.out]
        go_quiet (fail)
        go_wp2_with fail
        go_ret2
        exact pd_no (below_drewN HB0.out _) rfl
    · obtain ⟨lo, rfl⟩ : ∃ lo : Nat, F = (lo : Int) := ⟨F.toNat, by omega⟩
      have hlo : lo < 200 := by omega
      clear f0
      by_cases b0 : B < 0
      · obtain ⟨T, hT⟩ : ∃ T, B + (ns.length : Int) = T := ⟨_, rfl⟩
        have hT1 : -9223372036854775808 ≤ T := by omega
        have hT2 : T < 200 := by omega
        have HT := Lib.hid hT
        by_cases t0 : T < (lo : Int)
        · have d1 : decide (T < (lo : Int)) = true := decide_eq_true t0
          have d2 : decide ((ns.length : Int) < T) = false := decide_eq_false (by omega)
          have n2 : ¬ (ns.length : Int) < T := by omega
          have d3 : decide ((lo : Int) < 0) = false := decide_eq_false (by omega)
          go_enter Tryz.func13, Tryz.ntmps13
          go_wp2_with fail
          rw [← HW.out]
          go_quiet (fail)
          go_wp2_with fail
          go_ret2
          exact pd_no (below_drewN HB0.out _) rfl
        · obtain ⟨hi, rfl⟩ : ∃ hi : Nat, T = (hi : Int) := ⟨T.toNat, by omega⟩
          have hlh : lo ≤ hi := by omega
          have hhn : hi ≤ ns.length := by omega
          clear t0
          have l1 : decide (lo ≤ hi) = true := decide_eq_true hlh
          have n1 : ¬ hi < lo := by omega
          have n2 : ¬ ns.length < hi := by omega
          have d1 : decide (hi < lo) = false := decide_eq_false n1
          have d2 : decide (ns.length < hi) = false := decide_eq_false n2
          have d3 : decide ((lo : Int) < 0) = false := decide_eq_false (by omega)
          have HN2 : Hid (((ns.drop lo).take (hi - lo)).length = hi - lo) := by rw [Hid, List.length_take, List.length_drop]; omega
          by_cases hz : hi = lo
          · have HEm : Hid ((ns.drop lo).take (hi - lo) = []) := by rw [Hid, hz, Nat.sub_self]; rfl
            have HZ := Lib.hid hz
            clear hz
            go_enter Tryz.func13, Tryz.ntmps13
            go_wp2_with fail
            rw [← HW.out]
            go_quiet (fail)
            go_wp2_with fail
            all_goals
              go_ret2
              exact pd_yes ((ns.drop lo).take (hi - lo)) (by first | exact HN2.out.symm | (rw [HN2.out]; have := HZ.out; omega)) (below_drewN HB0.out _) (by rw [HEm.out]; exact rsl_nil) mem_part len_part (fun bl => parts_slice hlen _ _ lo hi (.inr ⟨a0, HF.out⟩) (.inr ⟨b0, HT.out⟩) hlh hhn) rfl
          · obtain ⟨b, o, rfl, hbB, hc⟩ := HH.out.at_ (by rw [ivs_length, toI_length]; omega)
            have HR := Lib.hid (rsl_part hbB hc lo (hi - lo) (by omega))
            have hlc : lo < c := by omega
            clear hc hz
            go_enter Tryz.func13, Tryz.ntmps13
            go_wp2_with fail
            rw [← HW.out]
            go_quiet (fail)
            go_wp2_with fail
            go_ret2
            exact pd_yes ((ns.drop lo).take (hi - lo)) HN2.out.symm (below_drewN HB0.out _) (HR.out.up (below_drewN (Below.refl _ _) _)) mem_part len_part (fun bl => parts_slice hlen _ _ lo hi (.inr ⟨a0, HF.out⟩) (.inr ⟨b0, HT.out⟩) hlh hhn) rfl
      · by_cases t1 : (ns.length : Int) < B
        · have d2 : decide ((ns.length : Int) < B) = true := decide_eq_true t1
          have d3 : decide ((lo : Int) < 0) = false := decide_eq_false (by omega)
          go_enter Tryz.func13, Tryz.ntmps13
          go_wp2_with fail
          rw [← HW.out]
          go_quiet (fail)
          go_wp2_with fail
          go_ret2
          exact pd_no (below_drewN HB0.out _) rfl
        · obtain ⟨hi, rfl⟩ : ∃ hi : Nat, B = (hi : Int) := ⟨B.toNat, by omega⟩
          have hhn : hi ≤ ns.length := by omega
          have n2 : ¬ ns.length < hi := by omega
          have e2 : decide (ns.length < hi) = false := decide_eq_false n2
          clear b0 t1
          by_cases t0 : hi < lo
          · have d1 : decide (hi < lo) = true := decide_eq_true t0
            have d3 : decide ((lo : Int) < 0) = false := decide_eq_false (by omega)
            go_enter Tryz.func13, Tryz.ntmps13
            go_wp2_with fail
            rw [← HW.out]
            go_quiet (fail)
            go_wp2_with fail
            go_ret2
            exact pd_no (below_drewN HB0.out _) rfl
          · have hlh : lo ≤ hi := by omega
            clear t0 n2 e2
            have l1 : decide (lo ≤ hi) = true := decide_eq_true hlh
            have n1 : ¬ hi < lo := by omega
            have n2 : ¬ ns.length < hi := by omega
            have d1 : decide (hi < lo) = false := decide_eq_false n1
            have d2 : decide (ns.length < hi) = false := decide_eq_false n2
            have d3 : decide ((lo : Int) < 0) = false := decide_eq_false (by omega)
            have HN2 : Hid (((ns.drop lo).take (hi - lo)).length = hi - lo) := by rw [Hid, List.length_take, List.length_drop]; omega
            by_cases hz : hi = lo
            · have HEm : Hid ((ns.drop lo).take (hi - lo) = []) := by rw [Hid, hz, Nat.sub_self]; rfl
              have HZ := Lib.hid hz
              clear hz
              go_enter Tryz.func13, Tryz.ntmps13
              go_wp2_with fail
              rw [← HW.out]
              go_quiet (fail)
              go_wp2_with fail
              all_goals
                go_ret2
                exact pd_yes ((ns.drop lo).take (hi - lo)) (by first | exact HN2.out.symm | (rw [HN2.out]; have := HZ.out; omega)) (below_drewN HB0.out _) (by rw [HEm.out]; exact rsl_nil) mem_part len_part (fun bl => parts_slice hlen _ _ lo hi (.inr ⟨a0, HF.out⟩) (.inl rfl) hlh hhn) rfl
            · obtain ⟨b, o, rfl, hbB, hc⟩ := HH.out.at_ (by rw [ivs_length, toI_length]; omega)
              have HR := Lib.hid (rsl_part hbB hc lo (hi - lo) (by omega))
              have hlc : lo < c := by omega
              clear hc hz
              go_enter Tryz.func13, Tryz.ntmps13
              go_wp2_with fail
              rw [← HW.out]
              go_quiet (fail)
              go_wp2_with fail
              go_ret2
              exact pd_yes ((ns.drop lo).take (hi - lo)) HN2.out.symm (below_drewN HB0.out _) (HR.out.up (below_drewN (Below.refl _ _) _)) mem_part len_part (fun bl => parts_slice hlen _ _ lo hi (.inr ⟨a0, HF.out⟩) (.inl rfl) hlh hhn) rfl
  · obtain ⟨lo, rfl⟩ : ∃ lo : Nat, A = (lo : Int) := ⟨A.toNat, by omega⟩
    clear a0
    by_cases b0 : B < 0
    · obtain ⟨T, hT⟩ : ∃ T, B + (ns.length : Int) = T := ⟨_, rfl⟩
      have hT1 : -9223372036854775808 ≤ T := by omega
      have hT2 : T < 200 := by omega
      have HT := Lib.hid hT
      by_cases t0 : T < (lo : Int)
      · have d1 : decide (T < (lo : Int)) = true := decide_eq_true t0
        have d2 : decide ((ns.length : Int) < T) = false := decide_eq_false (by omega)
        have n2 : ¬ (ns.length : Int) < T := by omega
        have d3 : decide ((lo : Int) < 0) = false := decide_eq_false (by omega)
        go_enter Tryz.func13, Tryz.ntmps13
        go_wp2_with fail
        rw [← HW.out]
        go_quiet (fail)
        go_wp2_with fail
        go_ret2
        exact pd_no (below_drewN HB0.out _) rfl
      · obtain ⟨hi, rfl⟩ : ∃ hi : Nat, T = (hi : Int) := ⟨T.toNat, by omega⟩
        have hlh : lo ≤ hi := by omega
        have hhn : hi ≤ ns.length := by omega
        clear t0
        have l1 : decide (lo ≤ hi) = true := decide_eq_true hlh
        have n1 : ¬ hi < lo := by omega
        have n2 : ¬ ns.length < hi := by omega
        have d1 : decide (hi < lo) = false := decide_eq_false n1
        have d2 : decide (ns.length < hi) = false := decide_eq_false n2
        have d3 : decide ((lo : Int) < 0) = false := decide_eq_false (by omega)
        have HN2 : Hid (((ns.drop lo).take (hi - lo)).length = hi - lo) := by rw [Hid, List.length_take, List.length_drop]; omega
        by_cases hz : hi = lo
        · have HEm : Hid ((ns.drop lo).take (hi - lo) = []) := by rw [Hid, hz, Nat.sub_self]; rfl
          have HZ := Lib.hid hz
          clear hz
          go_enter Tryz.func13, Tryz.ntmps13
          go_wp2_with fail
          rw [← HW.out]
          go_quiet (fail)
          go_wp2_with fail
          all_goals
            go_ret2
            exact pd_yes ((ns.drop lo).take (hi - lo)) (by first | exact HN2.out.symm | (rw [HN2.out]; have := HZ.out; omega)) (below_drewN HB0.out _) (by rw [HEm.out]; exact rsl_nil) mem_part len_part (fun bl => parts_slice hlen _ _ lo hi (.inl rfl) (.inr ⟨b0, HT.out⟩) hlh hhn) rfl
        · obtain ⟨b, o, rfl, hbB, hc⟩ := HH.out.at_ (by rw [ivs_length, toI_length]; omega)
          have HR := Lib.hid (rsl_part hbB hc lo (hi - lo) (by omega))
          have hlc : lo < c := by omega
          clear hc hz
          go_enter Tryz.func13, Tryz.ntmps13
          go_wp2_with fail
          rw [← HW.out]
          go_quiet (fail)
          go_wp2_with fail
          go_ret2
          exact pd_yes ((ns.drop lo).take (hi - lo)) HN2.out.symm (below_drewN HB0.out _) (HR.out.up (below_drewN (Below.refl _ _) _)) mem_part len_part (fun bl => parts_slice hlen _ _ lo hi (.inl rfl) (.inr ⟨b0, HT.out⟩) hlh hhn) rfl
    · by_cases t1 : (ns.length : Int) < B
      · have d2 : decide ((ns.length : Int) < B) = true := decide_eq_true t1
        have d3 : decide ((lo : Int) < 0) = false := decide_eq_false (by omega)
        go_enter Tryz.func13, Tryz.ntmps13
        go_wp2_with fail
        rw [← HW.out]
        go_quiet (fail)
        go_wp2_with fail
        go_ret2
        exact pd_no (below_drewN HB0.out _) rfl
      · obtain ⟨hi, rfl⟩ : ∃ hi : Nat, B = (hi : Int) := ⟨B.toNat, by omega⟩
        have hhn : hi ≤ ns.length := by omega
        have n2 : ¬ ns.length < hi := by omega
        have e2 : decide (ns.length < hi) = false := decide_eq_false n2
        clear b0 t1
        by_cases t0 : hi < lo
        · have d1 : decide (hi < lo) = true := decide_eq_true t0
          have d3 : decide ((lo : Int) < 0) = false := decide_eq_false (by omega)
          go_enter Tryz.func13, Tryz.ntmps13
          go_wp2_with fail
          rw [← HW.out]
          go_quiet (fail)
          go_wp2_with fail
          go_ret2
          exact pd_no (below_drewN HB0.out _) rfl
        · have hlh : lo ≤ hi := by omega
          clear t0 n2 e2
          have l1 : decide (lo ≤ hi) = true := decide_eq_true hlh
          have n1 : ¬ hi < lo := by omega
          have n2 : ¬ ns.length < hi := by omega
          have d1 : decide (hi < lo) = false := decide_eq_false n1
          have d2 : decide (ns.length < hi) = false := decide_eq_false n2
          have d3 : decide ((lo : Int) < 0) = false := decide_eq_false (by omega)
          have HN2 : Hid (((ns.drop lo).take (hi - lo)).length = hi - lo) := by rw [Hid, List.length_take, List.length_drop]; omega
          by_cases hz : hi = lo
          · have HEm : Hid ((ns.drop lo).take (hi - lo) = []) := by rw [Hid, hz, Nat.sub_self]; rfl
            have HZ := Lib.hid hz
            clear hz
            go_enter Tryz.func13, Tryz.ntmps13
            go_wp2_with fail
            rw [← HW.out]
            go_quiet (fail)
            go_wp2_with fail
            all_goals
              go_ret2
              exact pd_yes ((ns.drop lo).take (hi - lo)) (by first | exact HN2.out.symm | (rw [HN2.out]; have := HZ.out; omega)) (below_drewN HB0.out _) (by rw [HEm.out]; exact rsl_nil) mem_part len_part (fun bl => parts_slice hlen _ _ lo hi (.inl rfl) (.inl rfl) hlh hhn) rfl
          · obtain ⟨b, o, rfl, hbB, hc⟩ := HH.out.at_ (by rw [ivs_length, toI_length]; omega)
            have HR := Lib.hid (rsl_part hbB hc lo (hi - lo) (by omega))
            have hlc : lo < c := by omega
            clear hc hz
            go_enter Tryz.func13, Tryz.ntmps13
            go_wp2_with fail
            rw [← HW.out]
            go_quiet (fail)
            go_wp2_with fail
            go_ret2
            exact pd_yes ((ns.drop lo).take (hi - lo)) HN2.out.symm (below_drewN HB0.out _) (HR.out.up (below_drewN (Below.refl _ _) _)) mem_part len_part (fun bl => parts_slice hlen _ _ lo hi (.inl rfl) (.inl rfl) hlh hhn) rfl

end Go.Proofs.YtgilbckfkngaiaaGreat
