/- FnParts: the walk. (Printed by gen135.py.) -/
import Derived.Test.YtgilbckfkngaiaaGreatT134
import Derived.Test.YtgilbckfkngaiaaGreatT18
namespace Go.Proofs.YtgilbckfkngaiaaGreat
open Go.RowKit
set_option linter.unusedVariables false

theorem PdPost.up {ns : List Nat} {op A B : Int} {w W w' : World} {e : Ending} (h : PdPost ns op A B W e w') (hb : Below w.heap.size w W) : PdPost ns op A B w e w' := ⟨bnext hb h.1, h.2⟩

theorem pick_new (w : World) (op A B : Int) : PickAt op A B w.heap.size (w.alloc (.cells #[.int .i64 op, .string ⟨#[]⟩, .slice none 0 0, .int .i64 A, .int .i64 B] 27)) := by
  refine ⟨?_, ?_, ?_, ?_, ?_⟩
  all_goals (rw [World.cell?_alloc_mark]; rfl)

theorem partOps : PartOp 32 ∧ PartOp 33 ∧ PartOp 34 ∧ PartOp 35 ∧ PartOp 36 := by
  refine ⟨?_, ?_, ?_, ?_, ?_⟩ <;> constructor <;> rfl
theorem wf_u8 {n : Int} (h : (Lit.int .u8 n).wf = true) : 0 ≤ n ∧ n ≤ 255 := by
  simpa [Lit.wf, IntKind.min, IntKind.max, IntKind.signed, IntKind.bits] using h
theorem isl_cap {w : World} {a : Option Addr} {l : List Int} (h : ISl w w.heap.size a l) : l.length ≤ maxLen := h.len

set_option maxRecDepth 100000 in
set_option maxHeartbeats 2000000 in
theorem relPart_32 (ad : Option Addr) (n c : Nat) (a2 : Option Addr) (c2 : Nat) (ns : List Nat) (hlen : ns.length ≤ 200) (hcap : ns.length ≤ c2 ∧ True) (A B : Int) (hA : -9223372036854775808 ≤ A ∧ A ≤ 9223372036854775807) (hB : -9223372036854775808 ≤ B ∧ B ≤ 9223372036854775807) (w : World) (h : RSl w w.heap.size a2 (ivs (toI ns))) :
    Calls Tryz.prog 6 #[.slice ad n c, .slice a2 ns.length c2, .agg #[.int .i64 32, .string ⟨#[]⟩, .slice none 0 0, .int .i64 A, .int .i64 B]] w (PdPost ns 32 A B w) := by
  have hb0 : Below w.heap.size w (w.alloc (.cells #[.int .i64 32, .string ⟨#[]⟩, .slice none 0 0, .int .i64 A, .int .i64 B] 27)) := (Below.refl _ _).alloc (Nat.le_refl _) _
  have HB0 := Lib.hid hb0
  have HC := Lib.hid (parted_32 a2 c2 ns hlen hcap A B hA hB _ (h.up hb0))
  clear h hb0 hcap hA hB
  go_enter Tryz.func6, Tryz.ntmps6
  go_wp2_with fail
  refine HC.out.mono ?_
  rintro e w1 ⟨hb, ⟨v, rfl⟩ | ⟨N, a', c', rfl, hr, hm, hl, hp⟩⟩
  · have HB := Lib.hid hb
    clear hb
    go_wp2_with fail
    go_ret2
    exact pd_no (bnext HB0.out HB.out) rfl
  · have HB := Lib.hid hb
    have HR := Lib.hid hr
    have HM := Lib.hid hm
    have HL := Lib.hid hl
    have HP := Lib.hid hp
    clear hb hr hm hl hp
    go_wp2_with fail
    go_ret2
    exact pd_yes N rfl (bnext HB0.out HB.out) HR.out HM.out HL.out HP.out rfl

set_option maxRecDepth 100000 in
set_option maxHeartbeats 2000000 in
theorem relPart_33 (ad : Option Addr) (n c : Nat) (a2 : Option Addr) (c2 : Nat) (ns : List Nat) (hlen : ns.length ≤ 200) (hcap : ns.length ≤ c2 ∧ True) (A B : Int) (hA : -9223372036854775808 ≤ A ∧ A ≤ 9223372036854775807) (hB : -9223372036854775808 ≤ B ∧ B ≤ 9223372036854775807) (w : World) (h : RSl w w.heap.size a2 (ivs (toI ns))) :
    Calls Tryz.prog 6 #[.slice ad n c, .slice a2 ns.length c2, .agg #[.int .i64 33, .string ⟨#[]⟩, .slice none 0 0, .int .i64 A, .int .i64 B]] w (PdPost ns 33 A B w) := by
  have hb0 : Below w.heap.size w (w.alloc (.cells #[.int .i64 33, .string ⟨#[]⟩, .slice none 0 0, .int .i64 A, .int .i64 B] 27)) := (Below.refl _ _).alloc (Nat.le_refl _) _
  have HB0 := Lib.hid hb0
  have HC := Lib.hid (parted_33 a2 c2 ns hlen hcap A B hA hB _ (h.up hb0))
  clear h hb0 hcap hA hB
  go_enter Tryz.func6, Tryz.ntmps6
  go_wp2_with fail
  refine HC.out.mono ?_
  rintro e w1 ⟨hb, ⟨v, rfl⟩ | ⟨N, a', c', rfl, hr, hm, hl, hp⟩⟩
  · have HB := Lib.hid hb
    clear hb
    go_wp2_with fail
    go_ret2
    exact pd_no (bnext HB0.out HB.out) rfl
  · have HB := Lib.hid hb
    have HR := Lib.hid hr
    have HM := Lib.hid hm
    have HL := Lib.hid hl
    have HP := Lib.hid hp
    clear hb hr hm hl hp
    go_wp2_with fail
    go_ret2
    exact pd_yes N rfl (bnext HB0.out HB.out) HR.out HM.out HL.out HP.out rfl

set_option maxRecDepth 100000 in
set_option maxHeartbeats 2000000 in
theorem relPart_34 (ad : Option Addr) (n c : Nat) (a2 : Option Addr) (c2 : Nat) (ns : List Nat) (hlen : ns.length ≤ 200) (hcap : ns.length ≤ c2 ∧ True) (A B : Int) (hA : -9223372036854775808 ≤ A ∧ A ≤ 9223372036854775807) (hB : -9223372036854775808 ≤ B ∧ B ≤ 9223372036854775807) (w : World) (h : RSl w w.heap.size a2 (ivs (toI ns))) :
    Calls Tryz.prog 6 #[.slice ad n c, .slice a2 ns.length c2, .agg #[.int .i64 34, .string ⟨#[]⟩, .slice none 0 0, .int .i64 A, .int .i64 B]] w (PdPost ns 34 A B w) := by
  have hb0 : Below w.heap.size w (w.alloc (.cells #[.int .i64 34, .string ⟨#[]⟩, .slice none 0 0, .int .i64 A, .int .i64 B] 27)) := (Below.refl _ _).alloc (Nat.le_refl _) _
  have HB0 := Lib.hid hb0
  have HC := Lib.hid (parted_34 a2 c2 ns hlen hcap A B hA hB _ (h.up hb0))
  clear h hb0 hcap hA hB
  go_enter Tryz.func6, Tryz.ntmps6
  go_wp2_with fail
  refine HC.out.mono ?_
  rintro e w1 ⟨hb, ⟨v, rfl⟩ | ⟨N, a', c', rfl, hr, hm, hl, hp⟩⟩
  · have HB := Lib.hid hb
    clear hb
    go_wp2_with fail
    go_ret2
    exact pd_no (bnext HB0.out HB.out) rfl
  · have HB := Lib.hid hb
    have HR := Lib.hid hr
    have HM := Lib.hid hm
    have HL := Lib.hid hl
    have HP := Lib.hid hp
    clear hb hr hm hl hp
    go_wp2_with fail
    go_ret2
    exact pd_yes N rfl (bnext HB0.out HB.out) HR.out HM.out HL.out HP.out rfl

set_option maxRecDepth 100000 in
set_option maxHeartbeats 2000000 in
theorem relPart_35 (ad : Option Addr) (n c : Nat) (a2 : Option Addr) (c2 : Nat) (ns : List Nat) (hlen : ns.length ≤ 200) (hcap : ns.length ≤ c2 ∧ True) (A B : Int) (hA : -9223372036854775808 ≤ A ∧ A ≤ 9223372036854775807) (hB : -9223372036854775808 ≤ B ∧ B ≤ 9223372036854775807) (w : World) (h : RSl w w.heap.size a2 (ivs (toI ns))) :
    Calls Tryz.prog 6 #[.slice ad n c, .slice a2 ns.length c2, .agg #[.int .i64 35, .string ⟨#[]⟩, .slice none 0 0, .int .i64 A, .int .i64 B]] w (PdPost ns 35 A B w) := by
  have hb0 : Below w.heap.size w (w.alloc (.cells #[.int .i64 35, .string ⟨#[]⟩, .slice none 0 0, .int .i64 A, .int .i64 B] 27)) := (Below.refl _ _).alloc (Nat.le_refl _) _
  have HB0 := Lib.hid hb0
  have HC := Lib.hid (parted_35 a2 c2 ns hlen hcap A B hA hB _ (h.up hb0))
  clear h hb0 hcap hA hB
  go_enter Tryz.func6, Tryz.ntmps6
  go_wp2_with fail
  refine HC.out.mono ?_
  rintro e w1 ⟨hb, ⟨v, rfl⟩ | ⟨N, a', c', rfl, hr, hm, hl, hp⟩⟩
  · have HB := Lib.hid hb
    clear hb
    go_wp2_with fail
    go_ret2
    exact pd_no (bnext HB0.out HB.out) rfl
  · have HB := Lib.hid hb
    have HR := Lib.hid hr
    have HM := Lib.hid hm
    have HL := Lib.hid hl
    have HP := Lib.hid hp
    clear hb hr hm hl hp
    go_wp2_with fail
    go_ret2
    exact pd_yes N rfl (bnext HB0.out HB.out) HR.out HM.out HL.out HP.out rfl

set_option maxRecDepth 100000 in
set_option maxHeartbeats 2000000 in
theorem relPart_36 (ad : Option Addr) (n c : Nat) (a2 : Option Addr) (c2 : Nat) (ns : List Nat) (hlen : ns.length ≤ 200) (hcap : ns.length ≤ c2 ∧ True) (A B : Int) (hA : -9223372036854775808 ≤ A ∧ A ≤ 9223372036854775807) (hB : -9223372036854775808 ≤ B ∧ B ≤ 9223372036854775807) (w : World) (h : RSl w w.heap.size a2 (ivs (toI ns))) :
    Calls Tryz.prog 6 #[.slice ad n c, .slice a2 ns.length c2, .agg #[.int .i64 36, .string ⟨#[]⟩, .slice none 0 0, .int .i64 A, .int .i64 B]] w (PdPost ns 36 A B w) := by
  have hb0 : Below w.heap.size w (w.alloc (.cells #[.int .i64 36, .string ⟨#[]⟩, .slice none 0 0, .int .i64 A, .int .i64 B] 27)) := (Below.refl _ _).alloc (Nat.le_refl _) _
  have HB0 := Lib.hid hb0
  have HC := Lib.hid (parted_36 a2 c2 ns hlen hcap A B hA hB _ (h.up hb0))
  clear h hb0 hcap hA hB
  go_enter Tryz.func6, Tryz.ntmps6
  go_wp2_with fail
  refine HC.out.mono ?_
  rintro e w1 ⟨hb, ⟨v, rfl⟩ | ⟨N, a', c', rfl, hr, hm, hl, hp⟩⟩
  · have HB := Lib.hid hb
    clear hb
    go_wp2_with fail
    go_ret2
    exact pd_no (bnext HB0.out HB.out) rfl
  · have HB := Lib.hid hb
    have HR := Lib.hid hr
    have HM := Lib.hid hm
    have HL := Lib.hid hl
    have HP := Lib.hid hp
    clear hb hr hm hl hp
    go_wp2_with fail
    go_ret2
    exact pd_yes N rfl (bnext HB0.out HB.out) HR.out HM.out HL.out HP.out rfl

set_option maxRecDepth 100000 in
set_option maxHeartbeats 8000000 in
theorem FnParts_walk (ad : Option Addr) (len c : Nat) (t : List Nd) (a2 : Option Addr) (len2 c2 : Nat) (l : List Int) (y A B : Int) (w : World) (h : NSl w w.heap.size ad t ∧ len = t.length) (hi : ISl w w.heap.size a2 l ∧ len2 = l.length ∧ len2 ≤ c2) (hy : (Lit.int .u8 y).wf = true) (hA : (Lit.int .i64 A).wf = true) (hB : (Lit.int .i64 B).wf = true) :
    Calls Tryz.prog 3 #[.slice ad len c, .slice a2 len2 c2, .int .u8 y, .int .i64 A, .int .i64 B] w fun e w' => e = .returned (.bool true) ∧ Below w.heap.size w w' := by
  obtain ⟨h, rfl⟩ := h
  obtain ⟨hi, rfl, hc2⟩ := hi
  have HH := Lib.hid h
  have hll := hi.len
  have HI := Lib.hid hi
  have hy2 := wf_u8 hy
  have HA := Lib.hid (wf_bounds hA)
  have HB := Lib.hid (wf_bounds hB)
  unfold maxLen at hll
  have hy0 := hy2.1
  have hy1 := hy2.2
  clear h hi hy hA hB hy2
  go_enter Tryz.func3, Tryz.ntmps3
  go_wp2_with fail
  refine (zzFits1_any _ _ t _ HH.out).mono ?_
  rintro e w1 ⟨rfl, hb1⟩
  have HB1 := Lib.hid hb1
  clear hb1
  cases hf : fits1 t
  · go_wp2_with fail
    go_ret
    exact ⟨rfl, HB1.out⟩
  · by_cases k1 : 2147483647 < l.length
    · go_wp2_with fail
      go_ret
      exact ⟨rfl, HB1.out⟩
    go_wp2_with fail
    refine (rising_any _ _ t hf _ _ l (by omega) hc2 _ (HH.out.up HB1.out) (HI.out.up HB1.out)).mono ?_
    rintro e w2 ⟨b, rfl, hS, hb2⟩
    have HB2 := Lib.hid (bnext HB1.out hb2)
    have HS0 := Lib.hid hS
    clear hb2 hS
    cases b
    · go_wp2_with fail
      go_ret
      exact ⟨rfl, HB2.out⟩
    obtain ⟨ns, hS1⟩ := HS0.out (by trivial)
    have HR := Lib.hid hS1.right
    have HO := Lib.hid hS1.ord
    have hle := hS1.right.le
    have hln := hS1.ord.length
    have hln2 := hS1.ord.len
    have hns200 : ns.length ≤ 200 := by omega
    have HLN := Lib.hid hln
    have hnc : ns.length ≤ c2 := by omega
    have HLt := Lib.hid hS1.ord.lt
    clear hS1 hln hln2 HS0
    obtain ⟨r, hr⟩ : ∃ r, r = y % 5 := ⟨_, rfl⟩
    have hr5 : r = 0 ∨ r = 1 ∨ r = 2 ∨ r = 3 ∨ r = 4 := by omega
    rcases hr5 with rfl | rfl | rfl | rfl | rfl
    · have em : y % 5 = 0 := hr.symm
      have em2 : y.tmod 5 = 0 := by rw [Int.tmod_eq_emod_of_nonneg hy0]; exact em
      have hb3 : Below w2.heap.size w2 (w2.alloc (.cells #[.int .i64 32, .string ⟨#[]⟩, .slice none 0 0, .int .i64 A, .int .i64 B] 27)) := (Below.refl _ _).alloc (Nat.le_refl _) _
      have HB3 := Lib.hid (bnext HB2.out hb3)
      have HP3 := Lib.hid (pick_new w2 32 A B)
      have hpl3 : w2.heap.size < (w2.alloc (.cells #[.int .i64 32, .string ⟨#[]⟩, .slice none 0 0, .int .i64 A, .int .i64 B] 27)).heap.size := by simp
      have hrel := relPart_32 ad t.length c a2 c2 ns hns200 ⟨hnc, trivial⟩ A B HA.out HB.out _ ((HI.out.up HB3.out).rowI HO.out)
      rw [← HLN.out] at hrel
      have HRel := Lib.hid hrel
      clear hr hb3 hrel
      go_wp2_with fail
      refine HRel.out.mono ?_
      rintro e w4 ⟨hb, ⟨v, rfl⟩ | ⟨N, a', c', rfl, hr, hm, hl, hp⟩⟩
      · have HB4 := Lib.hid (bnext HB3.out hb)
        clear hb
        go_wp2_with fail
        go_ret
        exact ⟨rfl, HB4.out⟩
      · have HB4 := Lib.hid (bnext HB3.out hb)
        have HR4 := Lib.hid hr
        have HP4 := HP3.out.below hb hpl3
        obtain ⟨p0, p1, p2, p3, p4⟩ := HP4
        have hb5 : Below w4.heap.size w4 (w4.alloc (.cells #[.int .i64 32, .string ⟨#[]⟩, .slice none 0 0, .int .i64 A, .int .i64 B] 27)) := (Below.refl _ _).alloc (Nat.le_refl _) _
        have HB5 := Lib.hid (bnext HB4.out hb5)
        have HR5 := Lib.hid (HR4.out.up hb5)
        have hNl : N.length ≤ 200 := by omega
        have HG := Lib.hid (goes7_any ad c t HR.out a2 c2 l ns HO.out (by omega) 32 A B partOps.1 w4.heap.size N (fun m h => HLt.out m (hm m h)) hNl _ (HH.out.up HB5.out) (HI.out.up HB5.out) (pick_new w4 32 A B) (by simp) hp)
        clear hb hr hm hp hb5
        go_wp2_with fail
        refine HG.out.mono ?_
        rintro e w6 ⟨v, rfl, hown, hb6⟩
        obtain ⟨av, cv, rfl, hrow⟩ := hown.row
        rw [toI_length]
        have HB6 := Lib.hid (bnext HB5.out hb6)
        have HSm := Lib.hid (sameList_any av cv (toI N) a' c' (toI N) (by rw [toI_length]; omega) (by rw [toI_length]; omega) w6 hrow (HR5.out.up hb6))
        rw [toI_length, decide_eq_true rfl] at HSm
        clear hown hrow hb6
        go_wp2_with fail
        refine HSm.out.mono ?_
        rintro e w7 ⟨q, rfl, hz⟩
        have HB7 : Hid (Below w.heap.size w w7) := by rw [Hid, hz]; exact below_drewN HB6.out q
        clear hz
        go_wp2_with fail
        go_ret
        exact ⟨rfl, HB7.out⟩
    · have em : y % 5 = 1 := hr.symm
      have em2 : y.tmod 5 = 1 := by rw [Int.tmod_eq_emod_of_nonneg hy0]; exact em
      have hb3 : Below w2.heap.size w2 (w2.alloc (.cells #[.int .i64 33, .string ⟨#[]⟩, .slice none 0 0, .int .i64 A, .int .i64 B] 27)) := (Below.refl _ _).alloc (Nat.le_refl _) _
      have HB3 := Lib.hid (bnext HB2.out hb3)
      have HP3 := Lib.hid (pick_new w2 33 A B)
      have hpl3 : w2.heap.size < (w2.alloc (.cells #[.int .i64 33, .string ⟨#[]⟩, .slice none 0 0, .int .i64 A, .int .i64 B] 27)).heap.size := by simp
      have hrel := relPart_33 ad t.length c a2 c2 ns hns200 ⟨hnc, trivial⟩ A B HA.out HB.out _ ((HI.out.up HB3.out).rowI HO.out)
      rw [← HLN.out] at hrel
      have HRel := Lib.hid hrel
      clear hr hb3 hrel
      go_wp2_with fail
      refine HRel.out.mono ?_
      rintro e w4 ⟨hb, ⟨v, rfl⟩ | ⟨N, a', c', rfl, hr, hm, hl, hp⟩⟩
      · have HB4 := Lib.hid (bnext HB3.out hb)
        clear hb
        go_wp2_with fail
        go_ret
        exact ⟨rfl, HB4.out⟩
      · have HB4 := Lib.hid (bnext HB3.out hb)
        have HR4 := Lib.hid hr
        have HP4 := HP3.out.below hb hpl3
        obtain ⟨p0, p1, p2, p3, p4⟩ := HP4
        have hb5 : Below w4.heap.size w4 (w4.alloc (.cells #[.int .i64 33, .string ⟨#[]⟩, .slice none 0 0, .int .i64 A, .int .i64 B] 27)) := (Below.refl _ _).alloc (Nat.le_refl _) _
        have HB5 := Lib.hid (bnext HB4.out hb5)
        have HR5 := Lib.hid (HR4.out.up hb5)
        have hNl : N.length ≤ 200 := by omega
        have HG := Lib.hid (goes7_any ad c t HR.out a2 c2 l ns HO.out (by omega) 33 A B partOps.2.1 w4.heap.size N (fun m h => HLt.out m (hm m h)) hNl _ (HH.out.up HB5.out) (HI.out.up HB5.out) (pick_new w4 33 A B) (by simp) hp)
        clear hb hr hm hp hb5
        go_wp2_with fail
        refine HG.out.mono ?_
        rintro e w6 ⟨v, rfl, hown, hb6⟩
        obtain ⟨av, cv, rfl, hrow⟩ := hown.row
        rw [toI_length]
        have HB6 := Lib.hid (bnext HB5.out hb6)
        have HSm := Lib.hid (sameList_any av cv (toI N) a' c' (toI N) (by rw [toI_length]; omega) (by rw [toI_length]; omega) w6 hrow (HR5.out.up hb6))
        rw [toI_length, decide_eq_true rfl] at HSm
        clear hown hrow hb6
        go_wp2_with fail
        refine HSm.out.mono ?_
        rintro e w7 ⟨q, rfl, hz⟩
        have HB7 : Hid (Below w.heap.size w w7) := by rw [Hid, hz]; exact below_drewN HB6.out q
        clear hz
        go_wp2_with fail
        go_ret
        exact ⟨rfl, HB7.out⟩
    · have em : y % 5 = 2 := hr.symm
      have em2 : y.tmod 5 = 2 := by rw [Int.tmod_eq_emod_of_nonneg hy0]; exact em
      have hb3 : Below w2.heap.size w2 (w2.alloc (.cells #[.int .i64 34, .string ⟨#[]⟩, .slice none 0 0, .int .i64 A, .int .i64 B] 27)) := (Below.refl _ _).alloc (Nat.le_refl _) _
      have HB3 := Lib.hid (bnext HB2.out hb3)
      have HP3 := Lib.hid (pick_new w2 34 A B)
      have hpl3 : w2.heap.size < (w2.alloc (.cells #[.int .i64 34, .string ⟨#[]⟩, .slice none 0 0, .int .i64 A, .int .i64 B] 27)).heap.size := by simp
      have hrel := relPart_34 ad t.length c a2 c2 ns hns200 ⟨hnc, trivial⟩ A B HA.out HB.out _ ((HI.out.up HB3.out).rowI HO.out)
      rw [← HLN.out] at hrel
      have HRel := Lib.hid hrel
      clear hr hb3 hrel
      go_wp2_with fail
      refine HRel.out.mono ?_
      rintro e w4 ⟨hb, ⟨v, rfl⟩ | ⟨N, a', c', rfl, hr, hm, hl, hp⟩⟩
      · have HB4 := Lib.hid (bnext HB3.out hb)
        clear hb
        go_wp2_with fail
        go_ret
        exact ⟨rfl, HB4.out⟩
      · have HB4 := Lib.hid (bnext HB3.out hb)
        have HR4 := Lib.hid hr
        have HP4 := HP3.out.below hb hpl3
        obtain ⟨p0, p1, p2, p3, p4⟩ := HP4
        have hb5 : Below w4.heap.size w4 (w4.alloc (.cells #[.int .i64 34, .string ⟨#[]⟩, .slice none 0 0, .int .i64 A, .int .i64 B] 27)) := (Below.refl _ _).alloc (Nat.le_refl _) _
        have HB5 := Lib.hid (bnext HB4.out hb5)
        have HR5 := Lib.hid (HR4.out.up hb5)
        have hNl : N.length ≤ 200 := by omega
        have HG := Lib.hid (goes7_any ad c t HR.out a2 c2 l ns HO.out (by omega) 34 A B partOps.2.2.1 w4.heap.size N (fun m h => HLt.out m (hm m h)) hNl _ (HH.out.up HB5.out) (HI.out.up HB5.out) (pick_new w4 34 A B) (by simp) hp)
        clear hb hr hm hp hb5
        go_wp2_with fail
        refine HG.out.mono ?_
        rintro e w6 ⟨v, rfl, hown, hb6⟩
        obtain ⟨av, cv, rfl, hrow⟩ := hown.row
        rw [toI_length]
        have HB6 := Lib.hid (bnext HB5.out hb6)
        have HSm := Lib.hid (sameList_any av cv (toI N) a' c' (toI N) (by rw [toI_length]; omega) (by rw [toI_length]; omega) w6 hrow (HR5.out.up hb6))
        rw [toI_length, decide_eq_true rfl] at HSm
        clear hown hrow hb6
        go_wp2_with fail
        refine HSm.out.mono ?_
        rintro e w7 ⟨q, rfl, hz⟩
        have HB7 : Hid (Below w.heap.size w w7) := by rw [Hid, hz]; exact below_drewN HB6.out q
        clear hz
        go_wp2_with fail
        go_ret
        exact ⟨rfl, HB7.out⟩
    · have em : y % 5 = 3 := hr.symm
      have em2 : y.tmod 5 = 3 := by rw [Int.tmod_eq_emod_of_nonneg hy0]; exact em
      have hb3 : Below w2.heap.size w2 (w2.alloc (.cells #[.int .i64 35, .string ⟨#[]⟩, .slice none 0 0, .int .i64 A, .int .i64 B] 27)) := (Below.refl _ _).alloc (Nat.le_refl _) _
      have HB3 := Lib.hid (bnext HB2.out hb3)
      have HP3 := Lib.hid (pick_new w2 35 A B)
      have hpl3 : w2.heap.size < (w2.alloc (.cells #[.int .i64 35, .string ⟨#[]⟩, .slice none 0 0, .int .i64 A, .int .i64 B] 27)).heap.size := by simp
      have hrel := relPart_35 ad t.length c a2 c2 ns hns200 ⟨hnc, trivial⟩ A B HA.out HB.out _ ((HI.out.up HB3.out).rowI HO.out)
      rw [← HLN.out] at hrel
      have HRel := Lib.hid hrel
      clear hr hb3 hrel
      go_wp2_with fail
      refine HRel.out.mono ?_
      rintro e w4 ⟨hb, ⟨v, rfl⟩ | ⟨N, a', c', rfl, hr, hm, hl, hp⟩⟩
      · have HB4 := Lib.hid (bnext HB3.out hb)
        clear hb
        go_wp2_with fail
        go_ret
        exact ⟨rfl, HB4.out⟩
      · have HB4 := Lib.hid (bnext HB3.out hb)
        have HR4 := Lib.hid hr
        have HP4 := HP3.out.below hb hpl3
        obtain ⟨p0, p1, p2, p3, p4⟩ := HP4
        have hb5 : Below w4.heap.size w4 (w4.alloc (.cells #[.int .i64 35, .string ⟨#[]⟩, .slice none 0 0, .int .i64 A, .int .i64 B] 27)) := (Below.refl _ _).alloc (Nat.le_refl _) _
        have HB5 := Lib.hid (bnext HB4.out hb5)
        have HR5 := Lib.hid (HR4.out.up hb5)
        have hNl : N.length ≤ 200 := by omega
        have HG := Lib.hid (goes7_any ad c t HR.out a2 c2 l ns HO.out (by omega) 35 A B partOps.2.2.2.1 w4.heap.size N (fun m h => HLt.out m (hm m h)) hNl _ (HH.out.up HB5.out) (HI.out.up HB5.out) (pick_new w4 35 A B) (by simp) hp)
        clear hb hr hm hp hb5
        go_wp2_with fail
        refine HG.out.mono ?_
        rintro e w6 ⟨v, rfl, hown, hb6⟩
        obtain ⟨av, cv, rfl, hrow⟩ := hown.row
        rw [toI_length]
        have HB6 := Lib.hid (bnext HB5.out hb6)
        have HSm := Lib.hid (sameList_any av cv (toI N) a' c' (toI N) (by rw [toI_length]; omega) (by rw [toI_length]; omega) w6 hrow (HR5.out.up hb6))
        rw [toI_length, decide_eq_true rfl] at HSm
        clear hown hrow hb6
        go_wp2_with fail
        refine HSm.out.mono ?_
        rintro e w7 ⟨q, rfl, hz⟩
        have HB7 : Hid (Below w.heap.size w w7) := by rw [Hid, hz]; exact below_drewN HB6.out q
        clear hz
        go_wp2_with fail
        go_ret
        exact ⟨rfl, HB7.out⟩
    · have em : y % 5 = 4 := hr.symm
      have em2 : y.tmod 5 = 4 := by rw [Int.tmod_eq_emod_of_nonneg hy0]; exact em
      have hb3 : Below w2.heap.size w2 (w2.alloc (.cells #[.int .i64 36, .string ⟨#[]⟩, .slice none 0 0, .int .i64 A, .int .i64 B] 27)) := (Below.refl _ _).alloc (Nat.le_refl _) _
      have HB3 := Lib.hid (bnext HB2.out hb3)
      have HP3 := Lib.hid (pick_new w2 36 A B)
      have hpl3 : w2.heap.size < (w2.alloc (.cells #[.int .i64 36, .string ⟨#[]⟩, .slice none 0 0, .int .i64 A, .int .i64 B] 27)).heap.size := by simp
      have hrel := relPart_36 ad t.length c a2 c2 ns hns200 ⟨hnc, trivial⟩ A B HA.out HB.out _ ((HI.out.up HB3.out).rowI HO.out)
      rw [← HLN.out] at hrel
      have HRel := Lib.hid hrel
      clear hr hb3 hrel
      go_wp2_with fail
      refine HRel.out.mono ?_
      rintro e w4 ⟨hb, ⟨v, rfl⟩ | ⟨N, a', c', rfl, hr, hm, hl, hp⟩⟩
      · have HB4 := Lib.hid (bnext HB3.out hb)
        clear hb
        go_wp2_with fail
        go_ret
        exact ⟨rfl, HB4.out⟩
      · have HB4 := Lib.hid (bnext HB3.out hb)
        have HR4 := Lib.hid hr
        have HP4 := HP3.out.below hb hpl3
        obtain ⟨p0, p1, p2, p3, p4⟩ := HP4
        have hb5 : Below w4.heap.size w4 (w4.alloc (.cells #[.int .i64 36, .string ⟨#[]⟩, .slice none 0 0, .int .i64 A, .int .i64 B] 27)) := (Below.refl _ _).alloc (Nat.le_refl _) _
        have HB5 := Lib.hid (bnext HB4.out hb5)
        have HR5 := Lib.hid (HR4.out.up hb5)
        have hNl : N.length ≤ 200 := by omega
        have HG := Lib.hid (goes7_any ad c t HR.out a2 c2 l ns HO.out (by omega) 36 A B partOps.2.2.2.2 w4.heap.size N (fun m h => HLt.out m (hm m h)) hNl _ (HH.out.up HB5.out) (HI.out.up HB5.out) (pick_new w4 36 A B) (by simp) hp)
        clear hb hr hm hp hb5
        go_wp2_with fail
        refine HG.out.mono ?_
        rintro e w6 ⟨v, rfl, hown, hb6⟩
        obtain ⟨av, cv, rfl, hrow⟩ := hown.row
        rw [toI_length]
        have HB6 := Lib.hid (bnext HB5.out hb6)
        have HSm := Lib.hid (sameList_any av cv (toI N) a' c' (toI N) (by rw [toI_length]; omega) (by rw [toI_length]; omega) w6 hrow (HR5.out.up hb6))
        rw [toI_length, decide_eq_true rfl] at HSm
        clear hown hrow hb6
        go_wp2_with fail
        refine HSm.out.mono ?_
        rintro e w7 ⟨q, rfl, hz⟩
        have HB7 : Hid (Below w.heap.size w w7) := by rw [Hid, hz]; exact below_drewN HB6.out q
        clear hz
        go_wp2_with fail
        go_ret
        exact ⟨rfl, HB7.out⟩
end Go.Proofs.YtgilbckfkngaiaaGreat
