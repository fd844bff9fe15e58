/- An element counted among its siblings: the three ways of the program. -/
import Derived.Test.YtgilbckfkngaiaaT160
namespace Go.Proofs.Ytgilbckfkngaiaa
open Go.RowKit
set_option linter.unusedVariables false

/-- The siblings' cells, in every world that follows. -/
structure BroC (N : List ByteArray) (bl : Nat → Nat) (W : World) : Prop where
  fst : W.cell? ⟨bl 0, 1, none⟩ = some (.pointer (some ⟨bl 1, 0, none⟩))
  lst : W.cell? ⟨bl 0, 2, none⟩ = some (.pointer (some ⟨bl N.length, 0, none⟩))
  par : ∀ j, j < N.length → W.cell? ⟨bl (j + 1), 0, none⟩ = some (.pointer (some ⟨bl 0, 0, none⟩))
  typ : ∀ j, j < N.length → W.cell? ⟨bl (j + 1), 5, none⟩ = some (.int .u32 3)
  dat : ∀ j, j < N.length → W.cell? ⟨bl (j + 1), 7, none⟩ = some (.string (N.getD j default))
  nxt : ∀ j, j < N.length → W.cell? ⟨bl (j + 1), 4, none⟩ = some (.pointer (if j + 1 < N.length then some ⟨bl (j + 2), 0, none⟩ else none))
  prv : ∀ j, j < N.length → W.cell? ⟨bl (j + 1), 3, none⟩ = some (.pointer (if 0 < j then some ⟨bl j, 0, none⟩ else none))
  inj : ∀ i j, i < N.length → j < N.length → i ≠ j → bl (i + 1) ≠ bl (j + 1)
  blk : ∀ j, j < N.length → ∃ cs, W.heap[bl (j + 1)]? = some (.cells cs 121 (0, 0)) ∧ cs.size = 10

theorem broC {N : List ByteArray} {B : Nat} {bl : Nat → Nat} {st : Nat → Dn} {w W : World} (hD : Dom w B (fun i => 0 ≤ i ∧ i < N.length + 1) bl st) (hB : Bro N st) (h : Below w.heap.size w W) : BroC N bl W := by
  have hW : Dom W B (fun i => 0 ≤ i ∧ i < N.length + 1) bl st := hD.kept (fun b _ hb => h.block b hb)
  obtain ⟨_, -, f1, f2, -⟩ := hW.cells (i := 0) ⟨by omega, by omega⟩
  rw [hB.fst] at f1
  rw [hB.lst] at f2
  refine ⟨f1, f2, fun j hj => ?_, fun j hj => ?_, fun j hj => ?_, fun j hj => ?_, fun j hj => ?_, fun i j hi hj hne e => ?_, fun j hj => ?_⟩
  · obtain ⟨_, c0, -⟩ := hW.cells (i := j + 1) ⟨by omega, by omega⟩
    rw [(hB.kid j hj).1] at c0; exact c0
  · obtain ⟨_, -, -, -, -, -, c5, -⟩ := hW.cells (i := j + 1) ⟨by omega, by omega⟩
    rw [(hB.kid j hj).2.2.2.1] at c5; exact c5
  · obtain ⟨_, -, -, -, -, -, -, c7, -⟩ := hW.cells (i := j + 1) ⟨by omega, by omega⟩
    rw [(hB.kid j hj).2.2.2.2] at c7
    rw [c7, List.getD_eq_getElem?_getD, List.getElem?_eq_getElem hj]; rfl
  · obtain ⟨_, -, -, -, -, c4, -⟩ := hW.cells (i := j + 1) ⟨by omega, by omega⟩
    rw [(hB.kid j hj).2.1] at c4
    rw [c4]
    split <;> rfl
  · obtain ⟨_, -, -, -, c3, -⟩ := hW.cells (i := j + 1) ⟨by omega, by omega⟩
    rw [(hB.kid j hj).2.2.1] at c3
    rw [c3]
    by_cases e : j = 0
    · rw [if_pos e, if_neg (by omega)]; rfl
    · rw [if_neg e, if_pos (by omega)]; rfl
  · exact hne (by have := hD.inj (i + 1) (j + 1) ⟨by omega, by omega⟩ ⟨by omega, by omega⟩ e; omega)
  · obtain ⟨_, aa, ac, hh, _⟩ := hW.node (j + 1) ⟨by omega, by omega⟩
    exact ⟨_, hh, rfl⟩

theorem cntQ_self (N : List ByteArray) (a : Nat) (ty : Bool) : cntQ N a ty a = true := by unfold cntQ; simp
theorem cntR_mono (p : Nat → Bool) (k : Nat) {m n : Nat} (h : m ≤ n) : cntR p k m ≤ cntR p k n := by
  obtain ⟨d, rfl⟩ : ∃ d, n = m + d := ⟨n - m, by omega⟩
  rw [cntR_add]; omega
/-- One counted ahead of the element is fewer. -/
theorem cnt_less {N : List ByteArray} {a j : Nat} (ty : Bool) (h : j < a) : cntR (cntQ N a ty) 0 (j + 1) + 1 ≤ cntR (cntQ N a ty) 0 (a + 1) := by
  rw [cntR_succ (cntQ N a ty) 0 a, Nat.zero_add, if_pos (cntQ_self N a ty)]
  have := cntR_mono (cntQ N a ty) 0 (show j + 1 ≤ a by omega)
  omega
theorem cnt_lessR {N : List ByteArray} {a j n : Nat} (ty : Bool) (h : a < j) (hj : j ≤ n) : cntR (cntQ N a ty) j (n - j) + 1 ≤ cntR (cntQ N a ty) a (n - a) := by
  obtain ⟨d, hd⟩ : ∃ d, n - a = (j - a) + d := ⟨n - j, by omega⟩
  have h1 := cntR_add (cntQ N a ty) a (j - a) (n - j)
  rw [show j - a + (n - j) = n - a by omega, show a + (j - a) = j by omega] at h1
  obtain ⟨e, he⟩ : ∃ e, j - a = e + 1 := ⟨j - a - 1, by omega⟩
  rw [he, cntR_cons, if_pos (cntQ_self N a ty)] at h1
  omega

theorem BroC.same {N : List ByteArray} {bl : Nat → Nat} {W : World} (a : Nat) (n : Nat) : (binOp .eql 75 (.pointer (some ⟨bl (a + 1), 0, none⟩)) (.pointer (some ⟨bl (a + 1), 0, none⟩))).run Try.prog (W.drewN n) = .ok (.bool true) (W.drewN n) := ptr_same (a + 1) bl _
theorem BroC.other {N : List ByteArray} {bl : Nat → Nat} {W : World} (h : BroC N bl W) {j a : Nat} (hj : j < N.length) (ha : a < N.length) (hne : j ≠ a) (n : Nat) :
    (binOp .eql 75 (.pointer (some ⟨bl (j + 1), 0, none⟩)) (.pointer (some ⟨bl (a + 1), 0, none⟩))).run Try.prog (W.drewN n) = .ok (.bool false) (W.drewN n) :=
  ptr_other bl _ (h.inj _ _ hj ha hne) (h.blk j hj) (h.blk a ha)

def ptrBk : Value → Option Nat
  | .pointer (some a) => some a.block
  | _ => none
/-- Which one of the siblings a pointer leads to, and one more. -/
def idxB (bl : Nat → Nat) (n : Nat) (v : Value) : Nat := match ptrBk v with | none => 0 | some b => 1 + (List.range n).findIdx fun i => bl (i + 1) == b
theorem idxB_at {N : List ByteArray} {bl : Nat → Nat} {W : World} (h : BroC N bl W) {i : Nat} (hi : i < N.length) : idxB bl N.length (.pointer (some ⟨bl (i + 1), 0, none⟩)) = 1 + i := by
  unfold idxB ptrBk
  dsimp only
  congr 1
  rw [List.findIdx_eq (by simpa using hi)]
  refine ⟨by simp, fun j hj => ?_⟩
  rw [beq_eq_false_iff_ne, List.getElem_range]
  exact h.inj j i (by omega) hi (by omega)
theorem idxB_none (bl : Nat → Nat) (n : Nat) : idxB bl n (.pointer none) = 0 := rfl
/-- The pointer to a sibling, or none. -/
def sibP (bl : Nat → Nat) (n j : Nat) : Value := .pointer (if j < n then some ⟨bl (j + 1), 0, none⟩ else none)

def CntPost (b : Bool) (w : World) (e : Ending) (w' : World) : Prop := e = .returned (.bool b) ∧ Below w.heap.size w w'

set_option maxRecDepth 100000 in
set_option maxHeartbeats 4000000 in
theorem simpleNth_any (N : List ByteArray) (a : Nat) (ha : a < N.length) (hn : N.length ≤ 200) (b : Int) (hb : -1000 ≤ b ∧ b ≤ 1000) (ty : Bool) (B : Nat) (bl : Nat → Nat) (st : Nat → Dn) (w : World)
    (hD : Dom w B (fun i => 0 ≤ i ∧ i < N.length + 1) bl st) (hB : Bro N st) :
    Calls Try.prog 138 #[.int .i64 b, .bool ty, .pointer (some ⟨bl (a + 1), 0, none⟩)] w (CntPost ((numN N a false ty : Int) == b) w) := by
  have HC := Lib.hid (fun W (hW : Below w.heap.size w W) => broC hD hB hW)
  have c0 := (HC.out w (Below.refl _ _)).par a ha
  have c5 := (HC.out w (Below.refl _ _)).typ a ha
  have p1 := (HC.out w (Below.refl _ _)).fst
  have hnum : numN N a false ty = cntR (cntQ N a ty) 0 (a + 1) := rfl
  obtain ⟨q, hq⟩ : ∃ q, q = cntQ N a ty := ⟨_, rfl⟩
  have hle : ∀ m, m ≤ N.length → cntR q 0 m ≤ 200 := fun m hm => Nat.le_trans (cntR_le _ _ _) (by omega)
  have HLe := Lib.hid hle
  have HLess : Hid (∀ j, j < a → cntR q 0 (j + 1) + 1 ≤ cntR q 0 (a + 1)) := fun j hj => by rw [hq]; exact cnt_less ty hj
  have HSelf : Hid (q a = true) := by rw [Hid, hq]; exact cntQ_self N a ty
  have HQ : Hid (∀ j, q j = (!ty || ((N.getD j default).toList == (N.getD a default).toList))) := fun j => by rw [hq]; rfl
  have HS : Hid (∀ j, cntR q 0 (j + 1) = cntR q 0 j + if q j = true then 1 else 0) := fun j => by have := cntR_succ q 0 j; rwa [Nat.zero_add] at this
  rw [hnum, ← hq]
  clear hD hB hle hnum hq
  go_enter Try.func138, Try.ntmps138
  go_wp2_with fail
  go_loopw [8, 9] (fun x y wr => ∃ j : Nat, j ≤ a ∧ x = .int .i64 (cntR q 0 j) ∧ y = .pointer (some ⟨bl (j + 1), 0, none⟩) ∧ Below w.heap.size w wr) (fun _ y _ => N.length + 1 - idxB bl N.length y)
  case atStart => exact ⟨0, by omega, rfl, rfl, Below.refl _ _⟩
  case round =>
    obtain ⟨j, hj, rfl, rfl, hbw⟩ := hrel
    have HW := Lib.hid hbw
    have C := Lib.hid (HC.out wr hbw)
    have HM := Lib.hid (idxB_at C.out (show j < N.length by omega))
    have HM1 : Hid (j + 1 < N.length → idxB bl N.length (.pointer (some ⟨bl (j + 2), 0, none⟩)) = 1 + (j + 1)) := fun h => idxB_at C.out h
    have e5 := C.out.typ j (by omega)
    have e7 := C.out.dat j (by omega)
    have a7 := C.out.dat a ha
    have e4 := C.out.nxt j (by omega)
    have hcl0 := HLe.out j (by omega)
    clear hbw c0 c5 p1
    obtain ⟨yj, hyj⟩ : ∃ y, y = N.getD j default := ⟨_, rfl⟩
    obtain ⟨ya, hya⟩ : ∃ y, y = N.getD a default := ⟨_, rfl⟩
    have HQj : Hid (q j = (!ty || (yj.toList == ya.toList))) := by rw [Hid, HQ.out, hyj, hya]
    rw [← hyj] at e7
    rw [← hya] at a7
    clear hyj hya
    have hnx : j < a → (if j + 1 < N.length then some (⟨bl (j + 2), 0, none⟩ : Addr) else none) = some ⟨bl (j + 2), 0, none⟩ := fun h => if_pos (by omega)
    cases ty
    · have hqj : q j = true := HQj.out
      have e4' : j < a → wr.cell? ⟨bl (j + 1), 4, none⟩ = some (.pointer (some ⟨bl (j + 2), 0, none⟩)) := fun h => by rw [e4, hnx h]
      clear hnx
      have hcnt : cntR q 0 (j + 1) = cntR q 0 j + 1 := by have := HS.out j; rwa [hqj] at this
      have hcl := HLe.out (j + 1) (by omega)
      have HCnt := Lib.hid hcnt
      have hci : ((cntR q 0 j : Int) + 1) = (cntR q 0 (j + 1) : Int) := by omega
      by_cases hja : j = a
      · subst hja
        have heq := fun n => BroC.same (N := N) (bl := bl) (W := wr) j n
        clear hcnt
        go_wp2_with fail
        go_quiet (fail)
        go_wp2_with fail
        go_ret
        exact ⟨ret_b (by rw [HCnt.out]; try simp), below_drewN HW.out _⟩
      · have e4'' := e4' (by omega)
        clear e4 e4'
        have heq := fun n => C.out.other (show j < N.length by omega) ha hja n
        have hless := HLess.out j (by omega)
        by_cases hge : (b : Int) ≤ (cntR q 0 j : Int) + 1
        · have HF : Hid ((((cntR q 0 (a + 1) : Nat) : Int) == b) = false) := beq_eq_false_iff_ne.2 (by omega)
          clear hcnt hless
          go_wp2_with fail
          go_quiet (fail)
          go_wp2_with fail
          go_ret
          exact ⟨ret_b HF.out, below_drewN HW.out _⟩
        · clear hcnt hless
          go_wp2_with fail
          go_quiet (fail)
          go_wp2_with fail
          go_roundw
          case rel => exact ⟨j + 1, by omega, by rw [HCnt.out]; try go_num, rfl, below_drewN HW.out _⟩
          case measure => rw [HM.out, HM1.out (by omega)]; omega
    · cases hq2 : (yj.toList == ya.toList)
      · have hqj : q j = false := by rw [HQj.out, hq2]; rfl
        have e4' : j < a → wr.cell? ⟨bl (j + 1), 4, none⟩ = some (.pointer (some ⟨bl (j + 2), 0, none⟩)) := fun h => by rw [e4, hnx h]
        clear hnx
        have hcnt : cntR q 0 (j + 1) = cntR q 0 j := by have := HS.out j; rwa [hqj] at this
        have HCnt := Lib.hid hcnt
        have hja : j ≠ a := by rintro rfl; have := HSelf.out; rw [hqj] at this; cases this
        have e4'' := e4' (by omega)
        clear e4 e4'
        clear hcnt
        go_wp2_with fail
        go_quiet (fail)
        go_wp2_with fail
        go_roundw
        case rel => exact ⟨j + 1, by omega, by rw [HCnt.out], rfl, below_drewN HW.out _⟩
        case measure => rw [HM.out, HM1.out (by omega)]; omega
      · have hqj : q j = true := by rw [HQj.out, hq2]; rfl
        have e4' : j < a → wr.cell? ⟨bl (j + 1), 4, none⟩ = some (.pointer (some ⟨bl (j + 2), 0, none⟩)) := fun h => by rw [e4, hnx h]
        clear hnx
        have hcnt : cntR q 0 (j + 1) = cntR q 0 j + 1 := by have := HS.out j; rwa [hqj] at this
        have hcl := HLe.out (j + 1) (by omega)
        have HCnt := Lib.hid hcnt
        have hci : ((cntR q 0 j : Int) + 1) = (cntR q 0 (j + 1) : Int) := by omega
        by_cases hja : j = a
        · subst hja
          have heq := fun n => BroC.same (N := N) (bl := bl) (W := wr) j n
          clear hcnt
          go_wp2_with fail
          go_quiet (fail)
          go_wp2_with fail
          go_ret
          exact ⟨ret_b (by rw [HCnt.out]; try simp), below_drewN HW.out _⟩
        · have e4'' := e4' (by omega)
          clear e4 e4'
          have heq := fun n => C.out.other (show j < N.length by omega) ha hja n
          have hless := HLess.out j (by omega)
          by_cases hge : (b : Int) ≤ (cntR q 0 j : Int) + 1
          · have HF : Hid ((((cntR q 0 (a + 1) : Nat) : Int) == b) = false) := beq_eq_false_iff_ne.2 (by omega)
            clear hcnt hless
            go_wp2_with fail
            go_quiet (fail)
            go_wp2_with fail
            go_ret
            exact ⟨ret_b HF.out, below_drewN HW.out _⟩
          · clear hcnt hless
            go_wp2_with fail
            go_quiet (fail)
            go_wp2_with fail
            go_roundw
            case rel => exact ⟨j + 1, by omega, by rw [HCnt.out]; try go_num, rfl, below_drewN HW.out _⟩
            case measure => rw [HM.out, HM1.out (by omega)]; omega
set_option maxRecDepth 100000 in
set_option maxHeartbeats 4000000 in
theorem simpleLast_any (N : List ByteArray) (a : Nat) (ha : a < N.length) (hn : N.length ≤ 200) (b : Int) (hb : -1000 ≤ b ∧ b ≤ 1000) (ty : Bool) (B : Nat) (bl : Nat → Nat) (st : Nat → Dn) (w : World)
    (hD : Dom w B (fun i => 0 ≤ i ∧ i < N.length + 1) bl st) (hB : Bro N st) :
    Calls Try.prog 137 #[.int .i64 b, .bool ty, .pointer (some ⟨bl (a + 1), 0, none⟩)] w (CntPost ((numN N a true ty : Int) == b) w) := by
  have HC := Lib.hid (fun W (hW : Below w.heap.size w W) => broC hD hB hW)
  have c0 := (HC.out w (Below.refl _ _)).par a ha
  have c5 := (HC.out w (Below.refl _ _)).typ a ha
  have p1 := (HC.out w (Below.refl _ _)).lst
  have hnum : numN N a true ty = cntR (cntQ N a ty) a (N.length - a) := rfl
  obtain ⟨q, hq⟩ : ∃ q, q = cntQ N a ty := ⟨_, rfl⟩
  have hle : ∀ m, cntR q m (N.length - m) ≤ 200 := fun m => Nat.le_trans (cntR_le _ _ _) (by omega)
  have HLe := Lib.hid hle
  have HLess : Hid (∀ j, a < j → j < N.length → cntR q j (N.length - j) + 1 ≤ cntR q a (N.length - a)) := fun j hj hj2 => by rw [hq]; exact cnt_lessR ty hj (by omega)
  have HSelf : Hid (q a = true) := by rw [Hid, hq]; exact cntQ_self N a ty
  have HQ : Hid (∀ j, q j = (!ty || ((N.getD j default).toList == (N.getD a default).toList))) := fun j => by rw [hq]; rfl
  have HS : Hid (∀ j, j < N.length → cntR q j (N.length - j) = (if q j = true then 1 else 0) + cntR q (j + 1) (N.length - (j + 1))) := fun j hj => by have := cntR_cons q j (N.length - (j + 1)); rwa [show N.length - (j + 1) + 1 = N.length - j by omega] at this
  rw [hnum, ← hq]
  clear hD hB hle hnum hq
  go_enter Try.func137, Try.ntmps137
  go_wp2_with fail
  go_loopw [8, 9] (fun x y wr => ∃ j : Nat, a ≤ j ∧ j < N.length ∧ x = .int .i64 (cntR q (j + 1) (N.length - (j + 1))) ∧ y = .pointer (some ⟨bl (j + 1), 0, none⟩) ∧ Below w.heap.size w wr) (fun _ y _ => idxB bl N.length y)
  case atStart => exact ⟨N.length - 1, by omega, by omega, by rw [show N.length - 1 + 1 = N.length by omega, Nat.sub_self]; rfl, by rw [show N.length - 1 + 1 = N.length by omega], Below.refl _ _⟩
  case round =>
    obtain ⟨j, hj, hjn, rfl, rfl, hbw⟩ := hrel
    have HW := Lib.hid hbw
    have C := Lib.hid (HC.out wr hbw)
    have HM := Lib.hid (idxB_at C.out (show j < N.length by omega))
    have HM1 : Hid (a < j → idxB bl N.length (.pointer (some ⟨bl j, 0, none⟩)) = j) := fun h => by have := idxB_at C.out (show j - 1 < N.length by omega); rw [show j - 1 + 1 = j by omega] at this; omega
    have e5 := C.out.typ j (by omega)
    have e7 := C.out.dat j (by omega)
    have a7 := C.out.dat a ha
    have e4 := C.out.prv j (by omega)
    have hcl0 := HLe.out (j + 1)
    clear hbw c0 c5 p1
    obtain ⟨yj, hyj⟩ : ∃ y, y = N.getD j default := ⟨_, rfl⟩
    obtain ⟨ya, hya⟩ : ∃ y, y = N.getD a default := ⟨_, rfl⟩
    have HQj : Hid (q j = (!ty || (yj.toList == ya.toList))) := by rw [Hid, HQ.out, hyj, hya]
    rw [← hyj] at e7
    rw [← hya] at a7
    clear hyj hya
    have hnx : a < j → (if 0 < j then some (⟨bl j, 0, none⟩ : Addr) else none) = some ⟨bl j, 0, none⟩ := fun h => if_pos (by omega)
    cases ty
    · have hqj : q j = true := HQj.out
      have e4' : a < j → wr.cell? ⟨bl (j + 1), 3, none⟩ = some (.pointer (some ⟨bl j, 0, none⟩)) := fun h => by rw [e4, hnx h]
      clear hnx
      have hcnt : cntR q j (N.length - j) = cntR q (j + 1) (N.length - (j + 1)) + 1 := by have := HS.out j hjn; rw [hqj, if_pos rfl] at this; omega
      have hcl := HLe.out j
      have HCnt := Lib.hid hcnt
      have hci : ((cntR q (j + 1) (N.length - (j + 1)) : Int) + 1) = (cntR q j (N.length - j) : Int) := by omega
      by_cases hja : j = a
      · subst hja
        have heq := fun n => BroC.same (N := N) (bl := bl) (W := wr) j n
        clear hcnt
        go_wp2_with fail
        go_quiet (fail)
        go_wp2_with fail
        go_ret
        exact ⟨ret_b (by rw [HCnt.out]; try simp), below_drewN HW.out _⟩
      · have e4'' := e4' (by omega)
        clear e4 e4'
        have heq := fun n => C.out.other (show j < N.length by omega) ha hja n
        have hless := HLess.out j (by omega) hjn
        by_cases hge : (b : Int) ≤ (cntR q (j + 1) (N.length - (j + 1)) : Int) + 1
        · have HF : Hid ((((cntR q a (N.length - a) : Nat) : Int) == b) = false) := beq_eq_false_iff_ne.2 (by omega)
          clear hcnt hless
          go_wp2_with fail
          go_quiet (fail)
          go_wp2_with fail
          go_ret
          exact ⟨ret_b HF.out, below_drewN HW.out _⟩
        · clear hcnt hless
          go_wp2_with fail
          go_quiet (fail)
          go_wp2_with fail
          go_roundw
          case rel => exact ⟨j - 1, by omega, by omega, by rw [show j - 1 + 1 = j by omega, HCnt.out]; try go_num, by rw [show j - 1 + 1 = j by omega], below_drewN HW.out _⟩
          case measure => rw [HM.out, HM1.out (by omega)]; omega
    · cases hq2 : (yj.toList == ya.toList)
      · have hqj : q j = false := by rw [HQj.out, hq2]; rfl
        have e4' : a < j → wr.cell? ⟨bl (j + 1), 3, none⟩ = some (.pointer (some ⟨bl j, 0, none⟩)) := fun h => by rw [e4, hnx h]
        clear hnx
        have hcnt : cntR q j (N.length - j) = cntR q (j + 1) (N.length - (j + 1)) := by have := HS.out j hjn; rw [hqj, if_neg (by simp)] at this; omega
        have HCnt := Lib.hid hcnt
        have hja : j ≠ a := by rintro rfl; have := HSelf.out; rw [hqj] at this; cases this
        have e4'' := e4' (by omega)
        clear e4 e4'
        clear hcnt
        go_wp2_with fail
        go_quiet (fail)
        go_wp2_with fail
        go_roundw
        case rel => exact ⟨j - 1, by omega, by omega, by rw [show j - 1 + 1 = j by omega, HCnt.out], by rw [show j - 1 + 1 = j by omega], below_drewN HW.out _⟩
        case measure => rw [HM.out, HM1.out (by omega)]; omega
      · have hqj : q j = true := by rw [HQj.out, hq2]; rfl
        have e4' : a < j → wr.cell? ⟨bl (j + 1), 3, none⟩ = some (.pointer (some ⟨bl j, 0, none⟩)) := fun h => by rw [e4, hnx h]
        clear hnx
        have hcnt : cntR q j (N.length - j) = cntR q (j + 1) (N.length - (j + 1)) + 1 := by have := HS.out j hjn; rw [hqj, if_pos rfl] at this; omega
        have hcl := HLe.out j
        have HCnt := Lib.hid hcnt
        have hci : ((cntR q (j + 1) (N.length - (j + 1)) : Int) + 1) = (cntR q j (N.length - j) : Int) := by omega
        by_cases hja : j = a
        · subst hja
          have heq := fun n => BroC.same (N := N) (bl := bl) (W := wr) j n
          clear hcnt
          go_wp2_with fail
          go_quiet (fail)
          go_wp2_with fail
          go_ret
          exact ⟨ret_b (by rw [HCnt.out]; try simp), below_drewN HW.out _⟩
        · have e4'' := e4' (by omega)
          clear e4 e4'
          have heq := fun n => C.out.other (show j < N.length by omega) ha hja n
          have hless := HLess.out j (by omega) hjn
          by_cases hge : (b : Int) ≤ (cntR q (j + 1) (N.length - (j + 1)) : Int) + 1
          · have HF : Hid ((((cntR q a (N.length - a) : Nat) : Int) == b) = false) := beq_eq_false_iff_ne.2 (by omega)
            clear hcnt hless
            go_wp2_with fail
            go_quiet (fail)
            go_wp2_with fail
            go_ret
            exact ⟨ret_b HF.out, below_drewN HW.out _⟩
          · clear hcnt hless
            go_wp2_with fail
            go_quiet (fail)
            go_wp2_with fail
            go_roundw
            case rel => exact ⟨j - 1, by omega, by omega, by rw [show j - 1 + 1 = j by omega, HCnt.out]; try go_num, by rw [show j - 1 + 1 = j by omega], below_drewN HW.out _⟩
            case measure => rw [HM.out, HM1.out (by omega)]; omega
end Go.Proofs.Ytgilbckfkngaiaa
