/- FnSpecificWhole: texts joined (joinf.py) -/
import Derived.Test.YtnibpdmbccfgoaaGreatDoorJ2
import Derived.Lib.BufferMore
import Derived.Below
import Derived.Laws.Cover4
import Derived.Deep.DeepCutAuto
import Derived.Deep.CutBlock
import Derived.Test.YtnibpdmbccfgoaaGreatDoorJ1
import Derived.Lib.Strings
import Derived.Lib.Walk
import Derived.Lib.ConvBytes
import Derived.Lib.AtoiAllMem
import Derived.Laws.Strings3
import Derived.Laws.Closers25
import Derived.Laws.Closers25b
import Derived.BigCall
import Derived.BigGuard
namespace Go.Proofs.YtnibpdmbccfgoaaGreatDoor
open Go.RowKit
set_option linter.unusedVariables false

def isWs (c : Nat) : Bool := decide (c = 32 ∨ c = 9 ∨ c = 10 ∨ c = 13 ∨ c = 12)

end Go.Proofs.YtnibpdmbccfgoaaGreatDoor

namespace Go.Proofs.YtnibpdmbccfgoaaGreatDoor
open Go.RowKit
set_option linter.unusedVariables false

theorem wsEnd_crlf {s : ByteArray} {e : Nat} (h : isCrlf s e = true) : wsEnd s e = e + 2 := by
  unfold isCrlf at h
  have h := of_decide_eq_true h
  unfold wsEnd
  rw [if_pos (by omega), if_pos h.2.1, if_pos ⟨h.1, h.2.2⟩]
theorem wsEnd_no {s : ByteArray} {e : Nat} (h : isCrlf s e = false) : wsEnd s e = if isWs (bAt s e) then e + 1 else e := by
  unfold isCrlf at h
  have h := of_decide_eq_false h
  unfold wsEnd isWs
  by_cases h1 : e < s.size
  · rw [if_pos h1]
    by_cases h2 : bAt s e = 13
    · rw [if_pos h2, if_neg (fun q => h ⟨q.1, h2, q.2⟩), if_pos (by simp [h2])]
    · rw [if_neg h2]
      by_cases h3 : bAt s e = 32 ∨ bAt s e = 9 ∨ bAt s e = 10 ∨ bAt s e = 12
      · rw [if_pos h3, if_pos]
        exact decide_eq_true (by omega)
      · rw [if_neg h3, if_neg]
        simp only [decide_eq_true_eq]; omega
  · rw [if_neg h1, bAt_out (by omega)]
    rfl

/-- A number that is no code point, or one that is not sure. -/
def badCp (n : Nat) : Bool := decide (n = 0 ∨ n = 65279 ∨ 1114111 < n ∨ (55296 ≤ n ∧ n < 57344))

/-- What an escape is: k is the backslash's place. -/
def EscIs (s : ByteArray) (k : Nat) (out : ByteArray) (k' : Nat) (u : Bool) : Prop :=
  ∃ j, HxTo s (k + 1) j ∧ (j = 0 → out = s.extract (k + 1) (k + 2) ∧ k' = k + 2 ∧ u = false) ∧
    (0 < j → k' = wsEnd s (k + 1 + j) ∧ u = badCp (hxV s (k + 1) j) ∧ (u = false → out = Utf8.encode ((hxV s (k + 1) j : Nat) : Int)))

theorem run_rune_row (P : Program) (w : World) (b : Nat) (n : Int) (src dst e : TypeId) (hs : P.underlying src = some (.slice e)) (he : P.underlying e = some (.int .i32)) (hd : P.underlying dst = some .string) (hc : w.cell? ⟨b, 0, none⟩ = some (.int .i32 n)) (c : Nat) :
    (convert src dst (.slice (some ⟨b, 0, none⟩) 1 c)).run P w = .ok (.string (Utf8.encode n)) w := by
  rw [run_convert_runes_string w src dst e _ _ _ hs he hd]
  have := run_runesToString (P := P) w ⟨b, 0, none⟩ 1 c [n] (by simp [loadCells, loadCellsFrom, Addr.add, hc, Result.andThen])
  rw [this]
  show Result.ok (Value.string (ByteArray.empty ++ Utf8.encode n)) w = _
  rw [ByteArray.empty_append]

end Go.Proofs.YtnibpdmbccfgoaaGreatDoor

namespace Go.Proofs.YtnibpdmbccfgoaaGreatDoor
open Go.RowKit
set_option linter.unusedVariables false


theorem lower_any (c y : Int) (h : bits .or .u8 c 32 = y) (w : World) :
    Calls Tryz.prog 83 #[.int .u8 c] w (EscNum (.int .u8 y) w) := by
  go_enter Tryz.func83, Tryz.ntmps83
  go_wp2
  go_ret
  exact ⟨by rw [← h]; rfl, rfl⟩

theorem or_low {c : Nat} (h : 97 ≤ c ∧ c ≤ 102) : bits .or .u8 (c : Int) 32 = (c : Int) := by
  have : c = 97 ∨ c = 98 ∨ c = 99 ∨ c = 100 ∨ c = 101 ∨ c = 102 := by omega
  rcases this with rfl | rfl | rfl | rfl | rfl | rfl <;> rfl
theorem or_up {c : Nat} (h : 65 ≤ c ∧ c ≤ 70) : bits .or .u8 (c : Int) 32 = ((c + 32 : Nat) : Int) := by
  have : c = 65 ∨ c = 66 ∨ c = 67 ∨ c = 68 ∨ c = 69 ∨ c = 70 := by omega
  rcases this with rfl | rfl | rfl | rfl | rfl | rfl <;> rfl

theorem bAt_list {t : ByteArray} {k : Nat} (h : k < t.size) : ((t.data.toList.getD k 0).toNat : Int) = (bAt t k : Int) := by
  rw [bAt_in h, List.getD_eq_getElem?_getD]
  have h2 : k < t.data.toList.length := by simpa using h
  rw [List.getElem?_eq_getElem h2]
  simp
  rfl

set_option maxHeartbeats 8000000 in
set_option maxRecDepth 100000 in
theorem iparse_any (t : ByteArray) (h1 : 1 ≤ t.size) (h6 : t.size ≤ 6) (hx : ∀ x, x < t.size → isHx (bAt t x) = true) (w : World) :
    Calls Tryz.prog 78 #[.string t, .int .i64 16, .int .i64 64] w fun e w' => e = .returned (.tuple #[.int .u64 (hxV t 0 t.size : Nat), .nilIface]) ∧ w' = Lib.bytesWorld w 5 t := by
  have hne : t.size ≠ 0 := by omega
  have hemp : t.toList.isEmpty = false := by
    rw [← decide_eq_emptyBytes]
    exact decide_eq_false (fun h => hne (by rw [h]; rfl))
  have hcv := Lib.run_convert_string_bytes (P := Tryz.prog) w 9 70 5 t Tryz.underlying9 Tryz.underlying70 Tryz.underlying5
  have hB : ∀ j, j < t.size → (Lib.bytesWorld w 5 t).cell? ⟨w.heap.size, j, none⟩ = some (.int .u8 (bAt t j : Int)) := fun j hj => by rw [Lib.bytesWorld_cell w 5 t j hj, bAt_list hj]
  obtain ⟨W1, hW1⟩ : ∃ W1, W1 = Lib.bytesWorld w 5 t := ⟨_, rfl⟩
  rw [← hW1] at hcv hB ⊢
  have HX := Lib.hid hx
  clear hW1 hx
  have hmv : IntKind.u64.wrap (IntKind.u64.wrap 18446744073709551616 - 1) = 18446744073709551615 := by
    rw [IntKind.wrap_u64, IntKind.wrap_u64]
    decide
  go_enter Tryz.func78, Tryz.ntmps78
  go_wp2
  go_loop [12, 13, 101] (fun vu vn vi => ∃ (k : Nat) (a : Int), vu = .bool false ∧ vn = .int .u64 a ∧ vi = .int .i64 k ∧ k ≤ t.size ∧ 0 ≤ a ∧ a < 16777216 * 16 ∧ Hid (a = (hxV t 0 k : Nat)))
    (fun _ _ vi => t.size - (intOf vi).toNat)
  case atStart => exact ⟨0, 0, rfl, rfl, rfl, by omega, by omega, by omega, rfl⟩
  case round =>
    obtain ⟨k, a, rfl, rfl, rfl, hk, a0, _, ha⟩ := hrel
    by_cases hkn : k < t.size
    · have hc := hB k hkn
      have hxk := HX.out k hkn
      have hlt := hxV_lt (s := t) (k := 0) k (fun x hx => by rw [Nat.zero_add]; exact HX.out x (by omega))
      have hp : (16 : Nat) ^ k ≤ 1048576 := by
        have : k = 0 ∨ k = 1 ∨ k = 2 ∨ k = 3 ∨ k = 4 ∨ k = 5 := by omega
        rcases this with rfl | rfl | rfl | rfl | rfl | rfl <;> decide
      have a1 : a < 1048576 := by rw [ha.out]; omega
      have hd16 := hxD_lt hxk
      have HS : Hid ((hxV t 0 (k + 1) : Int) = 16 * a + (hxD (bAt t k) : Nat)) := by
        rw [Hid, ha.out]
        show ((16 * hxV t 0 k + hxD (bAt t (0 + k)) : Nat) : Int) = _
        rw [Nat.zero_add]; push_cast; rfl
      obtain ⟨c, hcc⟩ : ∃ c, c = bAt t k := ⟨_, rfl⟩
      rw [← hcc] at hc hxk HS hd16
      rw [isHx_iff] at hxk
      clear hB hlt hp hcc ha
      rcases hxk with ⟨d0, d1⟩ | ⟨d0, d1⟩ | ⟨d0, d1⟩
      · have hv : hxD c = c - 48 := by unfold hxD; rw [if_pos d1]
        rw [hv] at HS
        have HN : Hid (a * 16 + ((c : Int) - 48) = (hxV t 0 (k + 1) : Nat)) := by rw [Hid]; have := HS.out; omega
        have iov : a * 16 + ((c : Int) - 48) < 16777216 := by omega
        clear HS hv hd16
        go_wp2
        refine ⟨⟨k + 1, a * 16 + ((c : Int) - 48), rfl, (by first | rfl | (congr 1; omega)), (by first | rfl | (congr 1; omega)), by omega, by omega, by omega, HN⟩, by simp [intOf]; omega⟩
      · have hv : hxD c = c - 87 := by unfold hxD; rw [if_neg (by omega), if_pos d0]
        rw [hv] at HS
        have HN : Hid (a * 16 + ((c : Int) - 87) = (hxV t 0 (k + 1) : Nat)) := by rw [Hid]; have := HS.out; omega
        have iov : a * 16 + ((c : Int) - 87) < 16777216 := by omega
        have HL := Lib.hid (fun w => lower_any (c : Int) (c : Int) (or_low ⟨d0, d1⟩) w)
        clear HS hv hd16
        go_wp2_with fail
        refine (HL.out _).mono ?_
        rintro e w' ⟨rfl, rfl⟩
        go_wp2_with fail
        refine (HL.out _).mono ?_
        rintro e w' ⟨rfl, rfl⟩
        go_wp2_with fail
        refine (HL.out _).mono ?_
        rintro e w' ⟨rfl, rfl⟩
        go_wp2_with fail
        refine ⟨⟨k + 1, a * 16 + ((c : Int) - 87), rfl, (by first | rfl | (congr 1; omega)), (by first | rfl | (congr 1; omega)), by omega, by omega, by omega, HN⟩, by simp [intOf]; omega⟩
      · have hv : hxD c = c - 55 := by unfold hxD; rw [if_neg (by omega), if_neg (by omega)]
        rw [hv] at HS
        obtain ⟨y, hy⟩ : ∃ y : Int, y = ((c + 32 : Nat) : Int) := ⟨_, rfl⟩
        have y0 : 97 ≤ y := by omega
        have y1 : y ≤ 102 := by omega
        have HN : Hid (a * 16 + (y - 87) = (hxV t 0 (k + 1) : Nat)) := by rw [Hid]; have := HS.out; omega
        have iov : a * 16 + (y - 87) < 16777216 := by omega
        have HL := Lib.hid (fun w => lower_any (c : Int) y (by rw [hy]; exact or_up ⟨d0, d1⟩) w)
        clear HS hv hd16 hy
        go_wp2_with fail
        refine (HL.out _).mono ?_
        rintro e w' ⟨rfl, rfl⟩
        go_wp2_with fail
        refine (HL.out _).mono ?_
        rintro e w' ⟨rfl, rfl⟩
        go_wp2_with fail
        refine (HL.out _).mono ?_
        rintro e w' ⟨rfl, rfl⟩
        go_wp2_with fail
        refine ⟨⟨k + 1, a * 16 + (y - 87), rfl, (by first | rfl | (congr 1; omega)), (by first | rfl | (congr 1; omega)), by omega, by omega, by omega, HN⟩, by simp [intOf]; omega⟩
    · have hkk : k = t.size := by omega
      have HV : Hid (Value.int .u64 a = Value.int .u64 (hxV t 0 t.size : Nat)) := by rw [Hid, ha.out, hkk]
      clear ha
      go_wp2
      go_ret2
      exact ⟨by first | rfl | (rw [← HV.out]; rfl) | (rw [HV.out]), rfl⟩

set_option maxRecDepth 100000 in
theorem sparse_any (t : ByteArray) (h1 : 1 ≤ t.size) (h6 : t.size ≤ 6) (hx : ∀ x, x < t.size → isHx (bAt t x) = true) (w : World) :
    Calls Tryz.prog 72 #[.string t, .int .i64 16, .int .i64 64] w fun e w' => e = .returned (.tuple #[.int .u64 (hxV t 0 t.size : Nat), .nilIface]) ∧ w' = Lib.bytesWorld w 5 t := by
  have HP := Lib.hid (iparse_any t h1 h6 hx w)
  clear hx
  go_enter Tryz.func72, Tryz.ntmps72
  go_wp2_with fail
  refine HP.out.mono ?_
  rintro e w1 ⟨rfl, rfl⟩
  go_wp2_with fail
  go_ret2
  exact ⟨rfl, rfl⟩
end Go.Proofs.YtnibpdmbccfgoaaGreatDoor
