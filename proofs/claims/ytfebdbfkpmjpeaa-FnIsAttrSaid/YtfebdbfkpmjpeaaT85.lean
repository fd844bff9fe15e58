/- The first white space of a text: the program's zzIndexAny at white space. -/
import Derived.Test.YtfebdbfkpmjpeaaT83
import Derived.Test.YtfebdbfkpmjpeaaT84
import Derived.Lib.DecodeN
import Derived.Lib.OthersKept
import Derived.Lib.RuneCount
import Derived.Laws.RangeAny
import Derived.WalkSmall
namespace Go.Proofs.Ytfebdbfkpmjpeaa
open Go.RowKit
set_option linter.unusedVariables false

theorem decodeN_tail (n b0 b1 b2 b3 : Nat) : (2 ≤ (Lib.decodeN n b0 b1 b2 b3).2 → 128 ≤ b1) ∧ (3 ≤ (Lib.decodeN n b0 b1 b2 b3).2 → 128 ≤ b2) ∧ (4 ≤ (Lib.decodeN n b0 b1 b2 b3).2 → 128 ≤ b3) ∧ (Lib.decodeN n b0 b1 b2 b3).2 ≤ 4 := by
  unfold Lib.decodeN
  repeat' split
  all_goals (simp only; omega)
theorem getB {s : ByteArray} {i : Nat} (h : i < s.size) : (s.get! i).toNat = s[i].toNat := by
  have := get_at s i h
  rw [Nat.add_zero] at this
  rw [this]
/-- What stands behind the first byte of a rune is no ASCII. -/
theorem decode_tail (s : ByteArray) (pos : Nat) (h : pos < s.size) (j : Nat) (h1 : pos < j) (h2 : j < pos + (Utf8.decode s pos).2) (hj : j < s.size) : 128 ≤ s[j].toNat := by
  rw [Lib.decode_at] at h2
  obtain ⟨q1, q2, q3, q4⟩ := decodeN_tail (s.size - pos) (s.get! pos).toNat (s.get! (pos + 1)).toNat (s.get! (pos + 2)).toNat (s.get! (pos + 3)).toNat
  have e : j = pos + 1 ∨ j = pos + 2 ∨ j = pos + 3 := by omega
  rcases e with rfl | rfl | rfl
  · rw [← getB hj]; exact q1 (by omega)
  · rw [← getB hj]; exact q2 (by omega)
  · rw [← getB hj]; exact q3 (by omega)
theorem wsB_lt {c : UInt8} (h : wsB c = true) : c.toNat < 128 := by
  have := (wsB_iff c).1 h; omega

/-- Up to a place there is no white space. -/
def NoWs (s : ByteArray) (k : Nat) : Prop := ∀ j (h : j < s.size), j < k → wsB s[j] = false
theorem noWs_step {s : ByteArray} {pos : Nat} (h : NoWs s pos) (hp : pos < s.size) (hn : wsB s[pos] = false) : NoWs s (pos + (Utf8.decode s pos).2) := by
  intro j hj h2
  by_cases e : j < pos
  · exact h j hj e
  · by_cases e2 : j = pos
    · subst e2; exact hn
    · have := decode_tail s pos hp j (by omega) h2 hj
      cases hw : wsB s[j]
      · rfl
      · have := wsB_lt hw; omega
def spaces : ByteArray := ⟨#[32, 9, 13, 10, 12]⟩

/-- The rune at a place is a white space just if the byte there is. -/
theorem rune_ws {s : ByteArray} {pos : Nat} (hp : pos < s.size) : (∃ d, d < 5 ∧ (Utf8.decode s pos).1 = (spaces.data.toList.getD d 0).toNat) ↔ wsB s[pos] = true := by
  rw [wsB_iff]
  have hs : ∀ d, d < 5 → (spaces.data.toList.getD d 0).toNat = 32 ∨ (spaces.data.toList.getD d 0).toNat = 9 ∨ (spaces.data.toList.getD d 0).toNat = 13 ∨ (spaces.data.toList.getD d 0).toNat = 10 ∨ (spaces.data.toList.getD d 0).toNat = 12 := by
    intro d hd
    have e : d = 0 ∨ d = 1 ∨ d = 2 ∨ d = 3 ∨ d = 4 := by omega
    rcases e with rfl | rfl | rfl | rfl | rfl <;> decide
  by_cases ha : s[pos].toNat < 128
  · rw [decode_ascii s pos hp ha]
    constructor
    · rintro ⟨d, hd, e⟩
      have := hs d hd
      simp only at e
      omega
    · rintro (h | h | h | h | h)
      · exact ⟨0, by omega, h⟩
      · exact ⟨1, by omega, h⟩
      · exact ⟨3, by omega, h⟩
      · exact ⟨2, by omega, h⟩
      · exact ⟨4, by omega, h⟩
  · have h1 := (decode_high s pos hp (by omega)).1
    constructor
    · rintro ⟨d, hd, e⟩
      have := hs d hd
      omega
    · intro h; omega

def WsPost (s : ByteArray) (w : World) (e : Ending) (w' : World) : Prop :=
  ∃ z : Int, e = .returned (.int .i64 z) ∧ ((z = -1 ∧ NoWs s s.size) ∨ ∃ (i : Nat) (h : i < s.size), z = i ∧ wsB s[i] = true ∧ NoWs s i) ∧ Below w.heap.size w w'
def WsRel (s : ByteArray) (w wr : World) : Prop :=
  ∃ pos, wr.heap[w.heap.size]? = some (.stringIter s pos) ∧ NoWs s pos ∧ Below w.heap.size w wr

set_option maxRecDepth 100000 in
set_option maxHeartbeats 2000000 in
theorem indexWs_any (s : ByteArray) (w : World) (hs : s.size ≤ 2147483647) : Calls Try.prog 242 #[.string s, .string spaces] w (WsPost s w) := by
  obtain ⟨S, hS⟩ : ∃ S, S = spaces := ⟨_, rfl⟩
  rw [← hS]
  have HS := Lib.hid hS
  clear hS
  go_enter Try.func242, Try.ntmps242
  go_wp2_with fail
  go_loopw [] (fun wr => WsRel s w wr) (fun wr => s.size - wr.iterPos w.heap.size)
  case atStart => exact ⟨0, World.iter_heap w s 0, (fun j _ h => by omega), (Below.refl _ _).alloc (Nat.le_refl _) _⟩
  case round =>
    obtain ⟨pos, hit, hno, hb⟩ := hrel
    have hpos0 := iterPos_of hit
    have HP0 := Lib.hid hpos0
    have HB := Lib.hid hb
    have hsz := hb.size
    clear hpos0 hb
    by_cases hp : pos < s.size
    · have hnx := fun ty => Lib.run_next_any_at (P := Try.prog) wr w.heap.size s pos ty hit hp
      have hd := Lib.decode_width_pos s pos hp
      have HR := Lib.hid (rune_ws hp)
      have HN := Lib.hid (fun h => noWs_step hno hp h)
      have HNo := Lib.hid hno
      have hit2 := Lib.iterAt_heap wr w.heap.size s pos (pos + (Utf8.decode s pos).2) hit
      have hb2 := Lib.below_iterAt HB.out (k := w.heap.size) (Nat.le_refl _) s (pos + (Utf8.decode s pos).2)
      obtain ⟨q, hq⟩ : ∃ q, q = (Utf8.decode s pos).2 := ⟨_, rfl⟩
      obtain ⟨r, hr⟩ : ∃ r, r = (Utf8.decode s pos).1 := ⟨_, rfl⟩
      rw [← hq] at hnx hd HN hit2 hb2
      rw [← hr] at hnx HR
      obtain ⟨W1, hW1⟩ : ∃ W1, W1 = wr.iterAt w.heap.size s (pos + q) := ⟨_, rfl⟩
      rw [← hW1] at hnx hit2 hb2
      have HIt2 := Lib.hid hit2
      have HB2 := Lib.hid hb2
      have hsz2 := hb2.size
      have HPos : Hid (∃ h : pos < s.size, True) := ⟨hp, trivial⟩
      clear hq hr hW1 hit hno hit2 hb2
      go_wp2_with fail
      go_loopw [] (fun w2 => ∃ p, p ≤ 5 ∧ w2 = W1.iter S p ∧ Hid (∀ d, d < p → r ≠ (spaces.data.toList.getD d 0).toNat)) (fun w2 => 5 - w2.iterPos W1.heap.size)
      case atStart => exact ⟨0, by omega, rfl, (fun d h => by omega)⟩
      case round =>
        clear hnx
        obtain ⟨p, hp5, rfl, hne⟩ := hrel
        have hS5 : S.size = 5 := by rw [HS.out]; rfl
        by_cases hlt : p < 5
        · have hpS : p < S.size := by omega
          have hv : (S[p]'hpS).toNat = (spaces.data.toList.getD p 0).toNat := by
            have hS := HS.out
            subst hS
            have e : p = 0 ∨ p = 1 ∨ p = 2 ∨ p = 3 ∨ p = 4 := by omega
            rcases e with rfl | rfl | rfl | rfl | rfl <;> rfl
          have ha : (S[p]'hpS).toNat < 128 := by
            rw [hv]
            have e : p = 0 ∨ p = 1 ∨ p = 2 ∨ p = 3 ∨ p = 4 := by omega
            rcases e with rfl | rfl | rfl | rfl | rfl <;> decide
          have hnx2 := fun ty => run_next_ascii (P := Try.prog) W1 S p ty hpS ha
          rw [hv] at hnx2
          obtain ⟨y, hy⟩ : ∃ y, y = (spaces.data.toList.getD p 0).toNat := ⟨_, rfl⟩
          rw [← hy] at hnx2
          by_cases he : r = y
          · have HF : Hid (wsB s[pos] = true) := HR.out.1 ⟨p, hlt, by rw [← hy]; exact he⟩
            have d1 : ((r : Int) == (y : Int)) = true := by simp [he]
            have HB3 : Hid (Below w.heap.size w (W1.iter S (p + 1))) := HB2.out.alloc (by omega) _
            clear hv ha hy he hne HR
            go_wp2_with fail
            go_ret
            exact ⟨pos, rfl, .inr ⟨pos, hp, rfl, HF.out, HNo.out⟩, HB3.out⟩
          · have d1 : ((r : Int) == (y : Int)) = false := beq_eq_false_iff_ne.2 (by omega)
            have HNe : Hid (∀ d, d < p + 1 → r ≠ (spaces.data.toList.getD d 0).toNat) := by
              intro d hd
              by_cases e : d = p
              · subst e; rw [← hy]; exact he
              · exact hne.out d (by omega)
            clear hv ha hy he hne HR hS5
            go_wp2_with fail
            go_roundw
            case rel => exact ⟨p + 1, by omega, rfl, HNe.out⟩
            case measure => simp; omega
        · have e : p = 5 := by omega
          subst e
          have hnx2 := fun ty => run_next_end (P := Try.prog) W1 S 5 ty (by omega)
          have HF : Hid (wsB s[pos] = false) := by
            cases hw : wsB s[pos]
            · rfl
            · obtain ⟨d, hd, he⟩ := HR.out.2 hw
              exact absurd he (hne.out d hd)
          have HNx := Lib.hid (HN.out HF.out)
          have HB3 : Hid (Below w.heap.size w (W1.iter S 5)) := HB2.out.alloc (by omega) _
          have HIt3 : Hid ((W1.iter S 5).heap[w.heap.size]? = some (.stringIter s (pos + q))) := by
            rw [Hid]
            show (W1.alloc _).heap[w.heap.size]? = _
            rw [Below.heap_alloc W1 _ _ (lt_of_block HIt2.out)]
            exact HIt2.out
          clear hS5 hne HR
          go_wp2_with fail
          go_roundw
          case rel => exact ⟨pos + q, HIt3.out, HNx.out, HB3.out⟩
          case measure => rw [iterPos_of HIt3.out, HP0.out]; omega
    · have hnx := fun ty => Lib.run_next_end_at (P := Try.prog) wr w.heap.size s pos ty hit hp
      have HF : Hid (NoWs s s.size) := fun j hj h => hno j hj (by omega)
      clear hno hit
      go_wp2_with fail
      go_ret
      exact ⟨-1, rfl, .inl ⟨rfl, HF.out⟩, HB.out⟩
end Go.Proofs.Ytfebdbfkpmjpeaa
