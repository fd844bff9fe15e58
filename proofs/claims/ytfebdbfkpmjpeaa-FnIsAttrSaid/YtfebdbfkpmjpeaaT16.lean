/- FnIsInput: the reference's side. -/
import Derived.Test.YtfebdbfkpmjpeaaT15
namespace Go.Proofs.Ytfebdbfkpmjpeaa
open Go.RowKit
set_option linter.unusedVariables false

set_option maxRecDepth 100000 in
set_option maxHeartbeats 2000000 in
theorem bare10 (w : World) : Calls Try.prog 137 #[.agg #[.int .i64 10, .int .i64 0, .string ⟨#[]⟩, .string ⟨#[]⟩, .int .i64 0, .int .i64 0, .int .i64 0, .int .i64 1]] w (AnyBB w) := by
  go_enter Try.func137, Try.ntmps137
  go_wp2_with fail
  refine (plain_any _ _ (by decide)).mono ?_
  rintro e w1 ⟨r, rfl, rfl⟩
  cases r
  · go_wp2_with fail
    go_ret
    exact ⟨_, rfl, (Below.refl _ _).alloc (Nat.le_refl _) _⟩
  · go_wp2_with fail
    go_quiet (fail)
    go_wp2_with fail
    go_ret
    exact ⟨_, rfl, below_drewN ((Below.refl _ _).alloc (Nat.le_refl _) _) _⟩

set_option maxRecDepth 100000 in
set_option maxHeartbeats 2000000 in
theorem rs10 (w : World) : Calls Try.prog 82 #[.agg #[.int .i64 10, .int .i64 0, .string ⟨#[]⟩, .string ⟨#[]⟩, .int .i64 0, .int .i64 0, .int .i64 0, .int .i64 1]] w (AnyBB w) := by
  go_enter Try.func82, Try.ntmps82
  go_wp2_with fail
  refine (bare10 _).mono ?_
  rintro e w1 ⟨r, rfl, hb⟩
  have hc0 : w1.cell? ⟨w.heap.size, 0, none⟩ = some (.int .i64 10) := by
    rw [hb.cell (p := ⟨w.heap.size, 0, none⟩) (by simp), World.cell?_alloc_mark]; rfl
  have HB := Lib.hid (bnext ((Below.refl w.heap.size w).alloc (Nat.le_refl _) _) hb)
  clear hb
  cases r
  · go_wp2_with fail
    go_ret
    exact ⟨_, rfl, HB.out⟩
  · go_wp2_with (first | go_in | fail)
    go_ret
    exact ⟨_, rfl, HB.out⟩

/-- isOne: over a list of texts that lies in one new block. -/
def OneAt (w : World) (g : Nat) (l : List ByteArray) : Prop := ∀ i (h : i < l.length), w.cell? ⟨g, i, none⟩ = some (.string l[i])

set_option maxRecDepth 100000 in
set_option maxHeartbeats 1000000 in
theorem isOne_any (s : ByteArray) (g c : Nat) (l : List ByteArray) (hl : l.length ≤ 100) (w : World) (h : OneAt w g l) :
    Calls Try.prog 233 #[.string s, .slice (some ⟨g, 0, none⟩) l.length c] w fun e w' => e = .returned (.bool (l.any fun x => x.toList == s.toList)) ∧ w = w' := by
  have HH := Lib.hid h
  clear h
  go_enter Try.func233, Try.ntmps233
  go_wp2_with fail
  go_loopw [5] (fun x wr => ∃ k : Nat, k ≤ l.length ∧ x = .int .i64 k ∧ Hid ((l.take k).any (fun x => x.toList == s.toList) = false) ∧ w = wr) (fun x _ => l.length - (intOf x).toNat)
  case atStart => exact ⟨0, by omega, rfl, rfl, rfl⟩
  case round =>
    obtain ⟨k, hk, rfl, hno, rfl⟩ := hrel
    by_cases hlt : k < l.length
    · have g1 := HH.out k hlt
      obtain ⟨y, hy⟩ : ∃ y, y = l[k] := ⟨_, rfl⟩
      rw [← hy] at g1
      cases hq : (y.toList == s.toList)
      · have HQ : Hid ((l.take (k + 1)).any (fun x => x.toList == s.toList) = false) := by
          rw [Hid, List.take_succ_eq_append_getElem hlt, List.any_append, hno.out, ← hy]; simp [hq]
        clear hy
        go_wp2_with fail
        go_roundw
        case rel => exact ⟨k + 1, by omega, by go_num, HQ, by trivial⟩
        case measure => simp [intOf]; omega
      · have HQ : Hid ((l.any fun x => x.toList == s.toList) = true) := by
          rw [Hid, List.any_eq_true]; exact ⟨y, by rw [hy]; exact List.getElem_mem hlt, hq⟩
        clear hy
        go_wp2_with fail
        go_ret
        exact ⟨ret_b HQ.out, rfl⟩
    · have HQ : Hid ((l.any fun x => x.toList == s.toList) = false) := by
        have e : k = l.length := by omega
        have := hno.out
        rw [e, List.take_length] at this
        exact this
      go_wp2_with fail
      go_ret
      exact ⟨ret_b HQ.out, rfl⟩

def formNames : List ByteArray := [⟨#[105, 110, 112, 117, 116]⟩, ⟨#[115, 101, 108, 101, 99, 116]⟩, ⟨#[116, 101, 120, 116, 97, 114, 101, 97]⟩, ⟨#[98, 117, 116, 116, 111, 110]⟩]
def isForm (s : ByteArray) : Bool := formNames.any fun x => x.toList == s.toList

theorem oneAt_forms (w : World) (O : Obj) : OneAt ((w.alloc O).alloc (.cells #[.string ⟨#[105, 110, 112, 117, 116]⟩, .string ⟨#[115, 101, 108, 101, 99, 116]⟩, .string ⟨#[116, 101, 120, 116, 97, 114, 101, 97]⟩, .string ⟨#[98, 117, 116, 116, 111, 110]⟩] 9)) (w.heap.size + 1) formNames := by
  intro i h
  have e : ((w.alloc O).alloc (.cells #[.string ⟨#[105, 110, 112, 117, 116]⟩, .string ⟨#[115, 101, 108, 101, 99, 116]⟩, .string ⟨#[116, 101, 120, 116, 97, 114, 101, 97]⟩, .string ⟨#[98, 117, 116, 116, 111, 110]⟩] 9)).heap[w.heap.size + 1]? = some (.cells #[.string ⟨#[105, 110, 112, 117, 116]⟩, .string ⟨#[115, 101, 108, 101, 99, 116]⟩, .string ⟨#[116, 101, 120, 116, 97, 114, 101, 97]⟩, .string ⟨#[98, 117, 116, 116, 111, 110]⟩] 9 (0, 0)) := by
    have := heap_alloc_new (w.alloc O) (.cells #[.string ⟨#[105, 110, 112, 117, 116]⟩, .string ⟨#[115, 101, 108, 101, 99, 116]⟩, .string ⟨#[116, 101, 120, 116, 97, 114, 101, 97]⟩, .string ⟨#[98, 117, 116, 116, 111, 110]⟩] 9)
    simpa using this
  rw [cell_of_row _ _ i _ _ _ e]
  match i, h with
  | 0, _ => rfl
  | 1, _ => rfl
  | 2, _ => rfl
  | 3, _ => rfl

set_option maxRecDepth 100000 in
set_option maxHeartbeats 1000000 in
theorem formed10 (ad : Option Addr) (c : Nat) (t : List Nd) (i : Nat) (hi : i < t.length) (w : World) (h : NSl w w.heap.size ad t) :
    Calls Try.prog 198 #[.slice ad t.length c, .int .i64 i, .int .i64 10] w (MPost (fun m => m = truthI (isForm t[i].tag)) w) := by
  obtain ⟨b, o, rfl, hbB, hc⟩ := h.at_ (by omega)
  obtain ⟨g1, g2, g3, g4, g5, -⟩ := hc i hi
  have hm := h.1
  unfold maxLen at hm
  obtain ⟨x, hx⟩ : ∃ x, x = t[i] := ⟨_, rfl⟩
  rw [← hx] at g1 g2 g3 g4 g5 ⊢
  clear hc hx h
  go_enter Try.func198, Try.ntmps198
  go_wp2_with fail
  refine (isOne_any x.tag (w.heap.size + 1) 4 formNames (by decide) _ (oneAt_forms _ _)).mono ?_
  rintro e w1 ⟨rfl, rfl⟩
  go_wp2_with fail
  refine (truth_any _ _).mono ?_
  rintro e w1 ⟨rfl, rfl⟩
  go_wp2_with fail
  go_ret
  exact ⟨_, rfl, rfl, ((Below.refl _ _).alloc (Nat.le_refl _) _).alloc (by simp) _⟩

set_option maxRecDepth 100000 in
set_option maxHeartbeats 1000000 in
theorem simple10 (ad : Option Addr) (c : Nat) (t : List Nd) (i : Nat) (hi : i < t.length) (w : World) (h : NSl w w.heap.size ad t) :
    Calls Try.prog 145 #[.slice ad t.length c, .int .i64 i, .agg #[.int .i64 10, .int .i64 0, .string ⟨#[]⟩, .string ⟨#[]⟩, .int .i64 0, .int .i64 0, .int .i64 0, .int .i64 1]] w (MPost (fun m => m = truthI (isForm (t.getD i default).tag)) w) := by
  have HH := Lib.hid h
  obtain ⟨b, o, rfl, hbB, hc⟩ := h.at_ (by omega)
  obtain ⟨g1, g2, g3, g4, g5, -⟩ := hc i hi
  have hm := h.1
  unfold maxLen at hm
  have e1 : (t.getD i default).tag = t[i].tag := by rw [getD_at hi]
  rw [e1]
  obtain ⟨x, hx⟩ : ∃ x, x = t[i] := ⟨_, rfl⟩
  rw [← hx] at g1 g2 g3 g4 g5 ⊢
  have HX := Lib.hid hx
  clear hc hx h e1
  have HB := Lib.hid (((Below.refl w.heap.size w).alloc (Nat.le_refl _) (.cells #[.int .i64 10, .int .i64 0, .string ⟨#[]⟩, .string ⟨#[]⟩, .int .i64 0, .int .i64 0, .int .i64 0, .int .i64 1] 27)).alloc (by simp) (.cells #[.int .i64 x.kind, .string x.tag, .string x.text, .slice x.aa x.attrs.length x.ac, .int .i64 x.size] 58))
  go_enter Try.func145, Try.ntmps145
  go_wp2_with fail
  refine (formed10 _ c t i hi _ (HH.out.up HB.out)).mono ?_
  rintro e w1 ⟨m, rfl, hm2, hb⟩
  have HM := Lib.hid hm2
  clear hm2
  go_wp2_with fail
  go_ret
  exact ⟨m, rfl, by rw [HX.out]; exact HM.out, bnext HB.out hb⟩
end Go.Proofs.Ytfebdbfkpmjpeaa
