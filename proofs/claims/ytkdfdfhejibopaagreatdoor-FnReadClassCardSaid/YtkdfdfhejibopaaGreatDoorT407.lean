/- FnReadEscape: the walk. -/
import Derived.Test.YtkdfdfhejibopaaGreatDoorT406
namespace Go.Proofs.YtkdfdfhejibopaaGreatDoor
open Go.RowKit
set_option linter.unusedVariables false

theorem results_tmp4 {fn : Func} {t u v x : Tmp} (h : fn.results = #[.tmp t, .tmp u, .tmp v, .tmp x]) (tmps : Array Value) (P : Program) (w : World) :
    (results fn tmps).run P w = .ok (.tuple #[tmps.getD t undef, tmps.getD u undef, tmps.getD v undef, tmps.getD x undef]) w := by
  simp [results, h]

/-- What the reference says of an escape. -/
def SEsc (s : ByteArray) (w : World) (e : Ending) (w' : World) : Prop :=
  ∃ (out : ByteArray) (k : Nat) (ok sure : Bool), e = .returned (.tuple #[.string out, .int .i64 (k : Int), .bool ok, .bool sure]) ∧ Below w.heap.size w w' ∧
    (sure = true → ok = escAt s 0 ∧ (ok = true → EscIs s 0 out k false))

/-- A new reader. -/
theorem RdW.made (s : ByteArray) (w : World) : RdW s w.heap.size 0 false w.heap.size w (w.alloc (.cells #[.string s, .int .i64 0, .bool false, .bool false, .bool false] 42)) :=
  ⟨heap_alloc_new w _, (Below.refl _ _).alloc (Nat.le_refl _) _, Nat.le_refl _⟩
theorem PrW.made (s : ByteArray) (w : World) : PrW s w.heap.size 0 (.int .i64 0) (.bool false) w.heap.size w (w.alloc (.cells #[.string s, .int .i64 0, .int .i64 0, .bool false] 52)) :=
  ⟨heap_alloc_new w _, (Below.refl _ _).alloc (Nat.le_refl _) _, Nat.le_refl _⟩

theorem RdW.cu {s : ByteArray} {g k : Nat} {u : Bool} {B : Nat} {W w : World} (h : RdW s g k u B W w) : w.cell? ⟨g, 3, none⟩ = some (.bool u) := by rw [cell_of_row w g 3 _ _ _ h.blk]; rfl

/-- What the package says of one. -/
def CEsc (s : ByteArray) (w : World) (e : Ending) (w' : World) : Prop :=
  ∃ (out : ByteArray) (k : Nat), e = .returned (.tuple #[.string out, .int .i64 (k : Int), .bool (escAt s 0)]) ∧ Below w.heap.size w w' ∧ (escAt s 0 = true → PEscIs s 0 out k)

def CEsc1 (s : ByteArray) (w : World) (e : Ending) (w' : World) : Prop :=
  ∃ (out : ByteArray) (k : Nat), e = .returned (.tuple #[.string out, .int .i64 (k : Int), .nilIface]) ∧ Below w.heap.size w w' ∧ PEscIs s 0 out k
def CEsc0 (w : World) (e : Ending) (w' : World) : Prop :=
  ∃ (x v : Value) (k : Nat), ErrV v ∧ e = .returned (.tuple #[x, .int .i64 (k : Int), v]) ∧ Below w.heap.size w w'

theorem esc_same {s : ByteArray} {k : Nat} {out out' : ByteArray} {k1 k2 : Nat} (h : EscIs s k out k1 false) (h' : PEscIs s k out' k2) : out' = out ∧ k2 = k1 := by
  obtain ⟨j, x, a, b⟩ := h
  obtain ⟨j', x', a', b'⟩ := h'
  obtain rfl : j = j' := x.uniq x'
  rcases Nat.eq_zero_or_pos j with h0 | h0
  · obtain ⟨e1, e2, _⟩ := a h0
    obtain ⟨e3, e4⟩ := a' h0
    exact ⟨e3.trans e1.symm, e4.trans e2.symm⟩
  · obtain ⟨e1, _, e2⟩ := b h0
    obtain ⟨e3, e4⟩ := b' h0
    exact ⟨e4.trans (e2 rfl).symm, e3.trans e1.symm⟩

end Go.Proofs.YtkdfdfhejibopaaGreatDoor
