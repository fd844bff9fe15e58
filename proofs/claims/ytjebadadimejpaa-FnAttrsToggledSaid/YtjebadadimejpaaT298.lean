/- Lists of texts as arguments; their opening. -/
import Derived.Test.YtjebadadimejpaaT18
import Derived.Test.YtjebadadimejpaaP21
import Derived.Test.YtjebadadimejpaaP20
import Derived.Deep.Strs
namespace Go.Proofs.Ytjebadadimejpaa
open Go.ChangeShapes Go.WideShapes Go.Deep Go.RowKit
set_option linter.unusedVariables false

/-- A list of texts in memory. -/
def SSl (w : World) (B : Nat) (a : Option Addr) (l : List ByteArray) : Prop :=
  l.length ≤ maxLen ∧ (∀ x ∈ l, x.size ≤ maxLen) ∧
    (l = [] ∨ ∃ b o, a = some ⟨b, o, none⟩ ∧ b < B ∧ ∀ i (h : i < l.length), w.cell? ⟨b, o + i, none⟩ = some (.string l[i]))
theorem SSl.below {w w' : World} {B : Nat} {a : Option Addr} {l : List ByteArray} (h : SSl w B a l) (hb : Below B w w') : SSl w' B a l := by
  obtain ⟨hm, hs, hr⟩ := h
  refine ⟨hm, hs, ?_⟩
  rcases hr with h0 | ⟨b, o, ha, hbB, hc⟩
  · exact .inl h0
  · exact .inr ⟨b, o, ha, hbB, fun i hi => (hb.cell (p := ⟨b, _, none⟩) hbB).trans (hc i hi)⟩
theorem SSl.more {w : World} {B B' : Nat} {a : Option Addr} {l : List ByteArray} (h : SSl w B a l) (hB : B ≤ B') : SSl w B' a l := by
  obtain ⟨hm, hs, hr⟩ := h
  refine ⟨hm, hs, ?_⟩
  rcases hr with h0 | ⟨b, o, ha, hbB, hc⟩
  · exact .inl h0
  · exact .inr ⟨b, o, ha, by omega, hc⟩
theorem SSl.next {w w' : World} {a : Option Addr} {l : List ByteArray} (h : SSl w w.heap.size a l) (hb : Below w.heap.size w w') : SSl w' w'.heap.size a l := (h.below hb).more hb.size
theorem SSl.at_ {w : World} {B : Nat} {a : Option Addr} {l : List ByteArray} (h : SSl w B a l) (hn : 0 < l.length) : ∃ b o, a = some ⟨b, o, none⟩ ∧ b < B ∧ ∀ i (h : i < l.length), w.cell? ⟨b, o + i, none⟩ = some (.string l[i]) :=
  h.2.2.resolve_left (fun h0 => by rw [h0] at hn; simp at hn)

theorem open_texts_c {H : Type} {enc : TypeId × Value → H} {w : World} {base : Nat} {spare : Nat → Bool} {held : Bool} {a : Option Addr} {len cap : Nat} {d : DataW H} {p : List MemPlace} (h : DataW.Trod enc Try.prog w base spare held 23 (.slice a len cap) d p) :
    ∃ l : List ByteArray, SSl w w.heap.size a l ∧ len = l.length ∧ len ≤ cap := by
  obtain ⟨fuel, h⟩ := h
  rcases Go.Deep.open_strs Try.underlying23 Try.underlying9 (by kernel_rfl) h with ⟨hcs, _⟩ | ⟨a', len', cap', m, Sx, hcs, _, hl, hm, hmm, hx, hi⟩
  · simp [Value.cells] at hcs
    exact ⟨[], ⟨by simp, by simp, .inl rfl⟩, by simp [hcs.2.1]⟩
  · simp [Value.cells] at hcs
    obtain ⟨rfl, rfl, rfl⟩ := hcs
    have hlm : len ≤ m := by rw [hmm]; split <;> omega
    obtain ⟨l, hll, hp⟩ := list_of len (fun i (x : ByteArray) => w.cell? (a'.add i) = some (.string x) ∧ x.size ≤ maxLen) (fun i hil => ⟨_, hi i (by omega)⟩)
    subst hll
    refine ⟨l, ⟨by omega, fun x hx => ?_, ?_⟩, rfl, by first | exact hl | omega⟩
    · obtain ⟨i, hi2, rfl⟩ := List.getElem_of_mem hx
      exact (hp i hi2).2
    · rcases Nat.eq_zero_or_pos l.length with h0 | h0
      · exact .inl (List.eq_nil_of_length_eq_zero h0)
      · obtain ⟨b, o, rfl, hb⟩ := addr_plain (k := 0) (by have := (hp 0 h0).1; exact this)
        refine .inr ⟨b, o, rfl, hb, fun i hi2 => ?_⟩
        have q0 := (hp i hi2).1
        rw [Addr.add_lit] at q0
        exact q0
end Go.Proofs.Ytjebadadimejpaa
