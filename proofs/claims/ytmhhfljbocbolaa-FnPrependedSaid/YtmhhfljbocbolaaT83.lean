/- The words of a text: the reference's WordsOf and Word. -/
import Derived.Test.YtmhhfljbocbolaaT66
import Derived.Test.YtmhhfljbocbolaaRows
import Derived.WalkKit
import Derived.WalkSpells
import Derived.WalkLawsBesides
import Derived.Lib.Hide
import Derived.Laws.AppendOwn
import Derived.Maps.AppendAt
import Derived.Below
import Derived.LoopTactic
import Derived.Lib.FieldsLaws
import Derived.Lib.IndexBytes
namespace Go.Proofs.Ytmhhfljbocbolaa
open Go.RowKit
set_option linter.unusedVariables false

theorem Try.infoStr : (Try.prog.info? 9).map (fun i => (i.zero, i.size, i.bytes)) = some (some (.string ⟨#[]⟩), 1, 16) := by kernel_rfl

/-- Texts, as values. -/
def strs (l : List (List UInt8)) : List Value := l.map fun x => Value.string ⟨x.toArray⟩
theorem strs_length (l : List (List UInt8)) : (strs l).length = l.length := by simp [strs]
theorem strs_at {l : List (List UInt8)} {i : Nat} (h : i < l.length) : (strs l)[i]'(by rw [strs_length]; exact h) = .string ⟨l[i].toArray⟩ := by simp [strs]
theorem strs_snoc (l : List (List UInt8)) (x : List UInt8) : strs (l ++ [x]) = strs l ++ [.string ⟨x.toArray⟩] := by simp [strs]
theorem ext_str (s : ByteArray) (a b : Nat) : s.extract a b = ⟨((s.data.toList.drop a).take (b - a)).toArray⟩ := by
  apply ByteArray.ext
  apply Array.ext'
  rw [Lib.extract_data]
theorem wsB_iff (c : UInt8) : wsB c = true ↔ c.toNat = 32 ∨ c.toNat = 9 ∨ c.toNat = 10 ∨ c.toNat = 13 ∨ c.toNat = 12 := by
  have e : ∀ d : UInt8, (c == d) = true ↔ c.toNat = d.toNat := fun d => by rw [beq_iff_eq]; exact UInt8.toNat_inj.symm
  unfold wsB
  simp only [Bool.or_eq_true, e]
  rw [or_assoc, or_assoc, or_assoc]
  exact Iff.rfl

theorem own_sl {w : World} {base e size n : Nat} {v : Value} {xs : List Value} (h : w.ownsRow base e size v n xs) : ∃ a c, v = .slice a n c := by
  rcases h.2 with ⟨hv, h0⟩ | ⟨g, cap, cur, hv, _⟩
  · exact ⟨none, 0, by rw [hv, h0]⟩
  · exact ⟨_, cap, hv⟩

def StrsPost (l : List (List UInt8)) (w : World) (e : Ending) (w' : World) : Prop :=
  ∃ a c, e = .returned (.slice a l.length c) ∧ w'.ownsRow w.heap.size 9 1 (.slice a l.length c) l.length (strs l) ∧ Below w.heap.size w w'
def WordsRel (s : ByteArray) (W : World) (v fr x : Value) (wr : World) : Prop :=
  ∃ (k f : Nat) (acc : List (List UInt8)) (a : Option Addr) (c : Nat), k ≤ s.size + 1 ∧ f ≤ k ∧ (k = s.size + 1 → f = k) ∧ x = .int .i64 (k : Nat) ∧ fr = .int .i64 (f : Nat) ∧ v = .slice a acc.length c ∧
    wr.ownsRow W.heap.size 9 1 (.slice a acc.length c) acc.length (strs acc) ∧ Hid (words s.data.toList = acc ++ wds ((s.data.toList.drop f).take (k - f)) (s.data.toList.drop k)) ∧ acc.length ≤ k ∧ Below W.heap.size W wr

theorem words_go {l : List UInt8} {k f : Nat} {acc : List (List UInt8)} {c : UInt8} (hf : f ≤ k) (hk : l[k]? = some c) (hc : wsB c = false) (h : words l = acc ++ wds ((l.drop f).take (k - f)) (l.drop k)) :
    words l = acc ++ wds ((l.drop f).take (k + 1 - f)) (l.drop (k + 1)) := by
  rw [h, Lib.drop_at hk, wds_no _ hc, Lib.piece_more hf hk]
theorem words_cut {l : List UInt8} {k f : Nat} {acc : List (List UInt8)} (hf : f ≤ k) (hkl : k ≤ l.length) (hc : ∀ c, l[k]? = some c → wsB c = true) (h : words l = acc ++ wds ((l.drop f).take (k - f)) (l.drop k)) :
    words l = (if f < k then acc ++ [(l.drop f).take (k - f)] else acc) ++ wds ((l.drop (k + 1)).take (k + 1 - (k + 1))) (l.drop (k + 1)) := by
  have h1 : wds ((l.drop f).take (k - f)) (l.drop k) = (if (l.drop f).take (k - f) = [] then [] else [(l.drop f).take (k - f)]) ++ wds [] (l.drop (k + 1)) := by
    cases hk : l[k]? with
    | none =>
      have : l.length ≤ k := List.getElem?_eq_none_iff.1 hk
      rw [List.drop_of_length_le this, List.drop_of_length_le (by omega : l.length ≤ k + 1), wds, wds]; simp
    | some c => rw [Lib.drop_at hk, wds_ws _ (hc c hk)]
  rw [h, h1, Nat.sub_self, List.take_zero]
  by_cases hlt : f < k
  · rw [if_pos hlt, if_neg (Lib.piece_ne hlt hkl), List.append_assoc]
  · obtain rfl : f = k := by omega
    simp

end Go.Proofs.Ytmhhfljbocbolaa
