/- What a closure tells into two variables: the memory that it turns. -/
import Derived.Test.YtgilbckfkngaiaaT166
import Derived.Test.YtgilbckfkngaiaaT37
import Derived.Test.YtgilbckfkngaiaaT41
import Derived.Test.YtgilbckfkngaiaaT42
namespace Go.Proofs.Ytgilbckfkngaiaa
open Go.RowKit
set_option linter.unusedVariables false

/-- Two rows that do not lie in one block. -/
def Apt (v1 v2 : Value) : Prop := ∀ b, v1.ownBlock = some b → v2.ownBlock ≠ some b
theorem Apt.ne {v1 v2 : Value} (h : Apt v1 v2) : v2.ownBlock = none ∨ v2.ownBlock ≠ v1.ownBlock := by
  cases h2 : v2.ownBlock with
  | none => exact .inl rfl
  | some b =>
    refine .inr fun e => ?_
    exact h b e.symm h2
theorem Apt.symm {v1 v2 : Value} (h : Apt v1 v2) : Apt v2 v1 := fun b h2 h1 => h b h1 h2
theorem Apt.step {v1 v2 v1' : Value} {n : Nat} (h : Apt v1 v2) (hat : v1'.ownBlock = v1.ownBlock ∨ v1'.ownBlock = some n) (hlt : ∀ k, v2.ownBlock = some k → k < n) : Apt v1' v2 := by
  intro b h1 h2
  rcases hat with e | e
  · exact h b (e ▸ h1) h2
  · rw [e] at h1
    cases h1
    exact absurd (hlt _ h2) (Nat.lt_irrefl _)
theorem Apt.none (n m : Nat) (v : Value) : Apt (.slice none n m) v := fun b h => by simp [Value.ownBlock] at h

theorem RSl_one (w : World) (x : Int) : RSl (w.alloc (.cells #[.int .i64 x] 3)) (w.alloc (.cells #[.int .i64 x] 3)).heap.size (some ⟨w.heap.size, 0, none⟩) (ivs [x]) := by
  refine .inr ⟨w.heap.size, 0, rfl, by simp, fun i hi => ?_⟩
  have e : i = 0 := by simp [ivs] at hi; omega
  subst e
  show World.cell? _ ⟨w.heap.size, 0, none⟩ = _
  rw [World.cell?_alloc_mark]
  rfl

/-- From block B down nothing has turned but two variables. -/
structure Tell (B gn gl : Nat) (W W' : World) : Prop where
  os : W'.os = W.os
  tape : W'.tape = W.tape
  output : W'.output = W.output
  size : W.heap.size ≤ W'.heap.size
  block : ∀ b, b < B → b ≠ gn → b ≠ gl → W'.heap[b]? = W.heap[b]?
theorem Tell.refl (B gn gl : Nat) (W : World) : Tell B gn gl W W := ⟨rfl, rfl, rfl, Nat.le_refl _, fun _ _ _ _ => rfl⟩
theorem Tell.trans {B gn gl : Nat} {a b c : World} (h : Tell B gn gl a b) (k : Tell B gn gl b c) : Tell B gn gl a c :=
  ⟨k.os.trans h.os, k.tape.trans h.tape, k.output.trans h.output, Nat.le_trans h.size k.size, fun q h1 h2 h3 => (k.block q h1 h2 h3).trans (h.block q h1 h2 h3)⟩
theorem Tell.of_below {B gn gl : Nat} {a b : World} (h : Below B a b) : Tell B gn gl a b := ⟨h.os, h.tape, h.output, h.size, fun q h1 _ _ => h.block q h1⟩
theorem Tell.below {B gn gl C : Nat} {a b : World} (h : Tell B gn gl a b) (hC : C ≤ B) (h1 : C ≤ gn) (h2 : C ≤ gl) : Below C a b :=
  ⟨h.os, h.tape, h.output, h.size, fun q hq => h.block q (by omega) (by omega) (by omega)⟩
theorem Tell.cell {B gn gl : Nat} {W W' : World} (h : Tell B gn gl W W') {p : Addr} (h1 : p.block < B) (h2 : p.block ≠ gn) (h3 : p.block ≠ gl) : W'.cell? p = W.cell? p := World.cell?_of_block (h.block _ h1 h2 h3)
theorem Tell.set {B gn gl : Nat} {W W' : World} (h : Tell B gn gl W W') {p : Addr} (hp : p.block = gn ∨ p.block = gl) (u : Value) : Tell B gn gl W (W'.setCell p u) :=
  ⟨h.os, h.tape, h.output, by simpa [World.setCell] using h.size, fun q h1 h2 h3 => (Below.heap_setCell _ _ _ _ (by rcases hp with e | e <;> omega)).trans (h.block q h1 h2 h3)⟩

/-- A variable that holds a list of its own. -/
def Var1 (B g : Nat) (v : Value) (K : List Int) (W : World) : Prop :=
  W.heap[g]? = some (.cells #[v] 37 (0, 0)) ∧ (∃ a c, v = .slice a K.length c) ∧ W.ownsRow B 3 1 v K.length (ivs K)
theorem Var1.kept {B g : Nat} {v : Value} {K : List Int} {W W' : World} (h : Var1 B g v K W) (hb : Below W.heap.size W W') : Var1 B g v K W' :=
  ⟨(hb.block g (Array.getElem?_eq_some_iff.1 h.1).1).trans h.1, h.2.1, own_kept h.2.2 (fun b _ hb2 => hb.block b hb2)⟩
theorem Var1.cell {B g : Nat} {v : Value} {K : List Int} {W : World} (h : Var1 B g v K W) : W.cell? ⟨g, 0, none⟩ = some v := by rw [cell_of_row W g 0 _ _ _ h.1]; rfl
theorem Var1.froz {B g : Nat} {v : Value} {K : List Int} {W : World} (h : Var1 B g v K W) : W.frozen? ⟨g, 0, none⟩ = false := frozen_of_row W g 0 _ _ h.1
theorem Var1.lt {B g : Nat} {v : Value} {K : List Int} {W : World} (h : Var1 B g v K W) : g < W.heap.size := (Array.getElem?_eq_some_iff.1 h.1).1

/-- Two variables, their rows apart. -/
def Tells (B gn gl : Nat) (K P : List Int) (W : World) : Prop := ∃ vn vl, Var1 B gn vn K W ∧ Var1 B gl vl P W ∧ Apt vn vl
theorem Tells.kept {B gn gl : Nat} {K P : List Int} {W W' : World} (h : Tells B gn gl K P W) (hb : Below W.heap.size W W') : Tells B gn gl K P W' := by
  obtain ⟨vn, vl, h1, h2, h3⟩ := h
  exact ⟨vn, vl, h1.kept hb, h2.kept hb, h3⟩

/-- The variable that is written holds the longer list. -/
theorem Var1.put {B g : Nat} {v v' : Value} {K K' : List Int} {W W' : World} (h : Var1 B g v K W) (hg : W'.heap[g]? = W.heap[g]?) (hv : ∃ a c, v' = .slice a K'.length c) (hown : W'.ownsRow B 3 1 v' K'.length (ivs K')) (hne : v'.ownBlock ≠ some g) : Var1 B g v' K' (W'.setCell ⟨g, 0, none⟩ v') := by
  refine ⟨?_, hv, own_setCell hown hne _⟩
  have := heap_setCell_same W' g 0 _ _ v' (hg.trans h.1)
  simpa using this
theorem Var1.other {B g : Nat} {v : Value} {K : List Int} {W : World} (h : Var1 B g v K W) {q : Nat} (hq : q ≠ g) (hne : v.ownBlock ≠ some q) (u : Value) : Var1 B g v K (W.setCell ⟨q, 0, none⟩ u) :=
  ⟨by rw [Below.heap_setCell _ _ _ _ (fun e => hq e.symm)]; exact h.1, h.2.1, own_setCell h.2.2 hne _⟩

theorem grown_below2 {W w1 : World} {B : Nat} {row : Option Nat} (h : W.grownBy w1 row) (hB : B ≤ W.heap.size) (hr : ∀ k, row = some k → B ≤ k) : Below B W w1 := (Below.refl B W).grown h hB hr

/-- The whole step: the one list grown, the places read, the other list grown, both written. -/
theorem tells_step {B gn gl : Nat} {vn vl : Value} {K P : List Int} {W Wa w1 w2 w3 : World} {k q : Int} {a1 a2 : Option Addr} {c1 c2 : Nat} (hn : Var1 B gn vn K W) (hl : Var1 B gl vl P W) (hap : Apt vn vl)
    (hgn : gn < B) (hgl : gl < B) (hne : gn ≠ gl) (hB : B ≤ W.heap.size) (hA : Below W.heap.size W Wa)
    (h1 : w1.ownsRow B 3 1 (.slice a1 (K ++ [k]).length c1) (K ++ [k]).length (ivs (K ++ [k]))) (hg1 : Wa.grownBy w1 vn.ownBlock) (hat1 : (Value.slice a1 (K ++ [k]).length c1).ownBlock = vn.ownBlock ∨ (Value.slice a1 (K ++ [k]).length c1).ownBlock = some Wa.heap.size)
    (hb : Below w1.heap.size w1 w2)
    (h2 : w3.ownsRow B 3 1 (.slice a2 (P ++ [q]).length c2) (P ++ [q]).length (ivs (P ++ [q]))) (hg2 : w2.grownBy w3 vl.ownBlock) (hat2 : (Value.slice a2 (P ++ [q]).length c2).ownBlock = vl.ownBlock ∨ (Value.slice a2 (P ++ [q]).length c2).ownBlock = some w2.heap.size) :
    Tells B gn gl (K ++ [k]) (P ++ [q]) ((w3.setCell ⟨gn, 0, none⟩ (.slice a1 (K ++ [k]).length c1)).setCell ⟨gl, 0, none⟩ (.slice a2 (P ++ [q]).length c2)) ∧
      Tell B gn gl W ((w3.setCell ⟨gn, 0, none⟩ (.slice a1 (K ++ [k]).length c1)).setCell ⟨gl, 0, none⟩ (.slice a2 (P ++ [q]).length c2)) := by
  have hsA := hA.size
  have hs1 := hg1.size
  have hs2 := hb.size
  have hs3 := hg2.size
  have b1 : Below B Wa w1 := grown_below2 hg1 (by omega) (fun x hx => (hn.2.2.lt x hx).1)
  have b3 : Below B w2 w3 := grown_below2 hg2 (by omega) (fun x hx => (hl.2.2.lt x hx).1)
  have bT : Below B W w3 := ((hA.mono hB).trans b1).trans ((hb.mono (by omega)).trans b3)
  have ap1 : Apt (.slice a1 (K ++ [k]).length c1) vl := Apt.step hap hat1 (fun x hx => by have := (hl.2.2.lt x hx).2; omega)
  have o1 : w3.ownsRow B 3 1 (.slice a1 (K ++ [k]).length c1) (K ++ [k]).length (ivs (K ++ [k])) := by
    have h1b := own_kept h1 (fun b _ hb2 => hb.block b hb2)
    exact h1b.kept hg2 ap1.symm.ne
  have ap2 : Apt (.slice a1 (K ++ [k]).length c1) (.slice a2 (P ++ [q]).length c2) := (Apt.step ap1.symm hat2 (fun x hx => by have := (h1.lt x hx).2; omega)).symm
  have n1 : ∀ x, x < B → (Value.slice a1 (K ++ [k]).length c1).ownBlock ≠ some x := fun x hx e => by have := (h1.lt x e).1; omega
  have n2 : ∀ x, x < B → (Value.slice a2 (P ++ [q]).length c2).ownBlock ≠ some x := fun x hx e => by have := (h2.lt x e).1; omega
  refine ⟨⟨_, _, (hn.put (bT.block gn hgn) ⟨_, _, rfl⟩ o1 (n1 gn hgn)).other (Ne.symm hne) (n1 gl hgl) _, ?_, ap2⟩, ((Tell.of_below (gn := gn) (gl := gl) bT).set (p := ⟨gn, 0, none⟩) (.inl rfl) _).set (p := ⟨gl, 0, none⟩) (.inr rfl) _⟩
  exact hl.put (by rw [Below.heap_setCell _ _ _ _ (Ne.symm hne)]; exact bT.block gl hgl) ⟨_, _, rfl⟩ (own_setCell h2 (n2 gn hgn) _) (n2 gl hgl)
end Go.Proofs.Ytgilbckfkngaiaa
