/- A node of its own: what 'alone' makes. -/
import Derived.Test.YtjebadadimejpaaDoorT7
import Derived.Deep.RegionLaw
namespace Go.Proofs.YtjebadadimejpaaDoor
open Go.RowKit
set_option linter.unusedVariables false

/-- append onto a row of the call's own, as one step of a region that draws its order. -/
theorem step_append_own {P : Program} {ops : Array Oper} {o : Oper} {a : Act} {w : World} {K : Act → World → Prop} {Q : Exit → Act → World → Prop} {E : Prop} (hgd : o.guard = none) (s x : Operand) (t : TypeId)
    (ho : o.op = .call { callee := .builtin .append, args := #[s, x], argTypes := #[t, t] })
    (base : Nat) (e : TypeId) (i : TypeInfo) (z : Value) (size bytes : Nat) (ht : P.underlying t = some (.slice e)) (hi : P.info? e = some i) (hz : i.zero = some z)
    (hsize : i.size = size) (hby : i.bytes = bytes) (hzs : z.cells.size = size) (hsz : 0 < size)
    (v : Value) (n : Nat) (xs : List Value) (hs : a.eval s = v) (hown : w.ownsRow base e size v n xs)
    (ad : Addr) (m c : Nat) (news : List Value) (hx : a.eval x = .slice (some ad) m c) (hl : news.length = m * size) (hnews : ∀ j u, news[j]? = some u → w.cell? (ad.add j) = some u) (h1 : ∀ u ∈ news, u.oneCell' = true)
    (h63 : n + m ≤ maxLen) (hbytes : (n + m) * bytes ≤ 140737488355328) (hbase : base ≤ w.heap.size)
    (h : ∀ v' w', w'.ownsRow base e size v' (n + m) (xs ++ news) → w.grownBy w' v.ownBlock → (v' = .slice none 0 0 ↔ v = .slice none 0 0 ∧ m = 0) → K (a.put o.dst v') w') :
    if Region.wanted o (yielded ops a.tmps) = true then Oper.wp P o a w K Q else E := by
  have hw : Region.wanted o (yielded ops a.tmps) = true := by simp [Region.wanted, hgd]
  rw [if_pos hw]
  exact wp_append_own w s x t ho base e i z size bytes ht hi hz hsize hby hzs hsz v n xs hs hown ad m c news hx hl hnews h1 h63 hbytes hbase h

theorem own_slice {w : World} {base e size n : Nat} {v : Value} {xs : List Value} (h : w.ownsRow base e size v n xs) : ∃ a c, v = .slice a n c := by
  rcases h.2 with ⟨rfl, rfl⟩ | ⟨g, cap, cur, rfl, _⟩
  · exact ⟨none, 0, rfl⟩
  · exact ⟨_, _, rfl⟩

/-- .. the value shown as the slice that it is. -/
theorem step_append_slice {P : Program} {ops : Array Oper} {o : Oper} {a : Act} {w : World} {K : Act → World → Prop} {Q : Exit → Act → World → Prop} {E : Prop} (hgd : o.guard = none) (s x : Operand) (t : TypeId)
    (ho : o.op = .call { callee := .builtin .append, args := #[s, x], argTypes := #[t, t] })
    (base : Nat) (e : TypeId) (i : TypeInfo) (z : Value) (size bytes : Nat) (ht : P.underlying t = some (.slice e)) (hi : P.info? e = some i) (hz : i.zero = some z)
    (hsize : i.size = size) (hby : i.bytes = bytes) (hzs : z.cells.size = size) (hsz : 0 < size)
    (v : Value) (n : Nat) (xs : List Value) (hs : a.eval s = v) (hown : w.ownsRow base e size v n xs)
    (ad : Addr) (m c : Nat) (news : List Value) (hx : a.eval x = .slice (some ad) m c) (hl : news.length = m * size) (hnews : ∀ j u, news[j]? = some u → w.cell? (ad.add j) = some u) (h1 : ∀ u ∈ news, u.oneCell' = true)
    (h63 : n + m ≤ maxLen) (hbytes : (n + m) * bytes ≤ 140737488355328) (hbase : base ≤ w.heap.size)
    (h : ∀ a' c' w', w'.ownsRow base e size (.slice a' (n + m) c') (n + m) (xs ++ news) → w.grownBy w' v.ownBlock → K (a.put o.dst (.slice a' (n + m) c')) w') :
    if Region.wanted o (yielded ops a.tmps) = true then Oper.wp P o a w K Q else E := by
  refine step_append_own hgd s x t ho base e i z size bytes ht hi hz hsize hby hzs hsz v n xs hs hown ad m c news hx hl hnews h1 h63 hbytes hbase ?_
  intro v' w' h2 h3 _
  obtain ⟨a', c', rfl⟩ := own_slice h2
  exact h a' c' w' h2 h3

theorem new3 (W : World) (O : Obj) (a b c : Value) (T : TypeId) : ∀ j u, [a, b, c][j]? = some u → ((W.alloc O).alloc (.cells #[a, b, c] T)).drew.cell? ((⟨W.heap.size + 1, 0, none⟩ : Addr).add j) = some u := by
  intro j u hj
  have e : ((W.alloc O).alloc (.cells #[a, b, c] T)).heap[W.heap.size + 1]? = some (.cells #[a, b, c] T (0, 0)) := by
    have := heap_alloc_new (W.alloc O) (.cells #[a, b, c] T)
    simpa using this
  rw [Addr.add_lit, Nat.zero_add]
  show ((W.alloc O).alloc (.cells #[a, b, c] T)).cell? _ = _
  rw [cell_of_row _ _ j _ _ _ e]
  rw [← hj]
  simp

/-- The attributes as html lays them: no namespace, the key, the value. -/
def flatA (l : List At2) : List Value := l.flatMap fun x => [.string ⟨#[]⟩, .string x.key, .string x.val]

theorem flatA_snoc (l : List At2) (x : At2) : flatA (l ++ [x]) = flatA l ++ [.string ⟨#[]⟩, .string x.key, .string x.val] := by simp [flatA]

theorem Tryd.infoA : (Tryd.prog.info? 72).map (fun i => (i.zero, i.size, i.bytes)) = some (some (.agg #[.string ⟨#[]⟩, .string ⟨#[]⟩, .string ⟨#[]⟩]), 3, 48) := by kernel_rfl

def typOf (k : Int) : Int := if k = 1 then 2 else if k = 2 then 5 else if k = 4 then 1 else if k = 5 then 4 else 3
/-- What stands in Data. -/
def datOf (x : Nd) : ByteArray := if x.kind = 1 then ⟨#[]⟩ else if x.kind = 2 ∨ x.kind = 4 ∨ x.kind = 5 then x.text else x.tag
def atsOf (x : Nd) : List At2 := if x.kind = 1 ∨ x.kind = 2 ∨ x.kind = 4 ∨ x.kind = 5 then [] else x.attrs

/-- A new node: its block, without kin; its attributes in a row of their own. -/
def AlonePost (x : Nd) (w : World) (e : Ending) (w' : World) : Prop :=
  ∃ (g : Nat) (aa : Option Addr) (ac : Nat), e = .returned (.pointer (some ⟨g, 0, none⟩)) ∧ w.heap.size ≤ g ∧
    w'.heap[g]? = some (.cells #[.pointer none, .pointer none, .pointer none, .pointer none, .pointer none, .int .u32 (typOf x.kind), .int .u32 0, .string (datOf x), .string ⟨#[]⟩, .slice aa (atsOf x).length ac] 65 (0, 0)) ∧
    w'.ownsRow (g + 1) 72 3 (.slice aa (atsOf x).length ac) (atsOf x).length (flatA (atsOf x)) ∧ Below w.heap.size w w'

set_option maxRecDepth 100000 in
set_option maxHeartbeats 2000000 in
theorem alone_plain (x : Nd) (w : World) (hx : x.Ok w w.heap.size) (hk : x.kind = 1 ∨ x.kind = 2 ∨ x.kind = 4 ∨ x.kind = 5) :
    Calls Tryd.prog 31 #[.agg #[.int .i64 x.kind, .string x.tag, .string x.text, .slice x.aa x.attrs.length x.ac, .int .i64 x.size]] w (AlonePost x w) := by
  obtain ⟨kd, tag, text, aa, ac, attrs, size⟩ := x
  dsimp only at hk ⊢
  clear hx
  have hnew : ∀ (W : World) (cs : Array Value), Below W.heap.size W (W.alloc (.cells cs 65)) := fun W cs => (Below.refl _ _).alloc (Nat.le_refl _) _
  rcases hk with rfl | rfl | rfl | rfl
  all_goals
    go_enter Tryd.func31, Tryd.ntmps31
    go_wp2_with fail
    go_ret
    refine ⟨w.heap.size + 1, none, 0, rfl, by omega, ?_, World.ownsRow_nil _ _ _ _, ((Below.refl _ _).alloc (Nat.le_refl _) _).alloc (by simp) _⟩
    have e : ∀ (o1 o2 : Obj), ((w.alloc o1).alloc o2).heap[w.heap.size + 1]? = some o2 := fun o1 o2 => by
      have := heap_alloc_new (w.alloc o1) o2
      simpa using this
    rw [e]
    rfl

set_option maxRecDepth 100000 in
set_option maxHeartbeats 2000000 in
theorem alone_el (x : Nd) (w : World) (hx : x.Ok w w.heap.size) (hk : x.kind = 3) (hal : x.attrs.length ≤ 20) :
    Calls Tryd.prog 31 #[.agg #[.int .i64 x.kind, .string x.tag, .string x.text, .slice x.aa x.attrs.length x.ac, .int .i64 x.size]] w (AlonePost x w) := by
  obtain ⟨i0, hinf, hz0, hz1, hz2⟩ := info_parts Tryd.infoA
  have HAt := Lib.hid hx.attrs
  clear hx
  obtain ⟨kd, tag, text, aa, ac, attrs, size⟩ := x
  dsimp only at hk hal HAt ⊢
  subst hk
  go_enter Tryd.func31, Tryd.ntmps31
  go_wp2_with fail
  go_loopw [37] (fun y wr => ∃ (k : Nat) (av : Option Addr) (cv : Nat), k ≤ attrs.length ∧ y = .int .i64 k ∧
      wr.heap[w.heap.size + 1]? = some (.cells #[.pointer none, .pointer none, .pointer none, .pointer none, .pointer none, .int .u32 3, .int .u32 0, .string tag, .string ⟨#[]⟩, .slice av k cv] 65 (0, 0)) ∧
      wr.ownsRow (w.heap.size + 2) 72 3 (.slice av k cv) k (flatA (attrs.take k)) ∧ Below w.heap.size w wr) (fun y _ => attrs.length - (intOf y).toNat)
  case atStart =>
    refine ⟨0, none, 0, by omega, rfl, ?_, World.ownsRow_nil _ _ _ _, ((Below.refl _ _).alloc (Nat.le_refl _) _).alloc (by simp) _⟩
    have e : ∀ (o1 o2 : Obj), ((w.alloc o1).alloc o2).heap[w.heap.size + 1]? = some o2 := fun o1 o2 => by
      have := heap_alloc_new (w.alloc o1) o2
      simpa using this
    rw [e]
  case round =>
    obtain ⟨k, av, cv, hk, rfl, hblk, hown, hb⟩ := hrel
    by_cases hlt : k < attrs.length
    · obtain ⟨hm, hs, hr⟩ := HAt.out
      rcases hr with h0 | ⟨b, o, rfl, hbB, hc⟩
      · subst h0; simp at hlt
      · have g1 := (hb.cell (p := ⟨b, o + k * 2, none⟩) hbB).trans (hc k hlt).1
        have g2 := (hb.cell (p := ⟨b, o + k * 2 + 1, none⟩) hbB).trans (hc k hlt).2
        obtain ⟨y, hy⟩ : ∃ y, y = attrs.getD k default := ⟨_, rfl⟩
        rw [← hy] at g1 g2
        have HY : Hid (attrs.take (k + 1) = attrs.take k ++ [y]) := by
          rw [Hid, List.take_succ_eq_append_getElem hlt, hy, List.getD_eq_getElem?_getD, List.getElem?_eq_getElem hlt, Option.getD_some]
        clear hy hc hs hm
        have hGlt : w.heap.size + 1 < wr.heap.size := (Array.getElem?_eq_some_iff.1 hblk).1
        have c9 : wr.cell? ⟨w.heap.size + 1, 9, none⟩ = some (.slice av k cv) := cell_of_row wr _ 9 _ _ _ hblk
        have c9' : ∀ O2 O3, ((wr.alloc O2).alloc O3).cell? ⟨w.heap.size + 1, 9, none⟩ = some (.slice av k cv) := fun O2 O3 => by
          rw [World.cell?_alloc_lt _ _ _ (by simp; omega), World.cell?_alloc_lt _ _ _ (by exact hGlt)]; exact c9
        have HB := Lib.hid hblk
        have HW := Lib.hid hown
        clear hblk hown
        go_wp2_with fail
        have HN := Lib.hid (new3 wr (.cells #[.string y.key, .string y.val] 34) (.string ⟨#[]⟩) (.string y.key) (.string y.val) 72)
        have HK : Hid (∀ w1, (((wr.alloc (.cells #[.string y.key, .string y.val] 34)).alloc (.cells #[.string ⟨#[]⟩, .string y.key, .string y.val] 72)).drew).grownBy w1 (Value.slice av k cv).ownBlock →
            w1.heap[w.heap.size + 1]? = some (.cells #[.pointer none, .pointer none, .pointer none, .pointer none, .pointer none, .int .u32 3, .int .u32 0, .string tag, .string ⟨#[]⟩, .slice av k cv] 65 (0, 0)) ∧ Below w.heap.size w w1) := by
          intro w1 hg
          have hne : some (w.heap.size + 1) ≠ (Value.slice av k cv).ownBlock := fun e => by have := (HW.out.lt _ e.symm).1; omega
          refine ⟨?_, ?_⟩
          · rw [hg.block (w.heap.size + 1) (by show _ < (((wr.alloc _).alloc _)).heap.size; simp; omega) hne]
            show ((wr.alloc _).alloc _).heap[w.heap.size + 1]? = _
            rw [Below.heap_alloc _ _ _ (by simp; omega), Below.heap_alloc _ _ _ hGlt]
            exact HB.out
          · exact (((hb.alloc hb.size _).alloc (by simp; have := hb.size; omega) _).drew).grown hg (by show _ ≤ ((wr.alloc _).alloc _).heap.size; simp; have := hb.size; omega) (fun q hq => by have := (HW.out.lt q hq).1; omega)
        go_region_law (refine step_append_slice rfl (.tmp 45) (.tmp 51) 63 rfl (w.heap.size + 2) 72 i0 _ 3 48 Tryd.underlying63 hinf hz0 hz1 hz2 rfl (by decide) (.slice av k cv) k (flatA (attrs.take k)) rfl (((HW.out.alloc _).alloc _).drew) ⟨wr.heap.size + 1, 0, none⟩ 1 1 [.string ⟨#[]⟩, .string y.key, .string y.val] rfl rfl HN.out (by intro u hu; simp at hu; rcases hu with rfl | rfl | rfl <;> rfl) (by unfold maxLen; omega) (by omega) (by simp; omega) ?_; intro a1 c1 w1 ho hg; have hk1 := (HK.out w1 hg).1; have hd9 := cell_of_row w1 _ 9 _ _ _ hk1; have hf9 := frozen_of_row w1 _ 9 _ _ hk1; have HK1 := Lib.hid (HK.out w1 hg); have HO := Lib.hid ho; clear ho hg hk1)
        all_goals
          go_wp2_with fail
          go_roundw
          case rel =>
            refine ⟨k + 1, a1, c1, by omega, by go_num, ?_, ?_, HK1.out.2.setCell (by simp) _⟩
            · have := heap_setCell_same w1 (w.heap.size + 1) 9 _ _ (.slice a1 (k + 1) c1) HK1.out.1
              simpa using this
            · rw [HY.out, flatA_snoc]
              exact ownsRow_setCell_below HO.out (by simp) _
          case measure => simp [intOf]; omega
    · go_wp2_with fail
      go_ret
      have e : k = attrs.length := by omega
      subst e
      rw [List.take_length] at hown
      exact ⟨w.heap.size + 1, av, cv, rfl, by omega, hblk, hown, hb⟩
end Go.Proofs.YtjebadadimejpaaDoor
