/- FnSize: the walk. -/
import Derived.Test.YtfebdbfkpmjpeaaT24
import Derived.Test.YtfebdbfkpmjpeaaT18
namespace Go.Proofs.Ytfebdbfkpmjpeaa
open Go.RowKit
set_option linter.unusedVariables false

set_option maxRecDepth 100000 in
set_option maxHeartbeats 2000000 in
theorem FnSize_walk (ad : Option Addr) (len c : Nat) (t : List Nd) (a2 : Option Addr) (len2 c2 : Nat) (l : List Int) (w : World) (h : NSl w w.heap.size ad t ∧ len = t.length) (hi : ISl w w.heap.size a2 l ∧ len2 = l.length) :
    Calls Try.prog 8 #[.slice ad len c, .slice a2 len2 c2] w fun e w' => e = .returned (.bool true) ∧ Below w.heap.size w w' := by
  obtain ⟨h, rfl⟩ := h
  obtain ⟨hi, rfl⟩ := hi
  have HH := Lib.hid h
  have hll := hi.len
  have HI := Lib.hid hi
  unfold maxLen at hll
  clear h hi
  go_enter Try.func8, Try.ntmps8
  go_wp2_with fail
  refine (zzFits1_any _ _ t _ HH.out).mono ?_
  rintro e w1 ⟨rfl, hb1⟩
  have HB1 := Lib.hid hb1
  clear hb1
  cases hf : fits1 t
  · go_wp2_with fail
    go_ret
    exact ⟨rfl, HB1.out⟩
  · by_cases hk2 : 2147483647 < l.length
    · go_wp2_with fail
      go_ret
      exact ⟨rfl, HB1.out⟩
    · go_wp2_with fail
      refine (right_any _ _ t _ (HH.out.up HB1.out) hf).mono ?_
      rintro e w2 ⟨b, rfl, hR, hb2⟩
      have HB2 := Lib.hid (bnext HB1.out hb2)
      clear hb2
      cases b
      · clear hR
        go_wp2_with fail
        go_ret
        exact ⟨rfl, HB2.out⟩
      · have HR := Lib.hid (hR rfl)
        clear hR
        go_wp2_with fail
        refine (order_any _ _ _ _ _ l HR.out.le (by omega) _ (HI.out.up HB2.out)).mono ?_
        rintro e w3 ⟨b, q, rfl, ho, rfl⟩
        have HB3 : Hid (Below w.heap.size w (w2.drewN q)) := below_drewN HB2.out q
        cases b
        · clear ho
          go_wp2_with fail
          go_ret
          exact ⟨rfl, HB3.out⟩
        · obtain ⟨ns, ho⟩ := ho rfl
          have hlen := ho.length
          have d1 : ((ns.length : Int) == (l.length : Int)) = true := beq_iff_eq.2 (by omega)
          have HS := Lib.hid (sizeOf_any ad c t HR.out a2 c2 l ns ho (by omega) (w2.drewN q) (HH.out.up HB3.out) (HI.out.up HB3.out))
          clear ho hlen
          go_wp2_with fail
          refine HS.out.mono ?_
          rintro e w4 ⟨rfl, hb4⟩
          have HB4 := Lib.hid (bnext HB3.out hb4)
          clear hb4
          go_wp2_with fail
          go_ret
          exact ⟨rfl, HB4.out⟩
open Go.WideShapes Go.Deep in
theorem open_ints {H : Type} {enc : TypeId × Value → H} {w : World} {base : Nat} {spare : Nat → Bool} {held : Bool} {a : Option Addr} {len cap : Nat} {d : DataW H} {p : List MemPlace} (h : DataW.Trod enc Try.prog w base spare held 45 (.slice a len cap) d p) :
    ∃ l : List Int, ISl w w.heap.size a l ∧ len = l.length := by
  obtain ⟨fuel, h⟩ := h
  have hC : Try.prog.cellsOf 3 = 1 := by kernel_rfl
  rcases open_slice Try.underlying45 h with ⟨hcs, _⟩ | ⟨a', len', cap', m, n, D, Pl, hcs, _, hl, hm, hmm, hx, hi⟩
  · simp [Value.cells] at hcs
    exact ⟨[], ⟨.inl rfl, by simp, by simp⟩, by simp [hcs.2.1]⟩
  · simp [Value.cells] at hcs
    obtain ⟨rfl, rfl, rfl⟩ := hcs
    have hlm : len ≤ m := by rw [hmm]; split <;> omega
    obtain ⟨l, hll, hp⟩ := list_of len (fun i (x : Int) => w.cell? (a'.add i) = some (.int .i64 x) ∧ (-9223372036854775808 ≤ x ∧ x ≤ 9223372036854775807)) (fun i hil => by
      obtain ⟨cs', hc, ht⟩ := hi i (by omega)
      rw [hC, Nat.mul_one] at hc
      obtain ⟨_, hcl, hat⟩ := World.cells?_some hc
      obtain ⟨v, rfl⟩ : ∃ v, cs' = [v] := by
        match cs', hcl with
        | [v], _ => exact ⟨v, rfl⟩
      obtain ⟨n0, e0, _, z0⟩ := DataW.trod_int Try.underlying3 ht
      simp at e0
      subst e0
      have := hat 0 (by omega)
      rw [Go.Deep.add_add, Nat.add_zero] at this
      exact ⟨n0, this, wf_bounds z0⟩)
    subst hll
    refine ⟨l, ⟨?_, by omega, fun x hx => ?_⟩, rfl⟩
    · rcases Nat.eq_zero_or_pos l.length with h0 | h0
      · exact .inl (by rw [List.eq_nil_of_length_eq_zero h0]; rfl)
      · obtain ⟨b, o, rfl, hb⟩ := addr_plain (k := 0) (hp 0 h0).1
        refine .inr ⟨b, o, rfl, hb, fun i hi2 => ?_⟩
        rw [ivs_length] at hi2
        have := (hp i hi2).1
        rw [Addr.add_lit] at this
        rw [ivs_at hi2]
        exact this
    · obtain ⟨i, hi2, rfl⟩ := List.getElem_of_mem hx
      exact (hp i hi2).2
end Go.Proofs.Ytfebdbfkpmjpeaa
