/- FnAttrOr: the walk. -/
import Derived.Test.YtfebdbfkpmjpeaaT30
namespace Go.Proofs.Ytfebdbfkpmjpeaa
open Go.RowKit
set_option linter.unusedVariables false

set_option maxRecDepth 100000 in
set_option maxHeartbeats 2000000 in
theorem FnAttrOr_walk (ad : Option Addr) (len c : Nat) (t : List Nd) (a2 : Option Addr) (len2 c2 : Nat) (l : List Int) (k d : ByteArray) (w : World) (h : NSl w w.heap.size ad t ∧ len = t.length) (hi : ISl w w.heap.size a2 l ∧ len2 = l.length) (hk : k.size ≤ maxLen) (hd : d.size ≤ maxLen) :
    Calls Try.prog 10 #[.slice ad len c, .slice a2 len2 c2, .string k, .string d] w fun e w' => e = .returned (.bool true) ∧ Below w.heap.size w w' := by
  obtain ⟨h, rfl⟩ := h
  obtain ⟨hi, rfl⟩ := hi
  have HH := Lib.hid h
  have hll := hi.len
  have HI := Lib.hid hi
  unfold maxLen at hll hk hd
  clear h hi
  go_enter Try.func10, Try.ntmps10
  go_wp2_with fail
  refine (zzFits1_any _ _ t _ HH.out).mono ?_
  rintro e w1 ⟨rfl, hb1⟩
  have HB1 := Lib.hid hb1
  clear hb1
  cases hf : fits1 t
  · go_wp2_with fail
    go_ret
    exact ⟨rfl, HB1.out⟩
  · by_cases k1 : 2147483647 < l.length
    · go_wp2_with fail
      go_ret
      exact ⟨rfl, HB1.out⟩
    by_cases k2 : 2147483647 < k.size
    · go_wp2_with fail
      go_ret
      exact ⟨rfl, HB1.out⟩
    by_cases k3 : 2147483647 < d.size
    · go_wp2_with fail
      go_ret
      exact ⟨rfl, HB1.out⟩
    go_wp2_with fail
    refine (right_any _ _ t _ (HH.out.up HB1.out) hf).mono ?_
    rintro e w2 ⟨b, rfl, hR, hb2⟩
    have HB2 := Lib.hid (bnext HB1.out hb2)
    clear hb2
    cases b
    · clear hR
      go_wp2_with fail
      go_ret
      exact ⟨rfl, HB2.out⟩
    have HR := Lib.hid (hR rfl)
    clear hR
    go_wp2_with fail
    refine (order_any _ _ _ _ _ l HR.out.le (by omega) _ (HI.out.up HB2.out)).mono ?_
    rintro e w3 ⟨b, q, rfl, ho, rfl⟩
    have HB3 : Hid (Below w.heap.size w (w2.drewN q)) := below_drewN HB2.out q
    cases b
    · clear ho
      go_wp2_with fail
      go_ret
      exact ⟨rfl, HB3.out⟩
    obtain ⟨ns, ho⟩ := ho rfl
    have HO := Lib.hid ho
    clear ho
    by_cases k4 : 100 < k.size
    · go_wp2_with fail
      go_ret
      exact ⟨rfl, HB3.out⟩
    by_cases k5 : 100 < d.size
    · go_wp2_with fail
      go_ret
      exact ⟨rfl, HB3.out⟩
    have HOr : Hid (∀ W, Below w.heap.size w W → Calls Try.prog 43 #[.slice ad t.length c, .slice a2 l.length c2, .string k, .string d] W fun e w' => e = .returned (.tuple #[.string (orA (headA t ns k) d), .bool true]) ∧ Below W.heap.size W w') :=
      fun W hW => attrOrOf_any _ c t HR.out _ c2 l ns HO.out (by omega) k d W (HH.out.up hW) (HI.out.up hW) (fun i hi => by rw [HR.out.ats i hi]; exact fits_ats hf i hi)
    rcases ns with _ | ⟨n0, ms⟩
    · have hl0 : l = [] := by rw [HO.out.eq]; rfl
      subst hl0
      go_wp2_with fail
      refine (HOr.out _ HB3.out).mono ?_
      rintro e w4 ⟨rfl, hb4⟩
      have HB4 := Lib.hid (bnext HB3.out hb4)
      clear hb4
      simp only [headA, orA]
      go_wp2_with fail
      go_ret
      exact ⟨ret_b (by simp), HB4.out⟩
    · have hi0 := HO.out.lt n0 (by simp)
      have hl0 : 0 < l.length := by rw [HO.out.length]; simp
      have hx0 : l[0] = (n0 : Int) := by
        have := HO.out.eq
        subst this
        rfl
      obtain ⟨b, o, rfl, hbB, hc⟩ := (HI.out.up HB3.out).at_ hl0
      have p0 := hc 0 hl0
      rw [hx0, Nat.add_zero] at p0
      obtain ⟨b', o', rfl, hbB', hn⟩ := (HH.out.up HB3.out).at_ (by omega)
      obtain ⟨g1, g2, g3, g4, g5, hok⟩ := hn n0 hi0
      have HAt := Lib.hid (attr_any t[n0] k (w2.drewN q) hok.attrs (fits_ats hf n0 hi0))
      have HHd : Hid (headA t (n0 :: ms) k = findA t[n0].attrs k) := by rw [Hid, headA, getD_at hi0, HR.out.ats n0 hi0]
      clear hc hn hok hx0
      go_wp2_with fail
      refine HAt.out.mono ?_
      rintro e w4 ⟨he, hb4⟩
      have HB4 := Lib.hid (bnext HB3.out hb4)
      clear hb4
      cases hq : findA t[n0].attrs k with
      | none =>
        rw [hq] at he
        dsimp only at he
        subst he
        have HQ := Lib.hid (HHd.out.trans hq)
        go_wp2_with fail
        refine (HOr.out _ HB4.out).mono ?_
        rintro e w5 ⟨rfl, hb5⟩
        have HB5 := Lib.hid (bnext HB4.out hb5)
        clear hb5
        rw [HQ.out]
        simp only [orA]
        go_wp2_with fail
        go_ret
        exact ⟨ret_b (by simp), HB5.out⟩
      | some y =>
        rw [hq] at he
        dsimp only at he
        subst he
        have HQ := Lib.hid (HHd.out.trans hq)
        go_wp2_with fail
        refine (HOr.out _ HB4.out).mono ?_
        rintro e w5 ⟨rfl, hb5⟩
        have HB5 := Lib.hid (bnext HB4.out hb5)
        clear hb5
        rw [HQ.out]
        simp only [orA]
        go_wp2_with fail
        go_ret
        exact ⟨ret_b (by simp), HB5.out⟩
end Go.Proofs.Ytfebdbfkpmjpeaa
