/- A selector as a text (spec.writtenAt). -/
import Derived.Test.YtnibpdmbccfgoaaGreatDoorT661
namespace Go.Proofs.YtnibpdmbccfgoaaGreatDoor
open Go.RowKit
set_option linter.unusedVariables false

def joinK (l : List ST) (k : Nat) : List UInt8 := joinL ((l.map ST.wr).take k)
theorem joinK_one {l : List ST} (h : 0 < l.length) : joinK l 1 = l[0].wr := by
  unfold joinK
  cases l with
  | nil => exact absurd h (Nat.lt_irrefl 0)
  | cons u l => simp [joinL]
theorem joinK_succ {l : List ST} {k : Nat} (h : k < l.length) (h0 : 0 < k) : joinK l (k + 1) = joinK l k ++ ([44, 32] ++ l[k].wr) := by
  unfold joinK
  have hl : k < (l.map ST.wr).length := by rw [List.length_map]; exact h
  rw [List.take_succ_eq_append_getElem hl]
  have e : (l.map ST.wr)[k] = l[k].wr := List.getElem_map _
  rw [e]
  cases hq : (l.map ST.wr).take k with
  | nil => have := congrArg List.length hq; rw [List.length_take, List.length_map, List.length_nil] at this; omega
  | cons x r =>
    show x ++ (r ++ [l[k].wr]).flatMap (fun y => [44, 32] ++ y) = (x ++ r.flatMap (fun y => [44, 32] ++ y)) ++ _
    rw [List.flatMap_append]; simp
theorem joinK_len (l : List ST) (k : Nat) : (joinK l k).length ≤ lenS (pairs l) + 2 * (pairs l).length := by
  unfold joinK
  have h := join_len ((l.map ST.wr).take k)
  have e : lenS (pairs l) = ((l.map ST.wr).map List.length).sum := by unfold lenS pairs; rw [List.map_map, List.map_map]; rfl
  have e2 : (pairs l).length = (l.map ST.wr).length := by unfold pairs; rw [List.length_map, List.length_map]
  have h1 : (((l.map ST.wr).take k).map List.length).sum ≤ ((l.map ST.wr).map List.length).sum := by
    have : ((l.map ST.wr).map List.length).sum = (((l.map ST.wr).take k).map List.length).sum + (((l.map ST.wr).drop k).map List.length).sum := by
      rw [← List.sum_append, ← List.map_append, List.take_append_drop]
    omega
  have h2 : ((l.map ST.wr).take k).length ≤ (l.map ST.wr).length := by rw [List.length_take]; omega
  omega

set_option maxRecDepth 100000 in
set_option maxHeartbeats 16000000 in
theorem writtenAt_any (a : Option Addr) (c : Nat) (L : List Sn) (hL : L.length ≤ 1000) : ∀ (n i : Nat) (u : ST) (w : World), u.flat.length ≤ n → u.All NOk → (∀ x ∈ u.flat, x.key.size ≤ 1000 ∧ x.val.size ≤ 1000) → (u.flat.map wtB).sum ≤ 100000 →
    SSl w w.heap.size a L → AtT L i u → u.Ok → Calls Tryz.prog 14 #[.slice a L.length c, .int .i64 (i : Int)] w (StrB (bOf u.wr) w) := by
  intro n
  induction n with
  | zero => intro i u w hn; have := u.len_pos; omega
  | succ n ih =>
  intro i u w hn ha hsz hlen h hu hok
  have HKd : Hid (Calls Tryz.prog 22 #[.slice a L.length c, .int .i64 (i : Int)] w (KdP L i u w)) := selKids_any a c L hL i u w h hu hok
  have hle := hu.le
  obtain ⟨hi, htop⟩ := hu.top
  have hmem : ∀ v ∈ u.kids.list, ∀ x ∈ v.flat, x ∈ u.flat := fun v hv x hx => by rw [u.flat_cons, SK.flat_list]; exact List.mem_cons_of_mem _ (List.mem_flatMap.2 ⟨v, hv, hx⟩)
  have HIH : Hid (∀ v ∈ u.kids.list, ∀ (q : Nat) (V : World), AtT L q v → Below w.heap.size w V → Calls Tryz.prog 14 #[.slice a L.length c, .int .i64 (q : Int)] V (StrB (bOf v.wr) V)) := fun v hv q V hq hV =>
    ih q v V (by have := ST.kid_lt hv; omega) (ha.kids v hv) (fun x hx => hsz x (hmem v hv x hx)) (by have := ST.kid_sum hv; omega) ((h.below hV).more hV.size) hq (hok.kids.mem v hv)
  have HCp : Hid (u.top.kind = 21 → ∀ V, Below w.heap.size w V → Calls Tryz.prog 23 #[.slice a L.length c, .int .i64 (i : Int)] V (StrB (bOf u.wr) V)) := fun h21 V hV =>
    writtenCompound_of a c L hL i u V ((h.below hV).more hV.size) hu hok (ha.here.2.2 h21) h21 hlen (fun v hv q V' hq hV' => HIH.out v hv q V' hq (bnext hV hV'))
  have HSm : Hid (1 ≤ u.top.kind → u.top.kind ≤ 17 → ∀ V, Calls Tryz.prog 24 #[u.top.val8] V (StrB (bOf u.wr) V)) := fun h1 h17 V => by
    have hm := hsz u.top (by rw [u.flat_cons]; exact List.mem_cons_self ..)
    have := writtenSimple_any u.top V ha.here.1 h1 h17 hm.1 hm.2
    rw [(ST.wr_simple ha.here h1 h17).1]
    exact this
  have HSz : Hid (∀ v ∈ u.kids.list, v.wr.length ≤ 100000) := fun v hv => by have := ST.kid_sum hv; have := v.wr_len; omega
  have hcm : lenS (pairs u.kids.list) + 2 * (pairs u.kids.list).length ≤ 100000 := by
    have h1 := SK.wrs_len u.kids
    have h2 : (u.kids.flat.map wtB).sum ≤ (u.flat.map wtB).sum := by rw [u.flat_cons, List.map_cons, List.sum_cons]; omega
    have h3 : u.kids.wrs = pairs u.kids.list := SK.wrs_list u.kids
    rw [h3] at h1
    omega
  have HJl : Hid (∀ k, (joinK u.kids.list k).length ≤ 100000) := fun k => Nat.le_trans (joinK_len _ _) hcm
  have hkl : u.kids.list.length ≤ 100000 := by
    have : (pairs u.kids.list).length = u.kids.list.length := by unfold pairs; rw [List.length_map]
    omega
  have HShp := Lib.hid ha.here.2.1
  have HFo := Lib.hid ha.here.1
  obtain ⟨b, o, rfl, hbB, hcs⟩ := h.at_ (by omega)
  have HU := Lib.hid hu
  have HC : Hid (∀ wr, Below w.heap.size w wr → ∀ q (hq : q < L.length), SnC wr b (o + q * 8) L[q]) := fun wr hb q hq => (hcs q hq).1.below hb hbB
  have HT := Lib.hid htop
  clear ih hn ha hsz hlen h hu hok hcs htop hcm hmem
  go_enter Tryz.func14, Tryz.ntmps14
  go_wp2_with fail
  refine HKd.out.mono ?_
  rintro e1 w1 ⟨p, cp, rfl, hb1, hk1⟩
  obtain ⟨X, hX⟩ : ∃ X, X = L[i] := ⟨_, rfl⟩
  obtain ⟨c0, c1, c2, c3, c4, c5, c6, c7⟩ := HC.out w1 hb1 i hi
  rw [← hX] at c0 c1 c2 c3 c4 c5 c6 c7
  have HX : Hid (X = u.top) := by rw [Hid, hX]; exact HT.out
  have HX2 : Hid (L[i] = X) := hX.symm
  have hmade := BlkB.made w1 w.heap.size hb1.size #[.int .i64 X.kind, .int .i64 X.op, .string X.key, .string X.val, .int .i64 X.a, .int .i64 X.b, .int .i64 X.flag, .int .i64 X.size] 25
  have hk2 := hk1.below ((Below.refl w1.heap.size w1).alloc (Nat.le_refl _) (.cells #[.int .i64 X.kind, .int .i64 X.op, .string X.key, .string X.val, .int .i64 X.a, .int .i64 X.b, .int .i64 X.flag, .int .i64 X.size] 25))
  clear hX HT HKd
  obtain ⟨PS, hPS⟩ : ∃ PS, PS = posL (i + 1) u.kids.list := ⟨_, rfl⟩
  rw [← hPS] at hk2
  have HPS := Lib.hid hPS
  go_upto_region 4 with fail
  obtain ⟨H, hH⟩ : ∃ H, H = w1.heap.size := ⟨_, rfl⟩
  refine wp_gen (R := fun U => BlkB H #[.int .i64 X.kind, .int .i64 X.op, .string X.key, .string X.val, .int .i64 X.a, .int .i64 X.b, .int .i64 X.flag, .int .i64 X.size] 25 w.heap.size w U ∧ KRow U w.heap.size p PS) ⟨by rw [hH]; exact ⟨hmade.blk, (hb1.trans hmade.old), hmade.base⟩, hk2⟩ ?_
  rintro W1 ⟨hB0, hKW⟩
  rw [← hH]
  have HB0 := Lib.hid hB0
  have HKW := Lib.hid hKW
  have c0 := (HC.out W1 hB0.old i hi).c0
  have c1 := (HC.out W1 hB0.old i hi).c1
  have c2 := (HC.out W1 hB0.old i hi).c2
  have c3 := (HC.out W1 hB0.old i hi).c3
  have c4 := (HC.out W1 hB0.old i hi).c4
  have c5 := (HC.out W1 hB0.old i hi).c5
  have c6 := (HC.out W1 hB0.old i hi).c6
  have c7 := (HC.out W1 hB0.old i hi).c7
  rw [HX2.out] at c0 c1 c2 c3 c4 c5 c6 c7
  clear hB0 hKW hb1 hk1 hmade hk2 hPS hH
  obtain ⟨kd, hkd⟩ : ∃ kd, kd = X.kind := ⟨_, rfl⟩
  rw [← hkd]
  rw [← hkd] at c0
  have HKd : Hid (kd = u.top.kind) := by rw [Hid, hkd, HX.out]
  have HKx : Hid (kd = X.kind) := hkd
  clear hkd
  by_cases k23 : kd = 23
  · have m23 : (kd == 23) = true := beq_iff_eq.2 k23
    have HWg : Hid (u.wr = joinK u.kids.list u.kids.list.length) := by
      rw [Hid, (ST.wr_grp (by rw [← HKd.out]; exact k23)).1]
      unfold joinK
      rw [List.take_of_length_le (by rw [List.length_map]; exact Nat.le_refl _)]
    have HBl := Lib.hid HB0.out.old
    clear k23 c0 c1 c2 c3 c4 c5 c6 c7 HCp HSm HShp HFo
    go_wp2_with fail
    go_loopg [7, 8] u.kids.list.length (fun gk v7 v8 wr => ∃ (k : Nat) (O : ByteArray), gk = u.kids.list.length - k ∧ v8 = .int .i64 k ∧ v7 = .string O ∧ k ≤ u.kids.list.length ∧ O.size ≤ 100000 ∧ Hid (O = bOf (joinK u.kids.list k)) ∧ Hid (Below w.heap.size w wr) ∧ Hid (KRow wr w.heap.size p PS))
    case atStart => exact ⟨0, ⟨#[]⟩, rfl, rfl, rfl, Nat.zero_le _, by decide, rfl, HBl.out, HKW.out⟩
    case round =>
      obtain ⟨k, O, rfl, rfl, rfl, hk, hO, HO, HB, HKr⟩ := hrel
      by_cases hlt : k < u.kids.list.length
      · obtain ⟨q, hq, hqt, hql, hqtop⟩ := kid_at HU.out hlt
        rw [← HPS.out] at hq
        obtain ⟨bk, rfl, hbk, hck⟩ := HKr.out.get hq
        obtain ⟨Y, hY⟩ : ∃ Y, Y = bOf (u.kids.list[k]).wr := ⟨_, rfl⟩
        have HW : Hid (∀ V, Below w.heap.size w V → Calls Tryz.prog 14 #[.slice (some ⟨b, o, none⟩) L.length c, .int .i64 (q : Int)] V (StrB Y V)) := fun V hV => by rw [hY]; exact HIH.out _ (List.getElem_mem _) q V hqt hV
        have HB2 : Hid (∀ V, Below wr.heap.size wr V → Below w.heap.size w V ∧ KRow V w.heap.size (some ⟨bk, 0, none⟩) PS) := fun V hV => ⟨bnext HB.out hV, HKr.out.below hV⟩
        have hYs : Y.size ≤ 100000 := by rw [hY, bOf_size]; exact HSz.out _ (List.getElem_mem _)
        have HJ1 := Lib.hid (HJl.out (k + 1))
        have HOo := HO.out
        by_cases h0 : 0 < k
        · have HS : Hid (O ++ ⟨#[44, 32]⟩ ++ Y = bOf (joinK u.kids.list (k + 1))) := by
            rw [Hid, joinK_succ hlt h0, HOo, hY]
            show bOf _ ++ bOf [44, 32] ++ bOf _ = _
            rw [bOf_app, bOf_app, List.append_assoc]
          have hsz : (O ++ ⟨#[44, 32]⟩ ++ Y).size ≤ 100000 := by rw [HS.out, bOf_size]; exact HJ1.out
          clear hY hq hqt hql hqtop HOo
          go_wp2_with fail
          refine (HW.out _ HB.out).mono ?_
          rintro e1 w2 ⟨rfl, hb2⟩
          have HB3 := Lib.hid (HB2.out _ hb2)
          clear hb2
          go_wp2_with fail
          go_roundg (u.kids.list.length - (k + 1))
          case measure => omega
          case rel => exact ⟨k + 1, _, rfl, by go_num, rfl, by omega, hsz, HS.out, HB3.out.1, HB3.out.2⟩
        · have hk0 : k = 0 := by omega
          have HS : Hid (O ++ Y = bOf (joinK u.kids.list (k + 1))) := by
            subst hk0
            rw [Hid, HOo, hY, joinK_one hlt]
            show bOf [] ++ bOf _ = _
            rw [bOf_app]; rfl
          have hsz : (O ++ Y).size ≤ 100000 := by rw [HS.out, bOf_size]; exact HJ1.out
          clear hY hq hqt hql hqtop HOo hk0
          go_wp2_with fail
          refine (HW.out _ HB.out).mono ?_
          rintro e1 w2 ⟨rfl, hb2⟩
          have HB3 := Lib.hid (HB2.out _ hb2)
          clear hb2
          go_wp2_with fail
          go_roundg (u.kids.list.length - (k + 1))
          case measure => omega
          case rel => exact ⟨k + 1, _, rfl, by go_num, rfl, by omega, hsz, HS.out, HB3.out.1, HB3.out.2⟩
      · have hk2 : k = u.kids.list.length := by omega
        have HS : Hid (O = bOf u.wr) := by rw [Hid, HWg.out, ← hk2]; exact HO.out
        clear hk2
        go_wp2_with fail
        go_ret
        exact ⟨by rw [← HS.out]; rfl, HB.out⟩
  have m23 : (kd == 23) = false := beq_eq_false_iff_ne.2 k23
  by_cases k22 : kd = 22
  · have m22 : (kd == 22) = true := beq_iff_eq.2 k22
    have ht22 : u.top.kind = 22 := by rw [← HKd.out]; exact k22
    obtain ⟨v, v', hv⟩ : ∃ v v', u.kids.list = [v, v'] := by
      rcases HShp.out with ⟨q, _⟩ | ⟨_, q, _⟩ | ⟨q, _⟩ | ⟨_, v, v', hl, _⟩ | ⟨_, q, _⟩
      · omega
      · omega
      · omega
      · exact ⟨v, v', hl⟩
      · omega
    obtain ⟨q, hq, hqt, _, _⟩ := kid_at2 HU.out (j := 0) (v := v) (by rw [hv]; rfl)
    obtain ⟨q', hq', hqt', _, _⟩ := kid_at2 HU.out (j := 1) (v := v') (by rw [hv]; rfl)
    rw [← HPS.out] at hq hq'
    have HQ := Lib.hid hq
    have HQ' := Lib.hid hq'
    obtain ⟨bk, rfl, _, _⟩ := HKW.out.get hq
    have HWr : Hid (u.wr = v.wr ++ (sepL X.op ++ v'.wr)) := by rw [Hid, HX.out]; exact (ST.wr_comb ht22 hv).1
    have hlv : v.wr.length ≤ 100000 := HSz.out v (by rw [hv]; exact List.mem_cons_self ..)
    have hlv' : v'.wr.length ≤ 100000 := HSz.out v' (by rw [hv]; simp)
    obtain ⟨XA, hXA⟩ : ∃ XA, XA = bOf v.wr := ⟨_, rfl⟩
    obtain ⟨XB, hXB⟩ : ∃ XB, XB = bOf v'.wr := ⟨_, rfl⟩
    have hxa : XA.size ≤ 100000 := by rw [hXA, bOf_size]; exact hlv
    have hxb : XB.size ≤ 100000 := by rw [hXB, bOf_size]; exact hlv'
    have HA : Hid (∀ V, Below w.heap.size w V → Calls Tryz.prog 14 #[.slice (some ⟨b, o, none⟩) L.length c, .int .i64 (q : Int)] V (StrB XA V)) := fun V hV => by rw [hXA]; exact HIH.out v (by rw [hv]; exact List.mem_cons_self ..) q V hqt hV
    have HB : Hid (∀ V, Below w.heap.size w V → Calls Tryz.prog 14 #[.slice (some ⟨b, o, none⟩) L.length c, .int .i64 (q' : Int)] V (StrB XB V)) := fun V hV => by rw [hXB]; exact HIH.out v' (by rw [hv]; simp) q' V hqt' hV
    have HXA := Lib.hid hXA
    have HXB := Lib.hid hXB
    obtain ⟨o1, o4⟩ := HFo.out.cmb ht22
    have hop : X.op = 1 ∨ X.op = 2 ∨ X.op = 3 ∨ X.op = 4 := by rw [HX.out]; omega
    rw [hv]
    clear hlv hlv' hXA hXB hv hq hq' hqt hqt' o1 o4 ht22 k22 k23 c0 c1 c2 c3 c4 c5 c6 c7 HIH HCp HSm HSz HJl HShp HFo HU HC
    rcases hop with hop | hop | hop | hop
    · have HOp : Hid (X.op = 1) := hop
      clear hop
      go_wp2_with fail
      refine wp_region_any (by kernel_rfl) ?_
      refine wpAny_rowB (m := 18) (n := 87) (b := 5) (ds := [41, 42, 43, 44, 45, 46, 47, 48, 49, 50, 51, 52, 53, 54, 55, 56, 57, 4])
        (val := fun r k => [.slice (some ⟨b, o, none⟩) L.length c, .slice (some ⟨bk, 0, none⟩) 2 cp, .pointer (some ⟨bk, 0, none⟩), .int .i64 (q : Int), .string XA, .slice (some ⟨r, 0, none⟩) 5 5, .pointer (some ⟨H, 1, none⟩), .int .i64 1, .pointer (some ⟨r, 1, none⟩), .string ⟨#[32]⟩, .string (XA ++ ⟨#[32]⟩), .slice (some ⟨b, o, none⟩) L.length c, .slice (some ⟨bk, 0, none⟩) 2 cp, .pointer (some ⟨bk, 1, none⟩), (.int .i64 (q' : Int)), .string XB, .string (XA ++ ⟨#[32]⟩ ++ XB), .string (XA ++ ⟨#[32]⟩ ++ XB)].getD k undef)
        (dep := fun k => decide (k = 5 ∨ k = 8)) (Base := fun V => BlkB H #[.int .i64 X.kind, .int .i64 X.op, .string X.key, .string X.val, .int .i64 X.a, .int .i64 X.b, .int .i64 X.flag, .int .i64 X.size] 25 w.heap.size w V ∧ KRow V w.heap.size (some ⟨bk, 0, none⟩) PS)
        (Row := fun r V => V.heap[r]? = some (.cells #[.string ⟨#[]⟩, .string ⟨#[32]⟩, .string ⟨#[32, 62, 32]⟩, .string ⟨#[32, 43, 32]⟩, .string ⟨#[32, 126, 32]⟩] 9 (0, 0)))
        (fs := [(0, .slice (some ⟨b, o, none⟩) L.length c), (5, .slice (some ⟨bk, 0, none⟩) 2 cp), (6, .pointer (some ⟨H, 0, none⟩))]) (by kernel_rfl) ?_ ?_ ?_ ?_ rfl ?_ ?_
      · intro r r' k hk hd
        have : k = 0 ∨ k = 1 ∨ k = 2 ∨ k = 3 ∨ k = 4 ∨ k = 5 ∨ k = 6 ∨ k = 7 ∨ k = 8 ∨ k = 9 ∨ k = 10 ∨ k = 11 ∨ k = 12 ∨ k = 13 ∨ k = 14 ∨ k = 15 ∨ k = 16 ∨ k = 17 := by omega
        rcases this with rfl | rfl | rfl | rfl | rfl | rfl | rfl | rfl | rfl | rfl | rfl | rfl | rfl | rfl | rfl | rfl | rfl | rfl
        all_goals first | rfl | exact absurd hd (by decide)
      · intro k oo hk hoo hkb r T V hB hF hR hE
        have hT0 : T[0]? = some (.slice (some ⟨b, o, none⟩) L.length c) := hF (0, .slice (some ⟨b, o, none⟩) L.length c) (by simp)
        have hT5 : T[5]? = some (.slice (some ⟨bk, 0, none⟩) 2 cp) := hF (5, .slice (some ⟨bk, 0, none⟩) 2 cp) (by simp)
        have hT6 : T[6]? = some (.pointer (some ⟨H, 0, none⟩)) := hF (6, .pointer (some ⟨H, 0, none⟩)) (by simp)
        have d1 : V.cell? ⟨H, 1, none⟩ = some (.int .i64 1) := by rw [← HOp.out]; exact hB.1.cell 1
        have k0 : V.cell? ⟨bk, 0, none⟩ = some (.int .i64 (q : Int)) := by
          obtain ⟨bk', e1, _, e2⟩ := hB.2.get HQ.out
          cases e1; exact e2
        have k1 : V.cell? ⟨bk, 1, none⟩ = some (.int .i64 (q' : Int)) := by
          obtain ⟨bk', e1, _, e2⟩ := hB.2.get HQ'.out
          cases e1; exact e2
        have : k = 0 ∨ k = 1 ∨ k = 2 ∨ k = 3 ∨ k = 4 ∨ k = 5 ∨ k = 6 ∨ k = 7 ∨ k = 8 ∨ k = 9 ∨ k = 10 ∨ k = 11 ∨ k = 12 ∨ k = 13 ∨ k = 14 ∨ k = 15 ∨ k = 16 ∨ k = 17 := by omega
        rcases this with rfl | rfl | rfl | rfl | rfl | rfl | rfl | rfl | rfl | rfl | rfl | rfl | rfl | rfl | rfl | rfl | rfl | rfl
        · obtain rfl := Option.some.inj (show some _ = some oo from hoo)
          clear hE hR hF
          refine stepV_run hB ?_
          go_simp
          all_goals first | omega | rfl | decide
        · obtain rfl := Option.some.inj (show some _ = some oo from hoo)
          clear hE hR hF
          refine stepV_run hB ?_
          go_simp
          all_goals first | omega | rfl | decide
        · obtain rfl := Option.some.inj (show some _ = some oo from hoo)
          have e1 : T[42]? = some (.slice (some ⟨bk, 0, none⟩) 2 cp) := hE 1 (by kernel_rfl)
          clear hE hR hF
          refine stepV_run hB ?_
          go_simp
          all_goals first | omega | rfl | decide
        · obtain rfl := Option.some.inj (show some _ = some oo from hoo)
          have e2 : T[43]? = some (.pointer (some ⟨bk, 0, none⟩)) := hE 2 (by kernel_rfl)
          clear hE hR hF
          refine stepV_run hB ?_
          go_simp
          all_goals first | omega | rfl | decide
        · obtain rfl := Option.some.inj (show some _ = some oo from hoo)
          have e0 : T[41]? = some (.slice (some ⟨b, o, none⟩) L.length c) := hE 0 (by kernel_rfl)
          have e3 : T[44]? = some (.int .i64 (q : Int)) := hE 3 (by kernel_rfl)
          clear hE hR hF
          refine stepV_call (f := 14) (args := #[.slice (some ⟨b, o, none⟩) L.length c, .int .i64 (q : Int)]) (by go_simp) ?_
          exact (HA.out V hB.1.old).mono (fun e w' hh => ⟨hh.1, ⟨hB.1.next hh.2, hB.2.below hh.2⟩, fun r hr => (hh.2.block r (Array.getElem?_eq_some_iff.1 hr).1).trans hr⟩)
        · exact absurd rfl hkb
        · obtain rfl := Option.some.inj (show some _ = some oo from hoo)
          clear hE hR hF
          refine stepV_run hB ?_
          go_simp
          all_goals first | omega | rfl | decide
        · obtain rfl := Option.some.inj (show some _ = some oo from hoo)
          have e6 : T[47]? = some (.pointer (some ⟨H, 1, none⟩)) := hE 6 (by kernel_rfl)
          clear hE hR hF
          refine stepV_run hB ?_
          go_simp
          all_goals first | omega | rfl | decide
        · obtain rfl := Option.some.inj (show some _ = some oo from hoo)
          have e5 : T[46]? = some (.slice (some ⟨r, 0, none⟩) 5 5) := hE 5 (by kernel_rfl)
          have e7 : T[48]? = some (.int .i64 1) := hE 7 (by kernel_rfl)
          clear hE hR hF
          refine stepV_run hB ?_
          go_simp
          all_goals first | omega | rfl | decide
        · obtain rfl := Option.some.inj (show some _ = some oo from hoo)
          have e8 : T[49]? = some (.pointer (some ⟨r, 1, none⟩)) := hE 8 (by kernel_rfl)
          have hr := hR (by kernel_rfl)
          have d0 : V.cell? ⟨r, 1, none⟩ = some (.string ⟨#[32]⟩) := cell_of_row _ r 1 _ _ _ hr
          clear hE hR hF
          refine stepV_run hB ?_
          go_simp
          all_goals first | omega | rfl | decide
        · obtain rfl := Option.some.inj (show some _ = some oo from hoo)
          have e4 : T[45]? = some (.string XA) := hE 4 (by kernel_rfl)
          have e9 : T[50]? = some (.string ⟨#[32]⟩) := hE 9 (by kernel_rfl)
          clear hE hR hF
          refine stepV_run hB ?_
          go_simp
          all_goals first | omega | rfl | decide
        · obtain rfl := Option.some.inj (show some _ = some oo from hoo)
          clear hE hR hF
          refine stepV_run hB ?_
          go_simp
          all_goals first | omega | rfl | decide
        · obtain rfl := Option.some.inj (show some _ = some oo from hoo)
          clear hE hR hF
          refine stepV_run hB ?_
          go_simp
          all_goals first | omega | rfl | decide
        · obtain rfl := Option.some.inj (show some _ = some oo from hoo)
          have e12 : T[53]? = some (.slice (some ⟨bk, 0, none⟩) 2 cp) := hE 12 (by kernel_rfl)
          clear hE hR hF
          refine stepV_run hB ?_
          go_simp
          all_goals first | omega | rfl | decide
        · obtain rfl := Option.some.inj (show some _ = some oo from hoo)
          have e13 : T[54]? = some (.pointer (some ⟨bk, 1, none⟩)) := hE 13 (by kernel_rfl)
          clear hE hR hF
          refine stepV_run hB ?_
          go_simp
          all_goals first | omega | rfl | decide
        · obtain rfl := Option.some.inj (show some _ = some oo from hoo)
          have e11 : T[52]? = some (.slice (some ⟨b, o, none⟩) L.length c) := hE 11 (by kernel_rfl)
          have e14 : T[55]? = some ((.int .i64 (q' : Int))) := hE 14 (by kernel_rfl)
          clear hE hR hF
          refine stepV_call (f := 14) (args := #[.slice (some ⟨b, o, none⟩) L.length c, .int .i64 (q' : Int)]) (by go_simp) ?_
          exact (HB.out V hB.1.old).mono (fun e w' hh => ⟨hh.1, ⟨hB.1.next hh.2, hB.2.below hh.2⟩, fun r hr => (hh.2.block r (Array.getElem?_eq_some_iff.1 hr).1).trans hr⟩)
        · obtain rfl := Option.some.inj (show some _ = some oo from hoo)
          have e10 : T[51]? = some (.string (XA ++ ⟨#[32]⟩)) := hE 10 (by kernel_rfl)
          have e15 : T[56]? = some (.string XB) := hE 15 (by kernel_rfl)
          clear hE hR hF
          refine stepV_run hB ?_
          go_simp
          all_goals first | omega | rfl | decide
        · obtain rfl := Option.some.inj (show some _ = some oo from hoo)
          have e16 : T[57]? = some (.string (XA ++ ⟨#[32]⟩ ++ XB)) := hE 16 (by kernel_rfl)
          clear hE hR hF
          refine stepV_run hB ?_
          go_simp
          all_goals first | omega | rfl | decide
      · intro oo hoo T V hB hF K Q hK
        obtain rfl := Option.some.inj (show some _ = some oo from hoo)
        unfold Oper.wp
        go_simp
        exact hK _ ⟨hB.1.next ((Below.refl _ _).alloc (Nat.le_refl _) _), hB.2.below ((Below.refl _ _).alloc (Nat.le_refl _) _)⟩ (heap_alloc_new V _)
      · intro r T V hs hF hB hv
        have h2 : T[4]? = some (.string (XA ++ ⟨#[32]⟩ ++ XB)) := hv 17 (by omega)
        go_wp2_with fail
        go_ret
        refine ⟨?_, hB.1.old⟩
        show Ending.returned (T.getD 4 undef) = _
        rw [Array.getD_eq_getD_getElem?, h2, HXA.out, HXB.out]
        show Ending.returned (.string (bOf v.wr ++ bOf [32] ++ bOf v'.wr)) = _
        rw [bOf_app, bOf_app, HWr.out, HOp.out]
        simp [sepL]
      · intro p hp
        simp only [List.mem_cons, List.not_mem_nil, or_false] at hp
        rcases hp with rfl | rfl | rfl
        all_goals rfl
      · exact ⟨HB0.out.drew 1, HKW.out⟩

    · have HOp : Hid (X.op = 2) := hop
      clear hop
      go_wp2_with fail
      refine wp_region_any (by kernel_rfl) ?_
      refine wpAny_rowB (m := 18) (n := 87) (b := 5) (ds := [41, 42, 43, 44, 45, 46, 47, 48, 49, 50, 51, 52, 53, 54, 55, 56, 57, 4])
        (val := fun r k => [.slice (some ⟨b, o, none⟩) L.length c, .slice (some ⟨bk, 0, none⟩) 2 cp, .pointer (some ⟨bk, 0, none⟩), .int .i64 (q : Int), .string XA, .slice (some ⟨r, 0, none⟩) 5 5, .pointer (some ⟨H, 1, none⟩), .int .i64 2, .pointer (some ⟨r, 2, none⟩), .string ⟨#[32, 62, 32]⟩, .string (XA ++ ⟨#[32, 62, 32]⟩), .slice (some ⟨b, o, none⟩) L.length c, .slice (some ⟨bk, 0, none⟩) 2 cp, .pointer (some ⟨bk, 1, none⟩), (.int .i64 (q' : Int)), .string XB, .string (XA ++ ⟨#[32, 62, 32]⟩ ++ XB), .string (XA ++ ⟨#[32, 62, 32]⟩ ++ XB)].getD k undef)
        (dep := fun k => decide (k = 5 ∨ k = 8)) (Base := fun V => BlkB H #[.int .i64 X.kind, .int .i64 X.op, .string X.key, .string X.val, .int .i64 X.a, .int .i64 X.b, .int .i64 X.flag, .int .i64 X.size] 25 w.heap.size w V ∧ KRow V w.heap.size (some ⟨bk, 0, none⟩) PS)
        (Row := fun r V => V.heap[r]? = some (.cells #[.string ⟨#[]⟩, .string ⟨#[32]⟩, .string ⟨#[32, 62, 32]⟩, .string ⟨#[32, 43, 32]⟩, .string ⟨#[32, 126, 32]⟩] 9 (0, 0)))
        (fs := [(0, .slice (some ⟨b, o, none⟩) L.length c), (5, .slice (some ⟨bk, 0, none⟩) 2 cp), (6, .pointer (some ⟨H, 0, none⟩))]) (by kernel_rfl) ?_ ?_ ?_ ?_ rfl ?_ ?_
      · intro r r' k hk hd
        have : k = 0 ∨ k = 1 ∨ k = 2 ∨ k = 3 ∨ k = 4 ∨ k = 5 ∨ k = 6 ∨ k = 7 ∨ k = 8 ∨ k = 9 ∨ k = 10 ∨ k = 11 ∨ k = 12 ∨ k = 13 ∨ k = 14 ∨ k = 15 ∨ k = 16 ∨ k = 17 := by omega
        rcases this with rfl | rfl | rfl | rfl | rfl | rfl | rfl | rfl | rfl | rfl | rfl | rfl | rfl | rfl | rfl | rfl | rfl | rfl
        all_goals first | rfl | exact absurd hd (by decide)
      · intro k oo hk hoo hkb r T V hB hF hR hE
        have hT0 : T[0]? = some (.slice (some ⟨b, o, none⟩) L.length c) := hF (0, .slice (some ⟨b, o, none⟩) L.length c) (by simp)
        have hT5 : T[5]? = some (.slice (some ⟨bk, 0, none⟩) 2 cp) := hF (5, .slice (some ⟨bk, 0, none⟩) 2 cp) (by simp)
        have hT6 : T[6]? = some (.pointer (some ⟨H, 0, none⟩)) := hF (6, .pointer (some ⟨H, 0, none⟩)) (by simp)
        have d1 : V.cell? ⟨H, 1, none⟩ = some (.int .i64 2) := by rw [← HOp.out]; exact hB.1.cell 1
        have k0 : V.cell? ⟨bk, 0, none⟩ = some (.int .i64 (q : Int)) := by
          obtain ⟨bk', e1, _, e2⟩ := hB.2.get HQ.out
          cases e1; exact e2
        have k1 : V.cell? ⟨bk, 1, none⟩ = some (.int .i64 (q' : Int)) := by
          obtain ⟨bk', e1, _, e2⟩ := hB.2.get HQ'.out
          cases e1; exact e2
        have : k = 0 ∨ k = 1 ∨ k = 2 ∨ k = 3 ∨ k = 4 ∨ k = 5 ∨ k = 6 ∨ k = 7 ∨ k = 8 ∨ k = 9 ∨ k = 10 ∨ k = 11 ∨ k = 12 ∨ k = 13 ∨ k = 14 ∨ k = 15 ∨ k = 16 ∨ k = 17 := by omega
        rcases this with rfl | rfl | rfl | rfl | rfl | rfl | rfl | rfl | rfl | rfl | rfl | rfl | rfl | rfl | rfl | rfl | rfl | rfl
        · obtain rfl := Option.some.inj (show some _ = some oo from hoo)
          clear hE hR hF
          refine stepV_run hB ?_
          go_simp
          all_goals first | omega | rfl | decide
        · obtain rfl := Option.some.inj (show some _ = some oo from hoo)
          clear hE hR hF
          refine stepV_run hB ?_
          go_simp
          all_goals first | omega | rfl | decide
        · obtain rfl := Option.some.inj (show some _ = some oo from hoo)
          have e1 : T[42]? = some (.slice (some ⟨bk, 0, none⟩) 2 cp) := hE 1 (by kernel_rfl)
          clear hE hR hF
          refine stepV_run hB ?_
          go_simp
          all_goals first | omega | rfl | decide
        · obtain rfl := Option.some.inj (show some _ = some oo from hoo)
          have e2 : T[43]? = some (.pointer (some ⟨bk, 0, none⟩)) := hE 2 (by kernel_rfl)
          clear hE hR hF
          refine stepV_run hB ?_
          go_simp
          all_goals first | omega | rfl | decide
        · obtain rfl := Option.some.inj (show some _ = some oo from hoo)
          have e0 : T[41]? = some (.slice (some ⟨b, o, none⟩) L.length c) := hE 0 (by kernel_rfl)
          have e3 : T[44]? = some (.int .i64 (q : Int)) := hE 3 (by kernel_rfl)
          clear hE hR hF
          refine stepV_call (f := 14) (args := #[.slice (some ⟨b, o, none⟩) L.length c, .int .i64 (q : Int)]) (by go_simp) ?_
          exact (HA.out V hB.1.old).mono (fun e w' hh => ⟨hh.1, ⟨hB.1.next hh.2, hB.2.below hh.2⟩, fun r hr => (hh.2.block r (Array.getElem?_eq_some_iff.1 hr).1).trans hr⟩)
        · exact absurd rfl hkb
        · obtain rfl := Option.some.inj (show some _ = some oo from hoo)
          clear hE hR hF
          refine stepV_run hB ?_
          go_simp
          all_goals first | omega | rfl | decide
        · obtain rfl := Option.some.inj (show some _ = some oo from hoo)
          have e6 : T[47]? = some (.pointer (some ⟨H, 1, none⟩)) := hE 6 (by kernel_rfl)
          clear hE hR hF
          refine stepV_run hB ?_
          go_simp
          all_goals first | omega | rfl | decide
        · obtain rfl := Option.some.inj (show some _ = some oo from hoo)
          have e5 : T[46]? = some (.slice (some ⟨r, 0, none⟩) 5 5) := hE 5 (by kernel_rfl)
          have e7 : T[48]? = some (.int .i64 2) := hE 7 (by kernel_rfl)
          clear hE hR hF
          refine stepV_run hB ?_
          go_simp
          all_goals first | omega | rfl | decide
        · obtain rfl := Option.some.inj (show some _ = some oo from hoo)
          have e8 : T[49]? = some (.pointer (some ⟨r, 2, none⟩)) := hE 8 (by kernel_rfl)
          have hr := hR (by kernel_rfl)
          have d0 : V.cell? ⟨r, 2, none⟩ = some (.string ⟨#[32, 62, 32]⟩) := cell_of_row _ r 2 _ _ _ hr
          clear hE hR hF
          refine stepV_run hB ?_
          go_simp
          all_goals first | omega | rfl | decide
        · obtain rfl := Option.some.inj (show some _ = some oo from hoo)
          have e4 : T[45]? = some (.string XA) := hE 4 (by kernel_rfl)
          have e9 : T[50]? = some (.string ⟨#[32, 62, 32]⟩) := hE 9 (by kernel_rfl)
          clear hE hR hF
          refine stepV_run hB ?_
          go_simp
          all_goals first | omega | rfl | decide
        · obtain rfl := Option.some.inj (show some _ = some oo from hoo)
          clear hE hR hF
          refine stepV_run hB ?_
          go_simp
          all_goals first | omega | rfl | decide
        · obtain rfl := Option.some.inj (show some _ = some oo from hoo)
          clear hE hR hF
          refine stepV_run hB ?_
          go_simp
          all_goals first | omega | rfl | decide
        · obtain rfl := Option.some.inj (show some _ = some oo from hoo)
          have e12 : T[53]? = some (.slice (some ⟨bk, 0, none⟩) 2 cp) := hE 12 (by kernel_rfl)
          clear hE hR hF
          refine stepV_run hB ?_
          go_simp
          all_goals first | omega | rfl | decide
        · obtain rfl := Option.some.inj (show some _ = some oo from hoo)
          have e13 : T[54]? = some (.pointer (some ⟨bk, 1, none⟩)) := hE 13 (by kernel_rfl)
          clear hE hR hF
          refine stepV_run hB ?_
          go_simp
          all_goals first | omega | rfl | decide
        · obtain rfl := Option.some.inj (show some _ = some oo from hoo)
          have e11 : T[52]? = some (.slice (some ⟨b, o, none⟩) L.length c) := hE 11 (by kernel_rfl)
          have e14 : T[55]? = some ((.int .i64 (q' : Int))) := hE 14 (by kernel_rfl)
          clear hE hR hF
          refine stepV_call (f := 14) (args := #[.slice (some ⟨b, o, none⟩) L.length c, .int .i64 (q' : Int)]) (by go_simp) ?_
          exact (HB.out V hB.1.old).mono (fun e w' hh => ⟨hh.1, ⟨hB.1.next hh.2, hB.2.below hh.2⟩, fun r hr => (hh.2.block r (Array.getElem?_eq_some_iff.1 hr).1).trans hr⟩)
        · obtain rfl := Option.some.inj (show some _ = some oo from hoo)
          have e10 : T[51]? = some (.string (XA ++ ⟨#[32, 62, 32]⟩)) := hE 10 (by kernel_rfl)
          have e15 : T[56]? = some (.string XB) := hE 15 (by kernel_rfl)
          clear hE hR hF
          refine stepV_run hB ?_
          go_simp
          all_goals first | omega | rfl | decide
        · obtain rfl := Option.some.inj (show some _ = some oo from hoo)
          have e16 : T[57]? = some (.string (XA ++ ⟨#[32, 62, 32]⟩ ++ XB)) := hE 16 (by kernel_rfl)
          clear hE hR hF
          refine stepV_run hB ?_
          go_simp
          all_goals first | omega | rfl | decide
      · intro oo hoo T V hB hF K Q hK
        obtain rfl := Option.some.inj (show some _ = some oo from hoo)
        unfold Oper.wp
        go_simp
        exact hK _ ⟨hB.1.next ((Below.refl _ _).alloc (Nat.le_refl _) _), hB.2.below ((Below.refl _ _).alloc (Nat.le_refl _) _)⟩ (heap_alloc_new V _)
      · intro r T V hs hF hB hv
        have h2 : T[4]? = some (.string (XA ++ ⟨#[32, 62, 32]⟩ ++ XB)) := hv 17 (by omega)
        go_wp2_with fail
        go_ret
        refine ⟨?_, hB.1.old⟩
        show Ending.returned (T.getD 4 undef) = _
        rw [Array.getD_eq_getD_getElem?, h2, HXA.out, HXB.out]
        show Ending.returned (.string (bOf v.wr ++ bOf [32, 62, 32] ++ bOf v'.wr)) = _
        rw [bOf_app, bOf_app, HWr.out, HOp.out]
        simp [sepL]
      · intro p hp
        simp only [List.mem_cons, List.not_mem_nil, or_false] at hp
        rcases hp with rfl | rfl | rfl
        all_goals rfl
      · exact ⟨HB0.out.drew 1, HKW.out⟩

    · have HOp : Hid (X.op = 3) := hop
      clear hop
      go_wp2_with fail
      refine wp_region_any (by kernel_rfl) ?_
      refine wpAny_rowB (m := 18) (n := 87) (b := 5) (ds := [41, 42, 43, 44, 45, 46, 47, 48, 49, 50, 51, 52, 53, 54, 55, 56, 57, 4])
        (val := fun r k => [.slice (some ⟨b, o, none⟩) L.length c, .slice (some ⟨bk, 0, none⟩) 2 cp, .pointer (some ⟨bk, 0, none⟩), .int .i64 (q : Int), .string XA, .slice (some ⟨r, 0, none⟩) 5 5, .pointer (some ⟨H, 1, none⟩), .int .i64 3, .pointer (some ⟨r, 3, none⟩), .string ⟨#[32, 43, 32]⟩, .string (XA ++ ⟨#[32, 43, 32]⟩), .slice (some ⟨b, o, none⟩) L.length c, .slice (some ⟨bk, 0, none⟩) 2 cp, .pointer (some ⟨bk, 1, none⟩), (.int .i64 (q' : Int)), .string XB, .string (XA ++ ⟨#[32, 43, 32]⟩ ++ XB), .string (XA ++ ⟨#[32, 43, 32]⟩ ++ XB)].getD k undef)
        (dep := fun k => decide (k = 5 ∨ k = 8)) (Base := fun V => BlkB H #[.int .i64 X.kind, .int .i64 X.op, .string X.key, .string X.val, .int .i64 X.a, .int .i64 X.b, .int .i64 X.flag, .int .i64 X.size] 25 w.heap.size w V ∧ KRow V w.heap.size (some ⟨bk, 0, none⟩) PS)
        (Row := fun r V => V.heap[r]? = some (.cells #[.string ⟨#[]⟩, .string ⟨#[32]⟩, .string ⟨#[32, 62, 32]⟩, .string ⟨#[32, 43, 32]⟩, .string ⟨#[32, 126, 32]⟩] 9 (0, 0)))
        (fs := [(0, .slice (some ⟨b, o, none⟩) L.length c), (5, .slice (some ⟨bk, 0, none⟩) 2 cp), (6, .pointer (some ⟨H, 0, none⟩))]) (by kernel_rfl) ?_ ?_ ?_ ?_ rfl ?_ ?_
      · intro r r' k hk hd
        have : k = 0 ∨ k = 1 ∨ k = 2 ∨ k = 3 ∨ k = 4 ∨ k = 5 ∨ k = 6 ∨ k = 7 ∨ k = 8 ∨ k = 9 ∨ k = 10 ∨ k = 11 ∨ k = 12 ∨ k = 13 ∨ k = 14 ∨ k = 15 ∨ k = 16 ∨ k = 17 := by omega
        rcases this with rfl | rfl | rfl | rfl | rfl | rfl | rfl | rfl | rfl | rfl | rfl | rfl | rfl | rfl | rfl | rfl | rfl | rfl
        all_goals first | rfl | exact absurd hd (by decide)
      · intro k oo hk hoo hkb r T V hB hF hR hE
        have hT0 : T[0]? = some (.slice (some ⟨b, o, none⟩) L.length c) := hF (0, .slice (some ⟨b, o, none⟩) L.length c) (by simp)
        have hT5 : T[5]? = some (.slice (some ⟨bk, 0, none⟩) 2 cp) := hF (5, .slice (some ⟨bk, 0, none⟩) 2 cp) (by simp)
        have hT6 : T[6]? = some (.pointer (some ⟨H, 0, none⟩)) := hF (6, .pointer (some ⟨H, 0, none⟩)) (by simp)
        have d1 : V.cell? ⟨H, 1, none⟩ = some (.int .i64 3) := by rw [← HOp.out]; exact hB.1.cell 1
        have k0 : V.cell? ⟨bk, 0, none⟩ = some (.int .i64 (q : Int)) := by
          obtain ⟨bk', e1, _, e2⟩ := hB.2.get HQ.out
          cases e1; exact e2
        have k1 : V.cell? ⟨bk, 1, none⟩ = some (.int .i64 (q' : Int)) := by
          obtain ⟨bk', e1, _, e2⟩ := hB.2.get HQ'.out
          cases e1; exact e2
        have : k = 0 ∨ k = 1 ∨ k = 2 ∨ k = 3 ∨ k = 4 ∨ k = 5 ∨ k = 6 ∨ k = 7 ∨ k = 8 ∨ k = 9 ∨ k = 10 ∨ k = 11 ∨ k = 12 ∨ k = 13 ∨ k = 14 ∨ k = 15 ∨ k = 16 ∨ k = 17 := by omega
        rcases this with rfl | rfl | rfl | rfl | rfl | rfl | rfl | rfl | rfl | rfl | rfl | rfl | rfl | rfl | rfl | rfl | rfl | rfl
        · obtain rfl := Option.some.inj (show some _ = some oo from hoo)
          clear hE hR hF
          refine stepV_run hB ?_
          go_simp
          all_goals first | omega | rfl | decide
        · obtain rfl := Option.some.inj (show some _ = some oo from hoo)
          clear hE hR hF
          refine stepV_run hB ?_
          go_simp
          all_goals first | omega | rfl | decide
        · obtain rfl := Option.some.inj (show some _ = some oo from hoo)
          have e1 : T[42]? = some (.slice (some ⟨bk, 0, none⟩) 2 cp) := hE 1 (by kernel_rfl)
          clear hE hR hF
          refine stepV_run hB ?_
          go_simp
          all_goals first | omega | rfl | decide
        · obtain rfl := Option.some.inj (show some _ = some oo from hoo)
          have e2 : T[43]? = some (.pointer (some ⟨bk, 0, none⟩)) := hE 2 (by kernel_rfl)
          clear hE hR hF
          refine stepV_run hB ?_
          go_simp
          all_goals first | omega | rfl | decide
        · obtain rfl := Option.some.inj (show some _ = some oo from hoo)
          have e0 : T[41]? = some (.slice (some ⟨b, o, none⟩) L.length c) := hE 0 (by kernel_rfl)
          have e3 : T[44]? = some (.int .i64 (q : Int)) := hE 3 (by kernel_rfl)
          clear hE hR hF
          refine stepV_call (f := 14) (args := #[.slice (some ⟨b, o, none⟩) L.length c, .int .i64 (q : Int)]) (by go_simp) ?_
          exact (HA.out V hB.1.old).mono (fun e w' hh => ⟨hh.1, ⟨hB.1.next hh.2, hB.2.below hh.2⟩, fun r hr => (hh.2.block r (Array.getElem?_eq_some_iff.1 hr).1).trans hr⟩)
        · exact absurd rfl hkb
        · obtain rfl := Option.some.inj (show some _ = some oo from hoo)
          clear hE hR hF
          refine stepV_run hB ?_
          go_simp
          all_goals first | omega | rfl | decide
        · obtain rfl := Option.some.inj (show some _ = some oo from hoo)
          have e6 : T[47]? = some (.pointer (some ⟨H, 1, none⟩)) := hE 6 (by kernel_rfl)
          clear hE hR hF
          refine stepV_run hB ?_
          go_simp
          all_goals first | omega | rfl | decide
        · obtain rfl := Option.some.inj (show some _ = some oo from hoo)
          have e5 : T[46]? = some (.slice (some ⟨r, 0, none⟩) 5 5) := hE 5 (by kernel_rfl)
          have e7 : T[48]? = some (.int .i64 3) := hE 7 (by kernel_rfl)
          clear hE hR hF
          refine stepV_run hB ?_
          go_simp
          all_goals first | omega | rfl | decide
        · obtain rfl := Option.some.inj (show some _ = some oo from hoo)
          have e8 : T[49]? = some (.pointer (some ⟨r, 3, none⟩)) := hE 8 (by kernel_rfl)
          have hr := hR (by kernel_rfl)
          have d0 : V.cell? ⟨r, 3, none⟩ = some (.string ⟨#[32, 43, 32]⟩) := cell_of_row _ r 3 _ _ _ hr
          clear hE hR hF
          refine stepV_run hB ?_
          go_simp
          all_goals first | omega | rfl | decide
        · obtain rfl := Option.some.inj (show some _ = some oo from hoo)
          have e4 : T[45]? = some (.string XA) := hE 4 (by kernel_rfl)
          have e9 : T[50]? = some (.string ⟨#[32, 43, 32]⟩) := hE 9 (by kernel_rfl)
          clear hE hR hF
          refine stepV_run hB ?_
          go_simp
          all_goals first | omega | rfl | decide
        · obtain rfl := Option.some.inj (show some _ = some oo from hoo)
          clear hE hR hF
          refine stepV_run hB ?_
          go_simp
          all_goals first | omega | rfl | decide
        · obtain rfl := Option.some.inj (show some _ = some oo from hoo)
          clear hE hR hF
          refine stepV_run hB ?_
          go_simp
          all_goals first | omega | rfl | decide
        · obtain rfl := Option.some.inj (show some _ = some oo from hoo)
          have e12 : T[53]? = some (.slice (some ⟨bk, 0, none⟩) 2 cp) := hE 12 (by kernel_rfl)
          clear hE hR hF
          refine stepV_run hB ?_
          go_simp
          all_goals first | omega | rfl | decide
        · obtain rfl := Option.some.inj (show some _ = some oo from hoo)
          have e13 : T[54]? = some (.pointer (some ⟨bk, 1, none⟩)) := hE 13 (by kernel_rfl)
          clear hE hR hF
          refine stepV_run hB ?_
          go_simp
          all_goals first | omega | rfl | decide
        · obtain rfl := Option.some.inj (show some _ = some oo from hoo)
          have e11 : T[52]? = some (.slice (some ⟨b, o, none⟩) L.length c) := hE 11 (by kernel_rfl)
          have e14 : T[55]? = some ((.int .i64 (q' : Int))) := hE 14 (by kernel_rfl)
          clear hE hR hF
          refine stepV_call (f := 14) (args := #[.slice (some ⟨b, o, none⟩) L.length c, .int .i64 (q' : Int)]) (by go_simp) ?_
          exact (HB.out V hB.1.old).mono (fun e w' hh => ⟨hh.1, ⟨hB.1.next hh.2, hB.2.below hh.2⟩, fun r hr => (hh.2.block r (Array.getElem?_eq_some_iff.1 hr).1).trans hr⟩)
        · obtain rfl := Option.some.inj (show some _ = some oo from hoo)
          have e10 : T[51]? = some (.string (XA ++ ⟨#[32, 43, 32]⟩)) := hE 10 (by kernel_rfl)
          have e15 : T[56]? = some (.string XB) := hE 15 (by kernel_rfl)
          clear hE hR hF
          refine stepV_run hB ?_
          go_simp
          all_goals first | omega | rfl | decide
        · obtain rfl := Option.some.inj (show some _ = some oo from hoo)
          have e16 : T[57]? = some (.string (XA ++ ⟨#[32, 43, 32]⟩ ++ XB)) := hE 16 (by kernel_rfl)
          clear hE hR hF
          refine stepV_run hB ?_
          go_simp
          all_goals first | omega | rfl | decide
      · intro oo hoo T V hB hF K Q hK
        obtain rfl := Option.some.inj (show some _ = some oo from hoo)
        unfold Oper.wp
        go_simp
        exact hK _ ⟨hB.1.next ((Below.refl _ _).alloc (Nat.le_refl _) _), hB.2.below ((Below.refl _ _).alloc (Nat.le_refl _) _)⟩ (heap_alloc_new V _)
      · intro r T V hs hF hB hv
        have h2 : T[4]? = some (.string (XA ++ ⟨#[32, 43, 32]⟩ ++ XB)) := hv 17 (by omega)
        go_wp2_with fail
        go_ret
        refine ⟨?_, hB.1.old⟩
        show Ending.returned (T.getD 4 undef) = _
        rw [Array.getD_eq_getD_getElem?, h2, HXA.out, HXB.out]
        show Ending.returned (.string (bOf v.wr ++ bOf [32, 43, 32] ++ bOf v'.wr)) = _
        rw [bOf_app, bOf_app, HWr.out, HOp.out]
        simp [sepL]
      · intro p hp
        simp only [List.mem_cons, List.not_mem_nil, or_false] at hp
        rcases hp with rfl | rfl | rfl
        all_goals rfl
      · exact ⟨HB0.out.drew 1, HKW.out⟩

    · have HOp : Hid (X.op = 4) := hop
      clear hop
      go_wp2_with fail
      refine wp_region_any (by kernel_rfl) ?_
      refine wpAny_rowB (m := 18) (n := 87) (b := 5) (ds := [41, 42, 43, 44, 45, 46, 47, 48, 49, 50, 51, 52, 53, 54, 55, 56, 57, 4])
        (val := fun r k => [.slice (some ⟨b, o, none⟩) L.length c, .slice (some ⟨bk, 0, none⟩) 2 cp, .pointer (some ⟨bk, 0, none⟩), .int .i64 (q : Int), .string XA, .slice (some ⟨r, 0, none⟩) 5 5, .pointer (some ⟨H, 1, none⟩), .int .i64 4, .pointer (some ⟨r, 4, none⟩), .string ⟨#[32, 126, 32]⟩, .string (XA ++ ⟨#[32, 126, 32]⟩), .slice (some ⟨b, o, none⟩) L.length c, .slice (some ⟨bk, 0, none⟩) 2 cp, .pointer (some ⟨bk, 1, none⟩), (.int .i64 (q' : Int)), .string XB, .string (XA ++ ⟨#[32, 126, 32]⟩ ++ XB), .string (XA ++ ⟨#[32, 126, 32]⟩ ++ XB)].getD k undef)
        (dep := fun k => decide (k = 5 ∨ k = 8)) (Base := fun V => BlkB H #[.int .i64 X.kind, .int .i64 X.op, .string X.key, .string X.val, .int .i64 X.a, .int .i64 X.b, .int .i64 X.flag, .int .i64 X.size] 25 w.heap.size w V ∧ KRow V w.heap.size (some ⟨bk, 0, none⟩) PS)
        (Row := fun r V => V.heap[r]? = some (.cells #[.string ⟨#[]⟩, .string ⟨#[32]⟩, .string ⟨#[32, 62, 32]⟩, .string ⟨#[32, 43, 32]⟩, .string ⟨#[32, 126, 32]⟩] 9 (0, 0)))
        (fs := [(0, .slice (some ⟨b, o, none⟩) L.length c), (5, .slice (some ⟨bk, 0, none⟩) 2 cp), (6, .pointer (some ⟨H, 0, none⟩))]) (by kernel_rfl) ?_ ?_ ?_ ?_ rfl ?_ ?_
      · intro r r' k hk hd
        have : k = 0 ∨ k = 1 ∨ k = 2 ∨ k = 3 ∨ k = 4 ∨ k = 5 ∨ k = 6 ∨ k = 7 ∨ k = 8 ∨ k = 9 ∨ k = 10 ∨ k = 11 ∨ k = 12 ∨ k = 13 ∨ k = 14 ∨ k = 15 ∨ k = 16 ∨ k = 17 := by omega
        rcases this with rfl | rfl | rfl | rfl | rfl | rfl | rfl | rfl | rfl | rfl | rfl | rfl | rfl | rfl | rfl | rfl | rfl | rfl
        all_goals first | rfl | exact absurd hd (by decide)
      · intro k oo hk hoo hkb r T V hB hF hR hE
        have hT0 : T[0]? = some (.slice (some ⟨b, o, none⟩) L.length c) := hF (0, .slice (some ⟨b, o, none⟩) L.length c) (by simp)
        have hT5 : T[5]? = some (.slice (some ⟨bk, 0, none⟩) 2 cp) := hF (5, .slice (some ⟨bk, 0, none⟩) 2 cp) (by simp)
        have hT6 : T[6]? = some (.pointer (some ⟨H, 0, none⟩)) := hF (6, .pointer (some ⟨H, 0, none⟩)) (by simp)
        have d1 : V.cell? ⟨H, 1, none⟩ = some (.int .i64 4) := by rw [← HOp.out]; exact hB.1.cell 1
        have k0 : V.cell? ⟨bk, 0, none⟩ = some (.int .i64 (q : Int)) := by
          obtain ⟨bk', e1, _, e2⟩ := hB.2.get HQ.out
          cases e1; exact e2
        have k1 : V.cell? ⟨bk, 1, none⟩ = some (.int .i64 (q' : Int)) := by
          obtain ⟨bk', e1, _, e2⟩ := hB.2.get HQ'.out
          cases e1; exact e2
        have : k = 0 ∨ k = 1 ∨ k = 2 ∨ k = 3 ∨ k = 4 ∨ k = 5 ∨ k = 6 ∨ k = 7 ∨ k = 8 ∨ k = 9 ∨ k = 10 ∨ k = 11 ∨ k = 12 ∨ k = 13 ∨ k = 14 ∨ k = 15 ∨ k = 16 ∨ k = 17 := by omega
        rcases this with rfl | rfl | rfl | rfl | rfl | rfl | rfl | rfl | rfl | rfl | rfl | rfl | rfl | rfl | rfl | rfl | rfl | rfl
        · obtain rfl := Option.some.inj (show some _ = some oo from hoo)
          clear hE hR hF
          refine stepV_run hB ?_
          go_simp
          all_goals first | omega | rfl | decide
        · obtain rfl := Option.some.inj (show some _ = some oo from hoo)
          clear hE hR hF
          refine stepV_run hB ?_
          go_simp
          all_goals first | omega | rfl | decide
        · obtain rfl := Option.some.inj (show some _ = some oo from hoo)
          have e1 : T[42]? = some (.slice (some ⟨bk, 0, none⟩) 2 cp) := hE 1 (by kernel_rfl)
          clear hE hR hF
          refine stepV_run hB ?_
          go_simp
          all_goals first | omega | rfl | decide
        · obtain rfl := Option.some.inj (show some _ = some oo from hoo)
          have e2 : T[43]? = some (.pointer (some ⟨bk, 0, none⟩)) := hE 2 (by kernel_rfl)
          clear hE hR hF
          refine stepV_run hB ?_
          go_simp
          all_goals first | omega | rfl | decide
        · obtain rfl := Option.some.inj (show some _ = some oo from hoo)
          have e0 : T[41]? = some (.slice (some ⟨b, o, none⟩) L.length c) := hE 0 (by kernel_rfl)
          have e3 : T[44]? = some (.int .i64 (q : Int)) := hE 3 (by kernel_rfl)
          clear hE hR hF
          refine stepV_call (f := 14) (args := #[.slice (some ⟨b, o, none⟩) L.length c, .int .i64 (q : Int)]) (by go_simp) ?_
          exact (HA.out V hB.1.old).mono (fun e w' hh => ⟨hh.1, ⟨hB.1.next hh.2, hB.2.below hh.2⟩, fun r hr => (hh.2.block r (Array.getElem?_eq_some_iff.1 hr).1).trans hr⟩)
        · exact absurd rfl hkb
        · obtain rfl := Option.some.inj (show some _ = some oo from hoo)
          clear hE hR hF
          refine stepV_run hB ?_
          go_simp
          all_goals first | omega | rfl | decide
        · obtain rfl := Option.some.inj (show some _ = some oo from hoo)
          have e6 : T[47]? = some (.pointer (some ⟨H, 1, none⟩)) := hE 6 (by kernel_rfl)
          clear hE hR hF
          refine stepV_run hB ?_
          go_simp
          all_goals first | omega | rfl | decide
        · obtain rfl := Option.some.inj (show some _ = some oo from hoo)
          have e5 : T[46]? = some (.slice (some ⟨r, 0, none⟩) 5 5) := hE 5 (by kernel_rfl)
          have e7 : T[48]? = some (.int .i64 4) := hE 7 (by kernel_rfl)
          clear hE hR hF
          refine stepV_run hB ?_
          go_simp
          all_goals first | omega | rfl | decide
        · obtain rfl := Option.some.inj (show some _ = some oo from hoo)
          have e8 : T[49]? = some (.pointer (some ⟨r, 4, none⟩)) := hE 8 (by kernel_rfl)
          have hr := hR (by kernel_rfl)
          have d0 : V.cell? ⟨r, 4, none⟩ = some (.string ⟨#[32, 126, 32]⟩) := cell_of_row _ r 4 _ _ _ hr
          clear hE hR hF
          refine stepV_run hB ?_
          go_simp
          all_goals first | omega | rfl | decide
        · obtain rfl := Option.some.inj (show some _ = some oo from hoo)
          have e4 : T[45]? = some (.string XA) := hE 4 (by kernel_rfl)
          have e9 : T[50]? = some (.string ⟨#[32, 126, 32]⟩) := hE 9 (by kernel_rfl)
          clear hE hR hF
          refine stepV_run hB ?_
          go_simp
          all_goals first | omega | rfl | decide
        · obtain rfl := Option.some.inj (show some _ = some oo from hoo)
          clear hE hR hF
          refine stepV_run hB ?_
          go_simp
          all_goals first | omega | rfl | decide
        · obtain rfl := Option.some.inj (show some _ = some oo from hoo)
          clear hE hR hF
          refine stepV_run hB ?_
          go_simp
          all_goals first | omega | rfl | decide
        · obtain rfl := Option.some.inj (show some _ = some oo from hoo)
          have e12 : T[53]? = some (.slice (some ⟨bk, 0, none⟩) 2 cp) := hE 12 (by kernel_rfl)
          clear hE hR hF
          refine stepV_run hB ?_
          go_simp
          all_goals first | omega | rfl | decide
        · obtain rfl := Option.some.inj (show some _ = some oo from hoo)
          have e13 : T[54]? = some (.pointer (some ⟨bk, 1, none⟩)) := hE 13 (by kernel_rfl)
          clear hE hR hF
          refine stepV_run hB ?_
          go_simp
          all_goals first | omega | rfl | decide
        · obtain rfl := Option.some.inj (show some _ = some oo from hoo)
          have e11 : T[52]? = some (.slice (some ⟨b, o, none⟩) L.length c) := hE 11 (by kernel_rfl)
          have e14 : T[55]? = some ((.int .i64 (q' : Int))) := hE 14 (by kernel_rfl)
          clear hE hR hF
          refine stepV_call (f := 14) (args := #[.slice (some ⟨b, o, none⟩) L.length c, .int .i64 (q' : Int)]) (by go_simp) ?_
          exact (HB.out V hB.1.old).mono (fun e w' hh => ⟨hh.1, ⟨hB.1.next hh.2, hB.2.below hh.2⟩, fun r hr => (hh.2.block r (Array.getElem?_eq_some_iff.1 hr).1).trans hr⟩)
        · obtain rfl := Option.some.inj (show some _ = some oo from hoo)
          have e10 : T[51]? = some (.string (XA ++ ⟨#[32, 126, 32]⟩)) := hE 10 (by kernel_rfl)
          have e15 : T[56]? = some (.string XB) := hE 15 (by kernel_rfl)
          clear hE hR hF
          refine stepV_run hB ?_
          go_simp
          all_goals first | omega | rfl | decide
        · obtain rfl := Option.some.inj (show some _ = some oo from hoo)
          have e16 : T[57]? = some (.string (XA ++ ⟨#[32, 126, 32]⟩ ++ XB)) := hE 16 (by kernel_rfl)
          clear hE hR hF
          refine stepV_run hB ?_
          go_simp
          all_goals first | omega | rfl | decide
      · intro oo hoo T V hB hF K Q hK
        obtain rfl := Option.some.inj (show some _ = some oo from hoo)
        unfold Oper.wp
        go_simp
        exact hK _ ⟨hB.1.next ((Below.refl _ _).alloc (Nat.le_refl _) _), hB.2.below ((Below.refl _ _).alloc (Nat.le_refl _) _)⟩ (heap_alloc_new V _)
      · intro r T V hs hF hB hv
        have h2 : T[4]? = some (.string (XA ++ ⟨#[32, 126, 32]⟩ ++ XB)) := hv 17 (by omega)
        go_wp2_with fail
        go_ret
        refine ⟨?_, hB.1.old⟩
        show Ending.returned (T.getD 4 undef) = _
        rw [Array.getD_eq_getD_getElem?, h2, HXA.out, HXB.out]
        show Ending.returned (.string (bOf v.wr ++ bOf [32, 126, 32] ++ bOf v'.wr)) = _
        rw [bOf_app, bOf_app, HWr.out, HOp.out]
        simp [sepL]
      · intro p hp
        simp only [List.mem_cons, List.not_mem_nil, or_false] at hp
        rcases hp with rfl | rfl | rfl
        all_goals rfl
      · exact ⟨HB0.out.drew 1, HKW.out⟩

  have m22 : (kd == 22) = false := beq_eq_false_iff_ne.2 k22
  by_cases k21 : kd = 21
  · have m21 : (kd == 21) = true := beq_iff_eq.2 k21
    have HCq := Lib.hid (HCp.out (by rw [← HKd.out]; exact k21) W1 HB0.out.old)
    have HO := Lib.hid HB0.out.old
    clear k21 k22 k23
    go_wp2_with fail
    refine HCq.out.mono ?_
    rintro e2 w2 ⟨rfl, hb2⟩
    have HF := Lib.hid (bnext HO.out hb2)
    clear hb2
    go_wp2_with fail
    go_ret
    exact ⟨rfl, HF.out⟩
  have m21 : (kd == 21) = false := beq_eq_false_iff_ne.2 k21
  by_cases k18 : 18 ≤ kd ∧ kd ≤ 20
  · have h18 : 18 ≤ u.top.kind ∧ u.top.kind ≤ 20 := by rw [← HKd.out]; exact k18
    obtain ⟨v, hv⟩ : ∃ v, u.kids.list = [v] := by
      rcases HShp.out with ⟨q, _⟩ | ⟨_, _, v, hl, _⟩ | ⟨q, _⟩ | ⟨q, _⟩ | ⟨_, q, _⟩
      · omega
      · exact ⟨v, hl⟩
      · omega
      · omega
      · omega
    obtain ⟨q, hq, hqt, _, _⟩ := kid_at2 HU.out (j := 0) (v := v) (by rw [hv]; rfl)
    rw [← HPS.out] at hq
    have HQ := Lib.hid hq
    obtain ⟨bk, rfl, _, _⟩ := HKW.out.get hq
    have HWr : Hid (u.wr = 58 :: (wdRel X.kind ++ (40 :: (v.wr ++ [41])))) := by rw [Hid, HX.out]; exact (ST.wr_rel h18.1 h18.2 hv).1
    have hlv : v.wr.length ≤ 100000 := HSz.out v (by rw [hv]; exact List.mem_cons_self ..)
    obtain ⟨XA, hXA⟩ : ∃ XA, XA = bOf v.wr := ⟨_, rfl⟩
    have hxa : XA.size ≤ 100000 := by rw [hXA, bOf_size]; exact hlv
    have HA : Hid (∀ V, Below w.heap.size w V → Calls Tryz.prog 14 #[.slice (some ⟨b, o, none⟩) L.length c, .int .i64 (q : Int)] V (StrB XA V)) := fun V hV => by rw [hXA]; exact HIH.out v (by rw [hv]; exact List.mem_cons_self ..) q V hqt hV
    have HXA := Lib.hid hXA
    have hkk : kd = 18 ∨ kd = 19 ∨ kd = 20 := by omega
    rw [hv]
    clear hlv hXA hv hq hqt h18 k18 k21 k22 k23 c0 c1 c2 c3 c4 c5 c6 c7 HIH HCp HSm HSz HJl HShp HFo HU HC
    rcases hkk with hop | hop | hop
    · have HOp : Hid (X.kind = 18) := by rw [Hid, ← HKx.out]; exact hop
      have m18 : (kd == 18) = true := beq_iff_eq.2 hop
      clear hop
      go_wp2_with fail
      refine wp_region_any (by kernel_rfl) ?_
      refine wpAny_rowB (m := 16) (n := 87) (b := 0) (ds := [67, 68, 69, 70, 71, 72, 73, 74, 75, 76, 77, 78, 79, 80, 81, 4])
        (val := fun r k => [.slice (some ⟨r, 0, none⟩) 3 3, .pointer (some ⟨H, 0, none⟩), .int .i64 18, .int .i64 0, .pointer (some ⟨r, 0, none⟩), .string ⟨#[110, 111, 116]⟩, .string (⟨#[58]⟩ ++ ⟨#[110, 111, 116]⟩), .string (⟨#[58]⟩ ++ ⟨#[110, 111, 116]⟩ ++ ⟨#[40]⟩), .slice (some ⟨b, o, none⟩) L.length c, .slice (some ⟨bk, 0, none⟩) 1 cp, .pointer (some ⟨bk, 0, none⟩), .int .i64 (q : Int), .string XA, .string (⟨#[58]⟩ ++ ⟨#[110, 111, 116]⟩ ++ ⟨#[40]⟩ ++ XA), .string (⟨#[58]⟩ ++ ⟨#[110, 111, 116]⟩ ++ ⟨#[40]⟩ ++ XA ++ ⟨#[41]⟩), .string (⟨#[58]⟩ ++ ⟨#[110, 111, 116]⟩ ++ ⟨#[40]⟩ ++ XA ++ ⟨#[41]⟩)].getD k undef)
        (dep := fun k => decide (k = 0 ∨ k = 4)) (Base := fun V => BlkB H #[.int .i64 X.kind, .int .i64 X.op, .string X.key, .string X.val, .int .i64 X.a, .int .i64 X.b, .int .i64 X.flag, .int .i64 X.size] 25 w.heap.size w V ∧ KRow V w.heap.size (some ⟨bk, 0, none⟩) PS)
        (Row := fun r V => V.heap[r]? = some (.cells #[.string ⟨#[110, 111, 116]⟩, .string ⟨#[104, 97, 115]⟩, .string ⟨#[104, 97, 115, 99, 104, 105, 108, 100]⟩] 9 (0, 0)))
        (fs := [(0, .slice (some ⟨b, o, none⟩) L.length c), (5, .slice (some ⟨bk, 0, none⟩) 1 cp), (6, .pointer (some ⟨H, 0, none⟩))]) (by kernel_rfl) ?_ ?_ ?_ ?_ rfl ?_ ?_
      · intro r r' k hk hd
        have : k = 0 ∨ k = 1 ∨ k = 2 ∨ k = 3 ∨ k = 4 ∨ k = 5 ∨ k = 6 ∨ k = 7 ∨ k = 8 ∨ k = 9 ∨ k = 10 ∨ k = 11 ∨ k = 12 ∨ k = 13 ∨ k = 14 ∨ k = 15 := by omega
        rcases this with rfl | rfl | rfl | rfl | rfl | rfl | rfl | rfl | rfl | rfl | rfl | rfl | rfl | rfl | rfl | rfl
        all_goals first | rfl | exact absurd hd (by decide)
      · intro k oo hk hoo hkb r T V hB hF hR hE
        have hT0 : T[0]? = some (.slice (some ⟨b, o, none⟩) L.length c) := hF (0, .slice (some ⟨b, o, none⟩) L.length c) (by simp)
        have hT5 : T[5]? = some (.slice (some ⟨bk, 0, none⟩) 1 cp) := hF (5, .slice (some ⟨bk, 0, none⟩) 1 cp) (by simp)
        have hT6 : T[6]? = some (.pointer (some ⟨H, 0, none⟩)) := hF (6, .pointer (some ⟨H, 0, none⟩)) (by simp)
        have d1 : V.cell? ⟨H, 0, none⟩ = some (.int .i64 18) := by rw [← HOp.out]; exact hB.1.cell 0
        have k0 : V.cell? ⟨bk, 0, none⟩ = some (.int .i64 (q : Int)) := by
          obtain ⟨bk', e1, _, e2⟩ := hB.2.get HQ.out
          cases e1; exact e2
        have : k = 0 ∨ k = 1 ∨ k = 2 ∨ k = 3 ∨ k = 4 ∨ k = 5 ∨ k = 6 ∨ k = 7 ∨ k = 8 ∨ k = 9 ∨ k = 10 ∨ k = 11 ∨ k = 12 ∨ k = 13 ∨ k = 14 ∨ k = 15 := by omega
        rcases this with rfl | rfl | rfl | rfl | rfl | rfl | rfl | rfl | rfl | rfl | rfl | rfl | rfl | rfl | rfl | rfl
        · exact absurd rfl hkb
        · obtain rfl := Option.some.inj (show some _ = some oo from hoo)
          clear hE hR hF
          refine stepV_run hB ?_
          go_simp
          all_goals first | omega | rfl | decide
        · obtain rfl := Option.some.inj (show some _ = some oo from hoo)
          have e1 : T[68]? = some (.pointer (some ⟨H, 0, none⟩)) := hE 1 (by kernel_rfl)
          clear hE hR hF
          refine stepV_run hB ?_
          go_simp
          all_goals first | omega | rfl | decide
        · obtain rfl := Option.some.inj (show some _ = some oo from hoo)
          have e2 : T[69]? = some (.int .i64 18) := hE 2 (by kernel_rfl)
          clear hE hR hF
          refine stepV_run hB ?_
          go_simp
          all_goals first | omega | rfl | decide
        · obtain rfl := Option.some.inj (show some _ = some oo from hoo)
          have e0 : T[67]? = some (.slice (some ⟨r, 0, none⟩) 3 3) := hE 0 (by kernel_rfl)
          have e3 : T[70]? = some (.int .i64 0) := hE 3 (by kernel_rfl)
          clear hE hR hF
          refine stepV_run hB ?_
          go_simp
          all_goals first | omega | rfl | decide
        · obtain rfl := Option.some.inj (show some _ = some oo from hoo)
          have e4 : T[71]? = some (.pointer (some ⟨r, 0, none⟩)) := hE 4 (by kernel_rfl)
          have hr := hR (by kernel_rfl)
          have d0 : V.cell? ⟨r, 0, none⟩ = some (.string ⟨#[110, 111, 116]⟩) := cell_of_row _ r 0 _ _ _ hr
          clear hE hR hF
          refine stepV_run hB ?_
          go_simp
          all_goals first | omega | rfl | decide
        · obtain rfl := Option.some.inj (show some _ = some oo from hoo)
          have e5 : T[72]? = some (.string ⟨#[110, 111, 116]⟩) := hE 5 (by kernel_rfl)
          clear hE hR hF
          refine stepV_run hB ?_
          go_simp
          all_goals first | omega | rfl | decide
        · obtain rfl := Option.some.inj (show some _ = some oo from hoo)
          have e6 : T[73]? = some (.string (⟨#[58]⟩ ++ ⟨#[110, 111, 116]⟩)) := hE 6 (by kernel_rfl)
          clear hE hR hF
          refine stepV_run hB ?_
          go_simp
          all_goals first | omega | rfl | decide
        · obtain rfl := Option.some.inj (show some _ = some oo from hoo)
          clear hE hR hF
          refine stepV_run hB ?_
          go_simp
          all_goals first | omega | rfl | decide
        · obtain rfl := Option.some.inj (show some _ = some oo from hoo)
          clear hE hR hF
          refine stepV_run hB ?_
          go_simp
          all_goals first | omega | rfl | decide
        · obtain rfl := Option.some.inj (show some _ = some oo from hoo)
          have e9 : T[76]? = some (.slice (some ⟨bk, 0, none⟩) 1 cp) := hE 9 (by kernel_rfl)
          clear hE hR hF
          refine stepV_run hB ?_
          go_simp
          all_goals first | omega | rfl | decide
        · obtain rfl := Option.some.inj (show some _ = some oo from hoo)
          have e10 : T[77]? = some (.pointer (some ⟨bk, 0, none⟩)) := hE 10 (by kernel_rfl)
          clear hE hR hF
          refine stepV_run hB ?_
          go_simp
          all_goals first | omega | rfl | decide
        · obtain rfl := Option.some.inj (show some _ = some oo from hoo)
          have e8 : T[75]? = some (.slice (some ⟨b, o, none⟩) L.length c) := hE 8 (by kernel_rfl)
          have e11 : T[78]? = some (.int .i64 (q : Int)) := hE 11 (by kernel_rfl)
          clear hE hR hF
          refine stepV_call (f := 14) (args := #[.slice (some ⟨b, o, none⟩) L.length c, .int .i64 (q : Int)]) (by go_simp) ?_
          exact (HA.out V hB.1.old).mono (fun e w' hh => ⟨hh.1, ⟨hB.1.next hh.2, hB.2.below hh.2⟩, fun r hr => (hh.2.block r (Array.getElem?_eq_some_iff.1 hr).1).trans hr⟩)
        · obtain rfl := Option.some.inj (show some _ = some oo from hoo)
          have e7 : T[74]? = some (.string (⟨#[58]⟩ ++ ⟨#[110, 111, 116]⟩ ++ ⟨#[40]⟩)) := hE 7 (by kernel_rfl)
          have e12 : T[79]? = some (.string XA) := hE 12 (by kernel_rfl)
          clear hE hR hF
          refine stepV_run hB ?_
          go_simp
          all_goals first | omega | rfl | decide
        · obtain rfl := Option.some.inj (show some _ = some oo from hoo)
          have e13 : T[80]? = some (.string (⟨#[58]⟩ ++ ⟨#[110, 111, 116]⟩ ++ ⟨#[40]⟩ ++ XA)) := hE 13 (by kernel_rfl)
          clear hE hR hF
          refine stepV_run hB ?_
          go_simp
          all_goals first | omega | rfl | decide
        · obtain rfl := Option.some.inj (show some _ = some oo from hoo)
          have e14 : T[81]? = some (.string (⟨#[58]⟩ ++ ⟨#[110, 111, 116]⟩ ++ ⟨#[40]⟩ ++ XA ++ ⟨#[41]⟩)) := hE 14 (by kernel_rfl)
          clear hE hR hF
          refine stepV_run hB ?_
          go_simp
          all_goals first | omega | rfl | decide
      · intro oo hoo T V hB hF K Q hK
        obtain rfl := Option.some.inj (show some _ = some oo from hoo)
        unfold Oper.wp
        go_simp
        exact hK _ ⟨hB.1.next ((Below.refl _ _).alloc (Nat.le_refl _) _), hB.2.below ((Below.refl _ _).alloc (Nat.le_refl _) _)⟩ (heap_alloc_new V _)
      · intro r T V hs hF hB hv
        have h2 : T[4]? = some (.string (⟨#[58]⟩ ++ ⟨#[110, 111, 116]⟩ ++ ⟨#[40]⟩ ++ XA ++ ⟨#[41]⟩)) := hv 15 (by omega)
        go_wp2_with fail
        go_ret
        refine ⟨?_, hB.1.old⟩
        show Ending.returned (T.getD 4 undef) = _
        rw [Array.getD_eq_getD_getElem?, h2, HXA.out]
        show Ending.returned (.string (bOf [58] ++ bOf [110, 111, 116] ++ bOf [40] ++ bOf v.wr ++ bOf [41])) = _
        rw [bOf_app, bOf_app, bOf_app, bOf_app, HWr.out, HOp.out]
        simp [wdRel]
      · intro p hp
        simp only [List.mem_cons, List.not_mem_nil, or_false] at hp
        rcases hp with rfl | rfl | rfl
        all_goals rfl
      · exact ⟨HB0.out.drew 1, HKW.out⟩

    · have HOp : Hid (X.kind = 19) := by rw [Hid, ← HKx.out]; exact hop
      have m18 : (kd == 18) = false := beq_eq_false_iff_ne.2 (by omega)
      have m19 : (kd == 19) = true := beq_iff_eq.2 hop
      clear hop
      go_wp2_with fail
      refine wp_region_any (by kernel_rfl) ?_
      refine wpAny_rowB (m := 16) (n := 87) (b := 0) (ds := [67, 68, 69, 70, 71, 72, 73, 74, 75, 76, 77, 78, 79, 80, 81, 4])
        (val := fun r k => [.slice (some ⟨r, 0, none⟩) 3 3, .pointer (some ⟨H, 0, none⟩), .int .i64 19, .int .i64 1, .pointer (some ⟨r, 1, none⟩), .string ⟨#[104, 97, 115]⟩, .string (⟨#[58]⟩ ++ ⟨#[104, 97, 115]⟩), .string (⟨#[58]⟩ ++ ⟨#[104, 97, 115]⟩ ++ ⟨#[40]⟩), .slice (some ⟨b, o, none⟩) L.length c, .slice (some ⟨bk, 0, none⟩) 1 cp, .pointer (some ⟨bk, 0, none⟩), .int .i64 (q : Int), .string XA, .string (⟨#[58]⟩ ++ ⟨#[104, 97, 115]⟩ ++ ⟨#[40]⟩ ++ XA), .string (⟨#[58]⟩ ++ ⟨#[104, 97, 115]⟩ ++ ⟨#[40]⟩ ++ XA ++ ⟨#[41]⟩), .string (⟨#[58]⟩ ++ ⟨#[104, 97, 115]⟩ ++ ⟨#[40]⟩ ++ XA ++ ⟨#[41]⟩)].getD k undef)
        (dep := fun k => decide (k = 0 ∨ k = 4)) (Base := fun V => BlkB H #[.int .i64 X.kind, .int .i64 X.op, .string X.key, .string X.val, .int .i64 X.a, .int .i64 X.b, .int .i64 X.flag, .int .i64 X.size] 25 w.heap.size w V ∧ KRow V w.heap.size (some ⟨bk, 0, none⟩) PS)
        (Row := fun r V => V.heap[r]? = some (.cells #[.string ⟨#[110, 111, 116]⟩, .string ⟨#[104, 97, 115]⟩, .string ⟨#[104, 97, 115, 99, 104, 105, 108, 100]⟩] 9 (0, 0)))
        (fs := [(0, .slice (some ⟨b, o, none⟩) L.length c), (5, .slice (some ⟨bk, 0, none⟩) 1 cp), (6, .pointer (some ⟨H, 0, none⟩))]) (by kernel_rfl) ?_ ?_ ?_ ?_ rfl ?_ ?_
      · intro r r' k hk hd
        have : k = 0 ∨ k = 1 ∨ k = 2 ∨ k = 3 ∨ k = 4 ∨ k = 5 ∨ k = 6 ∨ k = 7 ∨ k = 8 ∨ k = 9 ∨ k = 10 ∨ k = 11 ∨ k = 12 ∨ k = 13 ∨ k = 14 ∨ k = 15 := by omega
        rcases this with rfl | rfl | rfl | rfl | rfl | rfl | rfl | rfl | rfl | rfl | rfl | rfl | rfl | rfl | rfl | rfl
        all_goals first | rfl | exact absurd hd (by decide)
      · intro k oo hk hoo hkb r T V hB hF hR hE
        have hT0 : T[0]? = some (.slice (some ⟨b, o, none⟩) L.length c) := hF (0, .slice (some ⟨b, o, none⟩) L.length c) (by simp)
        have hT5 : T[5]? = some (.slice (some ⟨bk, 0, none⟩) 1 cp) := hF (5, .slice (some ⟨bk, 0, none⟩) 1 cp) (by simp)
        have hT6 : T[6]? = some (.pointer (some ⟨H, 0, none⟩)) := hF (6, .pointer (some ⟨H, 0, none⟩)) (by simp)
        have d1 : V.cell? ⟨H, 0, none⟩ = some (.int .i64 19) := by rw [← HOp.out]; exact hB.1.cell 0
        have k0 : V.cell? ⟨bk, 0, none⟩ = some (.int .i64 (q : Int)) := by
          obtain ⟨bk', e1, _, e2⟩ := hB.2.get HQ.out
          cases e1; exact e2
        have : k = 0 ∨ k = 1 ∨ k = 2 ∨ k = 3 ∨ k = 4 ∨ k = 5 ∨ k = 6 ∨ k = 7 ∨ k = 8 ∨ k = 9 ∨ k = 10 ∨ k = 11 ∨ k = 12 ∨ k = 13 ∨ k = 14 ∨ k = 15 := by omega
        rcases this with rfl | rfl | rfl | rfl | rfl | rfl | rfl | rfl | rfl | rfl | rfl | rfl | rfl | rfl | rfl | rfl
        · exact absurd rfl hkb
        · obtain rfl := Option.some.inj (show some _ = some oo from hoo)
          clear hE hR hF
          refine stepV_run hB ?_
          go_simp
          all_goals first | omega | rfl | decide
        · obtain rfl := Option.some.inj (show some _ = some oo from hoo)
          have e1 : T[68]? = some (.pointer (some ⟨H, 0, none⟩)) := hE 1 (by kernel_rfl)
          clear hE hR hF
          refine stepV_run hB ?_
          go_simp
          all_goals first | omega | rfl | decide
        · obtain rfl := Option.some.inj (show some _ = some oo from hoo)
          have e2 : T[69]? = some (.int .i64 19) := hE 2 (by kernel_rfl)
          clear hE hR hF
          refine stepV_run hB ?_
          go_simp
          all_goals first | omega | rfl | decide
        · obtain rfl := Option.some.inj (show some _ = some oo from hoo)
          have e0 : T[67]? = some (.slice (some ⟨r, 0, none⟩) 3 3) := hE 0 (by kernel_rfl)
          have e3 : T[70]? = some (.int .i64 1) := hE 3 (by kernel_rfl)
          clear hE hR hF
          refine stepV_run hB ?_
          go_simp
          all_goals first | omega | rfl | decide
        · obtain rfl := Option.some.inj (show some _ = some oo from hoo)
          have e4 : T[71]? = some (.pointer (some ⟨r, 1, none⟩)) := hE 4 (by kernel_rfl)
          have hr := hR (by kernel_rfl)
          have d0 : V.cell? ⟨r, 1, none⟩ = some (.string ⟨#[104, 97, 115]⟩) := cell_of_row _ r 1 _ _ _ hr
          clear hE hR hF
          refine stepV_run hB ?_
          go_simp
          all_goals first | omega | rfl | decide
        · obtain rfl := Option.some.inj (show some _ = some oo from hoo)
          have e5 : T[72]? = some (.string ⟨#[104, 97, 115]⟩) := hE 5 (by kernel_rfl)
          clear hE hR hF
          refine stepV_run hB ?_
          go_simp
          all_goals first | omega | rfl | decide
        · obtain rfl := Option.some.inj (show some _ = some oo from hoo)
          have e6 : T[73]? = some (.string (⟨#[58]⟩ ++ ⟨#[104, 97, 115]⟩)) := hE 6 (by kernel_rfl)
          clear hE hR hF
          refine stepV_run hB ?_
          go_simp
          all_goals first | omega | rfl | decide
        · obtain rfl := Option.some.inj (show some _ = some oo from hoo)
          clear hE hR hF
          refine stepV_run hB ?_
          go_simp
          all_goals first | omega | rfl | decide
        · obtain rfl := Option.some.inj (show some _ = some oo from hoo)
          clear hE hR hF
          refine stepV_run hB ?_
          go_simp
          all_goals first | omega | rfl | decide
        · obtain rfl := Option.some.inj (show some _ = some oo from hoo)
          have e9 : T[76]? = some (.slice (some ⟨bk, 0, none⟩) 1 cp) := hE 9 (by kernel_rfl)
          clear hE hR hF
          refine stepV_run hB ?_
          go_simp
          all_goals first | omega | rfl | decide
        · obtain rfl := Option.some.inj (show some _ = some oo from hoo)
          have e10 : T[77]? = some (.pointer (some ⟨bk, 0, none⟩)) := hE 10 (by kernel_rfl)
          clear hE hR hF
          refine stepV_run hB ?_
          go_simp
          all_goals first | omega | rfl | decide
        · obtain rfl := Option.some.inj (show some _ = some oo from hoo)
          have e8 : T[75]? = some (.slice (some ⟨b, o, none⟩) L.length c) := hE 8 (by kernel_rfl)
          have e11 : T[78]? = some (.int .i64 (q : Int)) := hE 11 (by kernel_rfl)
          clear hE hR hF
          refine stepV_call (f := 14) (args := #[.slice (some ⟨b, o, none⟩) L.length c, .int .i64 (q : Int)]) (by go_simp) ?_
          exact (HA.out V hB.1.old).mono (fun e w' hh => ⟨hh.1, ⟨hB.1.next hh.2, hB.2.below hh.2⟩, fun r hr => (hh.2.block r (Array.getElem?_eq_some_iff.1 hr).1).trans hr⟩)
        · obtain rfl := Option.some.inj (show some _ = some oo from hoo)
          have e7 : T[74]? = some (.string (⟨#[58]⟩ ++ ⟨#[104, 97, 115]⟩ ++ ⟨#[40]⟩)) := hE 7 (by kernel_rfl)
          have e12 : T[79]? = some (.string XA) := hE 12 (by kernel_rfl)
          clear hE hR hF
          refine stepV_run hB ?_
          go_simp
          all_goals first | omega | rfl | decide
        · obtain rfl := Option.some.inj (show some _ = some oo from hoo)
          have e13 : T[80]? = some (.string (⟨#[58]⟩ ++ ⟨#[104, 97, 115]⟩ ++ ⟨#[40]⟩ ++ XA)) := hE 13 (by kernel_rfl)
          clear hE hR hF
          refine stepV_run hB ?_
          go_simp
          all_goals first | omega | rfl | decide
        · obtain rfl := Option.some.inj (show some _ = some oo from hoo)
          have e14 : T[81]? = some (.string (⟨#[58]⟩ ++ ⟨#[104, 97, 115]⟩ ++ ⟨#[40]⟩ ++ XA ++ ⟨#[41]⟩)) := hE 14 (by kernel_rfl)
          clear hE hR hF
          refine stepV_run hB ?_
          go_simp
          all_goals first | omega | rfl | decide
      · intro oo hoo T V hB hF K Q hK
        obtain rfl := Option.some.inj (show some _ = some oo from hoo)
        unfold Oper.wp
        go_simp
        exact hK _ ⟨hB.1.next ((Below.refl _ _).alloc (Nat.le_refl _) _), hB.2.below ((Below.refl _ _).alloc (Nat.le_refl _) _)⟩ (heap_alloc_new V _)
      · intro r T V hs hF hB hv
        have h2 : T[4]? = some (.string (⟨#[58]⟩ ++ ⟨#[104, 97, 115]⟩ ++ ⟨#[40]⟩ ++ XA ++ ⟨#[41]⟩)) := hv 15 (by omega)
        go_wp2_with fail
        go_ret
        refine ⟨?_, hB.1.old⟩
        show Ending.returned (T.getD 4 undef) = _
        rw [Array.getD_eq_getD_getElem?, h2, HXA.out]
        show Ending.returned (.string (bOf [58] ++ bOf [104, 97, 115] ++ bOf [40] ++ bOf v.wr ++ bOf [41])) = _
        rw [bOf_app, bOf_app, bOf_app, bOf_app, HWr.out, HOp.out]
        simp [wdRel]
      · intro p hp
        simp only [List.mem_cons, List.not_mem_nil, or_false] at hp
        rcases hp with rfl | rfl | rfl
        all_goals rfl
      · exact ⟨HB0.out.drew 1, HKW.out⟩

    · have HOp : Hid (X.kind = 20) := by rw [Hid, ← HKx.out]; exact hop
      have m18 : (kd == 18) = false := beq_eq_false_iff_ne.2 (by omega)
      have m19 : (kd == 19) = false := beq_eq_false_iff_ne.2 (by omega)
      have m20 : (kd == 20) = true := beq_iff_eq.2 hop
      clear hop
      go_wp2_with fail
      refine wp_region_any (by kernel_rfl) ?_
      refine wpAny_rowB (m := 16) (n := 87) (b := 0) (ds := [67, 68, 69, 70, 71, 72, 73, 74, 75, 76, 77, 78, 79, 80, 81, 4])
        (val := fun r k => [.slice (some ⟨r, 0, none⟩) 3 3, .pointer (some ⟨H, 0, none⟩), .int .i64 20, .int .i64 2, .pointer (some ⟨r, 2, none⟩), .string ⟨#[104, 97, 115, 99, 104, 105, 108, 100]⟩, .string (⟨#[58]⟩ ++ ⟨#[104, 97, 115, 99, 104, 105, 108, 100]⟩), .string (⟨#[58]⟩ ++ ⟨#[104, 97, 115, 99, 104, 105, 108, 100]⟩ ++ ⟨#[40]⟩), .slice (some ⟨b, o, none⟩) L.length c, .slice (some ⟨bk, 0, none⟩) 1 cp, .pointer (some ⟨bk, 0, none⟩), .int .i64 (q : Int), .string XA, .string (⟨#[58]⟩ ++ ⟨#[104, 97, 115, 99, 104, 105, 108, 100]⟩ ++ ⟨#[40]⟩ ++ XA), .string (⟨#[58]⟩ ++ ⟨#[104, 97, 115, 99, 104, 105, 108, 100]⟩ ++ ⟨#[40]⟩ ++ XA ++ ⟨#[41]⟩), .string (⟨#[58]⟩ ++ ⟨#[104, 97, 115, 99, 104, 105, 108, 100]⟩ ++ ⟨#[40]⟩ ++ XA ++ ⟨#[41]⟩)].getD k undef)
        (dep := fun k => decide (k = 0 ∨ k = 4)) (Base := fun V => BlkB H #[.int .i64 X.kind, .int .i64 X.op, .string X.key, .string X.val, .int .i64 X.a, .int .i64 X.b, .int .i64 X.flag, .int .i64 X.size] 25 w.heap.size w V ∧ KRow V w.heap.size (some ⟨bk, 0, none⟩) PS)
        (Row := fun r V => V.heap[r]? = some (.cells #[.string ⟨#[110, 111, 116]⟩, .string ⟨#[104, 97, 115]⟩, .string ⟨#[104, 97, 115, 99, 104, 105, 108, 100]⟩] 9 (0, 0)))
        (fs := [(0, .slice (some ⟨b, o, none⟩) L.length c), (5, .slice (some ⟨bk, 0, none⟩) 1 cp), (6, .pointer (some ⟨H, 0, none⟩))]) (by kernel_rfl) ?_ ?_ ?_ ?_ rfl ?_ ?_
      · intro r r' k hk hd
        have : k = 0 ∨ k = 1 ∨ k = 2 ∨ k = 3 ∨ k = 4 ∨ k = 5 ∨ k = 6 ∨ k = 7 ∨ k = 8 ∨ k = 9 ∨ k = 10 ∨ k = 11 ∨ k = 12 ∨ k = 13 ∨ k = 14 ∨ k = 15 := by omega
        rcases this with rfl | rfl | rfl | rfl | rfl | rfl | rfl | rfl | rfl | rfl | rfl | rfl | rfl | rfl | rfl | rfl
        all_goals first | rfl | exact absurd hd (by decide)
      · intro k oo hk hoo hkb r T V hB hF hR hE
        have hT0 : T[0]? = some (.slice (some ⟨b, o, none⟩) L.length c) := hF (0, .slice (some ⟨b, o, none⟩) L.length c) (by simp)
        have hT5 : T[5]? = some (.slice (some ⟨bk, 0, none⟩) 1 cp) := hF (5, .slice (some ⟨bk, 0, none⟩) 1 cp) (by simp)
        have hT6 : T[6]? = some (.pointer (some ⟨H, 0, none⟩)) := hF (6, .pointer (some ⟨H, 0, none⟩)) (by simp)
        have d1 : V.cell? ⟨H, 0, none⟩ = some (.int .i64 20) := by rw [← HOp.out]; exact hB.1.cell 0
        have k0 : V.cell? ⟨bk, 0, none⟩ = some (.int .i64 (q : Int)) := by
          obtain ⟨bk', e1, _, e2⟩ := hB.2.get HQ.out
          cases e1; exact e2
        have : k = 0 ∨ k = 1 ∨ k = 2 ∨ k = 3 ∨ k = 4 ∨ k = 5 ∨ k = 6 ∨ k = 7 ∨ k = 8 ∨ k = 9 ∨ k = 10 ∨ k = 11 ∨ k = 12 ∨ k = 13 ∨ k = 14 ∨ k = 15 := by omega
        rcases this with rfl | rfl | rfl | rfl | rfl | rfl | rfl | rfl | rfl | rfl | rfl | rfl | rfl | rfl | rfl | rfl
        · exact absurd rfl hkb
        · obtain rfl := Option.some.inj (show some _ = some oo from hoo)
          clear hE hR hF
          refine stepV_run hB ?_
          go_simp
          all_goals first | omega | rfl | decide
        · obtain rfl := Option.some.inj (show some _ = some oo from hoo)
          have e1 : T[68]? = some (.pointer (some ⟨H, 0, none⟩)) := hE 1 (by kernel_rfl)
          clear hE hR hF
          refine stepV_run hB ?_
          go_simp
          all_goals first | omega | rfl | decide
        · obtain rfl := Option.some.inj (show some _ = some oo from hoo)
          have e2 : T[69]? = some (.int .i64 20) := hE 2 (by kernel_rfl)
          clear hE hR hF
          refine stepV_run hB ?_
          go_simp
          all_goals first | omega | rfl | decide
        · obtain rfl := Option.some.inj (show some _ = some oo from hoo)
          have e0 : T[67]? = some (.slice (some ⟨r, 0, none⟩) 3 3) := hE 0 (by kernel_rfl)
          have e3 : T[70]? = some (.int .i64 2) := hE 3 (by kernel_rfl)
          clear hE hR hF
          refine stepV_run hB ?_
          go_simp
          all_goals first | omega | rfl | decide
        · obtain rfl := Option.some.inj (show some _ = some oo from hoo)
          have e4 : T[71]? = some (.pointer (some ⟨r, 2, none⟩)) := hE 4 (by kernel_rfl)
          have hr := hR (by kernel_rfl)
          have d0 : V.cell? ⟨r, 2, none⟩ = some (.string ⟨#[104, 97, 115, 99, 104, 105, 108, 100]⟩) := cell_of_row _ r 2 _ _ _ hr
          clear hE hR hF
          refine stepV_run hB ?_
          go_simp
          all_goals first | omega | rfl | decide
        · obtain rfl := Option.some.inj (show some _ = some oo from hoo)
          have e5 : T[72]? = some (.string ⟨#[104, 97, 115, 99, 104, 105, 108, 100]⟩) := hE 5 (by kernel_rfl)
          clear hE hR hF
          refine stepV_run hB ?_
          go_simp
          all_goals first | omega | rfl | decide
        · obtain rfl := Option.some.inj (show some _ = some oo from hoo)
          have e6 : T[73]? = some (.string (⟨#[58]⟩ ++ ⟨#[104, 97, 115, 99, 104, 105, 108, 100]⟩)) := hE 6 (by kernel_rfl)
          clear hE hR hF
          refine stepV_run hB ?_
          go_simp
          all_goals first | omega | rfl | decide
        · obtain rfl := Option.some.inj (show some _ = some oo from hoo)
          clear hE hR hF
          refine stepV_run hB ?_
          go_simp
          all_goals first | omega | rfl | decide
        · obtain rfl := Option.some.inj (show some _ = some oo from hoo)
          clear hE hR hF
          refine stepV_run hB ?_
          go_simp
          all_goals first | omega | rfl | decide
        · obtain rfl := Option.some.inj (show some _ = some oo from hoo)
          have e9 : T[76]? = some (.slice (some ⟨bk, 0, none⟩) 1 cp) := hE 9 (by kernel_rfl)
          clear hE hR hF
          refine stepV_run hB ?_
          go_simp
          all_goals first | omega | rfl | decide
        · obtain rfl := Option.some.inj (show some _ = some oo from hoo)
          have e10 : T[77]? = some (.pointer (some ⟨bk, 0, none⟩)) := hE 10 (by kernel_rfl)
          clear hE hR hF
          refine stepV_run hB ?_
          go_simp
          all_goals first | omega | rfl | decide
        · obtain rfl := Option.some.inj (show some _ = some oo from hoo)
          have e8 : T[75]? = some (.slice (some ⟨b, o, none⟩) L.length c) := hE 8 (by kernel_rfl)
          have e11 : T[78]? = some (.int .i64 (q : Int)) := hE 11 (by kernel_rfl)
          clear hE hR hF
          refine stepV_call (f := 14) (args := #[.slice (some ⟨b, o, none⟩) L.length c, .int .i64 (q : Int)]) (by go_simp) ?_
          exact (HA.out V hB.1.old).mono (fun e w' hh => ⟨hh.1, ⟨hB.1.next hh.2, hB.2.below hh.2⟩, fun r hr => (hh.2.block r (Array.getElem?_eq_some_iff.1 hr).1).trans hr⟩)
        · obtain rfl := Option.some.inj (show some _ = some oo from hoo)
          have e7 : T[74]? = some (.string (⟨#[58]⟩ ++ ⟨#[104, 97, 115, 99, 104, 105, 108, 100]⟩ ++ ⟨#[40]⟩)) := hE 7 (by kernel_rfl)
          have e12 : T[79]? = some (.string XA) := hE 12 (by kernel_rfl)
          clear hE hR hF
          refine stepV_run hB ?_
          go_simp
          all_goals first | omega | rfl | decide
        · obtain rfl := Option.some.inj (show some _ = some oo from hoo)
          have e13 : T[80]? = some (.string (⟨#[58]⟩ ++ ⟨#[104, 97, 115, 99, 104, 105, 108, 100]⟩ ++ ⟨#[40]⟩ ++ XA)) := hE 13 (by kernel_rfl)
          clear hE hR hF
          refine stepV_run hB ?_
          go_simp
          all_goals first | omega | rfl | decide
        · obtain rfl := Option.some.inj (show some _ = some oo from hoo)
          have e14 : T[81]? = some (.string (⟨#[58]⟩ ++ ⟨#[104, 97, 115, 99, 104, 105, 108, 100]⟩ ++ ⟨#[40]⟩ ++ XA ++ ⟨#[41]⟩)) := hE 14 (by kernel_rfl)
          clear hE hR hF
          refine stepV_run hB ?_
          go_simp
          all_goals first | omega | rfl | decide
      · intro oo hoo T V hB hF K Q hK
        obtain rfl := Option.some.inj (show some _ = some oo from hoo)
        unfold Oper.wp
        go_simp
        exact hK _ ⟨hB.1.next ((Below.refl _ _).alloc (Nat.le_refl _) _), hB.2.below ((Below.refl _ _).alloc (Nat.le_refl _) _)⟩ (heap_alloc_new V _)
      · intro r T V hs hF hB hv
        have h2 : T[4]? = some (.string (⟨#[58]⟩ ++ ⟨#[104, 97, 115, 99, 104, 105, 108, 100]⟩ ++ ⟨#[40]⟩ ++ XA ++ ⟨#[41]⟩)) := hv 15 (by omega)
        go_wp2_with fail
        go_ret
        refine ⟨?_, hB.1.old⟩
        show Ending.returned (T.getD 4 undef) = _
        rw [Array.getD_eq_getD_getElem?, h2, HXA.out]
        show Ending.returned (.string (bOf [58] ++ bOf [104, 97, 115, 99, 104, 105, 108, 100] ++ bOf [40] ++ bOf v.wr ++ bOf [41])) = _
        rw [bOf_app, bOf_app, bOf_app, bOf_app, HWr.out, HOp.out]
        simp [wdRel]
      · intro p hp
        simp only [List.mem_cons, List.not_mem_nil, or_false] at hp
        rcases hp with rfl | rfl | rfl
        all_goals rfl
      · exact ⟨HB0.out.drew 1, HKW.out⟩

  · have hsm : 1 ≤ u.top.kind ∧ u.top.kind ≤ 17 := by
      rw [HKd.out] at k23 k22 k21 k18
      rcases HShp.out with ⟨q, _⟩ | ⟨q1, q2, _⟩ | ⟨q, _⟩ | ⟨q, _⟩ | ⟨q1, q2, _⟩
      · omega
      · omega
      · omega
      · omega
      · exact ⟨q1, q2⟩
    have m18 : (kd == 18) = false := beq_eq_false_iff_ne.2 (by omega)
    have m19 : (kd == 19) = false := beq_eq_false_iff_ne.2 (by omega)
    have m20 : (kd == 20) = false := beq_eq_false_iff_ne.2 (by omega)
    have HSq := HSm.out hsm.1 hsm.2 W1
    unfold Sn.val8 at HSq
    rw [← HX.out, ← HKx.out] at HSq
    have HSr := Lib.hid HSq
    have HO := Lib.hid HB0.out.old
    clear HSq hsm k18 k21 k22 k23
    go_wp2_with fail
    refine HSr.out.mono ?_
    rintro e2 w2 ⟨rfl, hb2⟩
    have HF := Lib.hid (bnext HO.out hb2)
    clear hb2
    go_wp2_with fail
    go_ret
    exact ⟨rfl, HF.out⟩
end Go.Proofs.YtnibpdmbccfgoaaGreatDoor
