/- FnSpecificWhole: texts joined (joinf.py) -/
import Derived.Test.YtnibpdmbccfgoaaGreatDoorJ14
import Derived.Test.YtnibpdmbccfgoaaGreatDoorT657
import Derived.Test.YtnibpdmbccfgoaaGreatDoorJ11
namespace Go.Proofs.YtnibpdmbccfgoaaGreatDoor
open Go.RowKit
set_option linter.unusedVariables false

def wtB (x : Sn) : Nat := 4 * (x.key.size + x.val.size) + 60
theorem encL_len : ∀ l : List UInt8, (encL l).length ≤ 4 * l.length
  | [] => Nat.le_refl _
  | b :: l => by rw [encL_cons, List.length_append, List.length_cons]; have := encQ_len b; have := encL_len l; omega
theorem qtL_len (x : ByteArray) : (qtL x).length ≤ 4 * x.size + 2 := by
  have h := encL_len x.data.toList
  rw [Array.length_toList] at h
  have h : (encL x.data.toList).length ≤ 4 * x.size := h
  unfold qtL
  rw [List.length_cons, List.length_append]
  simp; omega
theorem wdNth_len (f : Int) : (wdNth f).length ≤ 17 := by
  unfold wdNth
  repeat' split
  all_goals decide
theorem wdOnly_len (f : Int) : (wdOnly f).length ≤ 17 := by
  unfold wdOnly
  repeat' split
  all_goals decide
theorem wdPlain_len (f : Int) : (wdPlain f).length ≤ 17 := by
  unfold wdPlain
  repeat' split
  all_goals decide
theorem wdRel_len (f : Int) : (wdRel f).length ≤ 17 := by
  unfold wdRel
  repeat' split
  all_goals decide
theorem opL_len (f : Int) : (opL f).length ≤ 2 := by
  unfold opL
  repeat' split
  all_goals decide
theorem sepL_len (f : Int) : (sepL f).length ≤ 3 := by
  unfold sepL
  repeat' split
  all_goals decide
theorem attL_len (x : Sn) : (attL x).length ≤ 4 * (x.key.size + x.val.size) + 20 := by
  have h1 := namedL_len x.key
  have h2 := qtL_len x.val
  have h3 := opL_len x.op
  unfold attL
  split
  · simp; omega
  · split <;> (simp; omega)
theorem simL_len (x : Sn) : (simL x).length ≤ 4 * (x.key.size + x.val.size) + 50 := by
  have h1 := namedL_len x.key
  have h2 := namedL_len x.val
  have h3 := qtL_len x.val
  have h4 := attL_len x
  have h5 := (cntL_len x.a x.b).2
  have h6 := wdNth_len x.flag
  have h7 := wdOnly_len x.flag
  have h8 := wdPlain_len x.kind
  unfold simL
  repeat' split
  all_goals first | omega | (simp; omega) | (simp at *; done) | (simp at *; omega)
def lenS (l : List (Int × List UInt8)) : Nat := (l.map (fun y => y.2.length)).sum
theorem cmp_len : ∀ (l : List (Int × List UInt8)) (f r : List UInt8), (l.foldl cmpStep (f, r)).1.length + (l.foldl cmpStep (f, r)).2.length ≤ f.length + r.length + lenS l + l.length
  | [], f, r => by simp [lenS]
  | y :: l, f, r => by
    rw [List.foldl_cons]
    have hs : lenS (y :: l) = y.2.length + lenS l := by simp [lenS]
    have key : ∀ f' r', cmpStep (f, r) y = (f', r') → f'.length + r'.length ≤ f.length + r.length + y.2.length + 1 := by
      intro f' r' h
      unfold cmpStep at h
      split at h
      · cases h; (first | (simp; omega) | simp | omega)
      · split at h
        · split at h
          · cases h; (first | (simp; omega) | simp | omega)
          · cases h; omega
        · cases h; (first | (simp; omega) | simp | omega)
    cases h : cmpStep (f, r) y with
    | mk f' r' =>
      have h1 := cmp_len l f' r'
      have h2 := key f' r' h
      rw [hs, List.length_cons]
      omega
theorem join_len : ∀ (l : List (List UInt8)), (joinL l).length ≤ (l.map List.length).sum + 2 * l.length
  | [] => by simp [joinL]
  | x :: l => by
    have : ∀ l : List (List UInt8), (l.flatMap (fun y => [44, 32] ++ y)).length ≤ (l.map List.length).sum + 2 * l.length := by
      intro l
      induction l with
      | nil => simp
      | cons y l ih => rw [List.flatMap_cons, List.length_append, List.map_cons, List.sum_cons]; simp at ih ⊢; omega
    have := this l
    unfold joinL
    rw [List.length_append, List.map_cons, List.sum_cons, List.length_cons]
    omega
theorem wrOf_len (x : Sn) (l : List (Int × List UInt8)) : (wrOf x l).length ≤ 4 * (x.key.size + x.val.size) + 50 + lenS l + 2 * l.length := by
  have hs : ((l.map Prod.snd).map List.length).sum = lenS l := by unfold lenS; rw [List.map_map]; rfl
  have hh : ∀ l : List (Int × List UInt8), ((l.map Prod.snd).headD []).length ≤ lenS l := by
    intro l
    cases l with
    | nil => simp [lenS]
    | cons y l => simp [lenS]
  unfold wrOf
  split
  · have := join_len (l.map Prod.snd)
    rw [hs, List.length_map] at this
    omega
  · split
    · have h1 := sepL_len x.op
      rw [List.length_append, List.length_append]
      cases l with
      | nil => (first | (simp [lenS]; omega) | simp [lenS])
      | cons y l =>
        have h2 := hh l
        have e : lenS (y :: l) = y.2.length + lenS l := by simp [lenS]
        rw [e]
        have h3 : (((y :: l).map Prod.snd).headD []).length = y.2.length := rfl
        have h4 : ((((y :: l).map Prod.snd).drop 1).headD []).length ≤ lenS l := h2
        omega
    · split
      · unfold cmpL cmpE
        have := cmp_len l [] []
        simp only [List.length_nil] at this
        split
        · simp; omega
        · rw [List.length_append]; omega
      · split
        · have h1 := wdRel_len x.kind
          have h2 := hh l
          rw [List.length_cons, List.length_append, List.length_cons, List.length_append]
          simp at h2 ⊢
          omega
        · have := simL_len x
          omega
mutual
theorem ST.wr_len : ∀ t : ST, t.wr.length + 2 ≤ (t.flat.map wtB).sum
  | .nd x ks => by
    show (wrOf x ks.wrs).length + 2 ≤ ((x :: ks.flat).map wtB).sum
    have h1 := wrOf_len x ks.wrs
    have h2 := SK.wrs_len ks
    rw [List.map_cons, List.sum_cons]
    unfold wtB at h2 ⊢
    omega
theorem SK.wrs_len : ∀ ks : SK, lenS ks.wrs + 2 * ks.wrs.length ≤ (ks.flat.map wtB).sum
  | .nil => Nat.le_refl _
  | .cons t ks => by
    show lenS ((t.top.kind, t.wr) :: ks.wrs) + 2 * ((t.top.kind, t.wr) :: ks.wrs).length ≤ ((t.flat ++ ks.flat).map wtB).sum
    have h1 := ST.wr_len t
    have h2 := SK.wrs_len ks
    have e : lenS ((t.top.kind, t.wr) :: ks.wrs) = t.wr.length + lenS ks.wrs := by simp [lenS]
    rw [e, List.length_cons, List.map_append, List.sum_append]
    omega
end
theorem sum_flat {ks : SK} : ∀ u ∈ ks.list, (u.flat.map wtB).sum ≤ (ks.flat.map wtB).sum := by
  intro u hu
  rw [SK.flat_list]
  generalize ks.list = l at hu
  induction l with
  | nil => cases hu
  | cons v l ih =>
    rw [List.flatMap_cons, List.map_append, List.sum_append]
    rcases List.mem_cons.1 hu with rfl | q
    · omega
    · have := ih q; omega
theorem ST.kid_sum {t u : ST} (h : u ∈ t.kids.list) : (u.flat.map wtB).sum ≤ (t.flat.map wtB).sum := by
  rw [t.flat_cons, List.map_cons, List.sum_cons]
  have := sum_flat u h
  omega
end Go.Proofs.YtnibpdmbccfgoaaGreatDoor

namespace Go.Proofs.YtnibpdmbccfgoaaGreatDoor
open Go.RowKit
set_option linter.unusedVariables false

/-- What holds of the selectors within. -/
def Below1 (t : ST) : Prop := ∀ u : ST, u.flat.length < t.flat.length → u.All NOk → isCpx u.top.kind → CpxR u
theorem Below1.less {t u : ST} (h : Below1 t) (hu : u.flat.length ≤ t.flat.length) : Below1 u := fun v hv => h v (by omega)
theorem wr_first : ∀ n (t : ST), t.flat.length ≤ n → t.All NOk → isCpx t.top.kind → ∃ a L, t.wr = a :: L ∧ fstB a
  | 0, t, h, _, _ => by have := t.len_pos; omega
  | n + 1, t, h, ha, hc => by
    have h0 := ha.here
    by_cases c1 : t.top.kind = 1
    · rw [(ST.wr_simple h0 (by omega) (by omega)).1]; unfold simL; rw [if_pos c1]
      exact ⟨42, [], rfl, by unfold fstB; decide⟩
    by_cases c2 : t.top.kind = 2
    · rw [(ST.wr_simple h0 (by omega) (by omega)).1]; unfold simL; rw [if_neg c1, if_pos c2]
      have hk := h0.1.key (.inl c2)
      obtain ⟨h1, h2⟩ := name_c0 hk (Txt.whole (namedL t.top.key))
      cases hn : namedL t.top.key with
      | nil => rw [hn] at h1; exact absurd h1 (Nat.lt_irrefl _)
      | cons a L =>
        rw [hn, bAt_lAt] at h2
        have h2 : a.toNat = 92 ∨ isNm a.toNat = true := h2
        have := nm_33 h2
        exact ⟨a, L, rfl, by unfold fstB; omega⟩
    by_cases c20 : t.top.kind ≤ 20
    · obtain ⟨a, L, h1, h2⟩ := sim_first h0 (by unfold isCpx isSmp at hc; omega) c20
      exact ⟨a, L, h1, mk_fst h2⟩
    by_cases c22 : t.top.kind = 22
    · rcases h0.2.1 with ⟨q, _⟩ | ⟨_, q, _⟩ | ⟨q, _⟩ | ⟨_, u, v, hl, hu, hv, _⟩ | ⟨_, q, _⟩
      · omega
      · omega
      · omega
      · have hmem : u ∈ t.kids.list := by rw [hl]; exact List.mem_cons_self ..
        obtain ⟨a, L, h1, h2⟩ := wr_first n u (by have := ST.kid_lt hmem; omega) (ha.kids u hmem) hu
        rw [(ST.wr_comb c22 hl).1, h1]
        exact ⟨a, _, rfl, h2⟩
      · omega
    · have c21 : t.top.kind = 21 := by unfold isCpx isSmp at hc; omega
      rcases h0.2.1 with ⟨q, _⟩ | ⟨_, q, _⟩ | ⟨_, hs, hd⟩ | ⟨q, _⟩ | ⟨_, q, _⟩
      · omega
      · omega
      · -- a compound
        have hkid : ∀ u ∈ t.kids.list, u.top.kind ≠ 2 → u.top.kind ≠ 1 → ∃ a L, u.wr = a :: L ∧ fstB a := fun u hu q2 q1 => by
          have := hs u hu
          obtain ⟨a, L, h1, h2⟩ := sim_first (ha.kids u hu).here (by unfold isSmp at this; omega) this.2
          exact ⟨a, L, h1, mk_fst h2⟩
        have hfin : ∀ (F R : List UInt8), (F = [] ∨ ∃ a L, F = a :: L ∧ fstB a) → (R = [] ∨ ∃ a L, R = a :: L ∧ fstB a) → ∃ a L, cmpE (F, R) = a :: L ∧ fstB a := by
          intro F R hF hR
          unfold cmpE
          rcases hF with rfl | ⟨a, L, rfl, q⟩
          · rcases hR with rfl | ⟨a, L, rfl, q⟩
            · exact ⟨42, [], rfl, by unfold fstB; decide⟩
            · exact ⟨a, L, by simp, q⟩
          · exact ⟨a, L ++ R, by simp, q⟩
        have hrest : ∀ l : List ST, (∀ u ∈ l, u ∈ t.kids.list ∧ u.top.kind ≠ 2) → restL (l.map (fun u => (u.top.kind, u.wr))) = [] ∨ ∃ a L, restL (l.map (fun u => (u.top.kind, u.wr))) = a :: L ∧ fstB a := by
          intro l hl
          rw [restL_list]
          cases hf : l.filter (fun u => decide (u.top.kind ≠ 1)) with
          | nil => exact .inl rfl
          | cons u m =>
            have hm : u ∈ l.filter (fun u => decide (u.top.kind ≠ 1)) := by rw [hf]; exact List.mem_cons_self ..
            obtain ⟨m1, m2⟩ := List.mem_filter.1 hm
            obtain ⟨m3, m4⟩ := hl u m1
            obtain ⟨a, L, q1, q2⟩ := hkid u m3 m4 (by simpa using m2)
            exact .inr ⟨a, L ++ m.flatMap ST.wr, by rw [List.flatMap_cons, q1]; rfl, q2⟩
        rw [(ST.wr_cmp c21).1]
        unfold cmpL
        cases hl : t.kids.list with
        | nil => exact hfin [] [] (.inl rfl) (.inl rfl)
        | cons u l =>
          have hu : u ∈ t.kids.list := by rw [hl]; exact List.mem_cons_self ..
          rw [hl] at hd
          have hdl : ∀ v ∈ l, v ∈ t.kids.list ∧ v.top.kind ≠ 2 := fun v hv => ⟨by rw [hl]; exact List.mem_cons_of_mem _ hv, hd v hv⟩
          by_cases q2 : u.top.kind = 2
          · obtain ⟨a, L, h1, h2⟩ := wr_first n u (by have := ST.kid_lt hu; omega) (ha.kids u hu) (.inl (hs u hu))
            rw [List.map_cons, List.foldl_cons]
            have e : cmpStep ([], []) (u.top.kind, u.wr) = (u.wr, []) := by unfold cmpStep; rw [if_pos q2]
            rw [e]
            obtain ⟨F, r1, r2⟩ := cmp_fold (l.map (fun u => (u.top.kind, u.wr))) u.wr [] (fun y hy => by
              obtain ⟨v, hv, rfl⟩ := List.mem_map.1 hy
              exact (hdl v hv).2)
            rw [r1]
            refine hfin F _ (.inr ?_) (hrest l hdl)
            rcases r2 with rfl | ⟨q, _⟩
            · exact ⟨a, L, h1, h2⟩
            · rw [h1] at q; cases q
          · have hall : ∀ v ∈ u :: l, v ∈ t.kids.list ∧ v.top.kind ≠ 2 := fun v hv => by
              rcases List.mem_cons.1 hv with rfl | q
              · exact ⟨hu, q2⟩
              · exact hdl v q
            obtain ⟨F, r1, r2⟩ := cmp_fold ((u :: l).map (fun u => (u.top.kind, u.wr))) [] [] (fun y hy => by
              obtain ⟨v, hv, rfl⟩ := List.mem_map.1 hy
              exact (hall v hv).2)
            rw [r1]
            refine hfin F _ ?_ (hrest (u :: l) hall)
            rcases r2 with rfl | ⟨_, rfl⟩
            · exact .inl rfl
            · exact .inr ⟨42, [], rfl, by unfold fstB; decide⟩
      · omega
      · omega
theorem fst_sk {a : UInt8} (h : fstB a) {s : ByteArray} {k : Nat} {L : List UInt8} (ht : Txt s k (a :: L)) : Sk s k k := by
  obtain ⟨h1, h2, _⟩ := ht.cons
  exact sk_none (by omega) (fun _ => by rw [h2]; exact ⟨h.1, h.2.1⟩)
/-- A group, by its selectors. -/
theorem grp_read {s : ByteArray} {g d : Nat} {P : Value} (hs : s.size ≤ 100000) (e : Nat) (he : e < s.size) (h41 : bAt s e = 41) : ∀ (l : List ST) (u : ST) (k k0 : Nat), (∀ v ∈ u :: l, v.All NOk ∧ isCpx v.top.kind ∧ CpxR v ∧ d + v.flat.length ≤ 1000) → Sk s k0 k → k0 ≤ k →
    Txt s k (u.wr ++ (l.map ST.wr).flatMap (fun y => [44, 32] ++ y)) → k + (u.wr ++ (l.map ST.wr).flatMap (fun y => [44, 32] ++ y)).length = e → GrpTo s g (.int .i64 (d : Int)) P e k0 ((u :: l).map ST.sp)
  | [], u, k, k0, hl, hsk, hk0, h, hle => by
    obtain ⟨q1, q2, q3, q4⟩ := hl u (List.mem_cons_self ..)
    rw [List.map_nil, List.flatMap_nil, List.append_nil] at h hle
    rw [← hle] at he h41 ⊢
    have hul : 0 < u.wr.length := by
      obtain ⟨a, L, hw, _⟩ := wr_first _ u (Nat.le_refl _) q1 q2
      rw [hw]; simp
    exact .one (q3 s g d P k k0 _ _ hs q4 h ⟨by omega, fun _ => .inr (.inr h41)⟩ hsk (.done (by omega) (sk_none (by omega) (fun _ => by rw [h41]; decide)) (fun _ => .inr h41))) (by omega) (by omega) (fun _ => by omega)
  | v :: l, u, k, k0, hl, hsk, hk0, h, hle => by
    obtain ⟨q1, q2, q3, q4⟩ := hl u (List.mem_cons_self ..)
    rw [List.map_cons, List.flatMap_cons] at h hle
    obtain ⟨h1, h2⟩ := h.app
    have h2 : Txt s (k + u.wr.length) (44 :: (32 :: (v.wr ++ (l.map ST.wr).flatMap (fun y => [44, 32] ++ y)))) := h2
    obtain ⟨r1, r2, r3⟩ := h2.cons
    obtain ⟨r4, r5, r6⟩ := r3.cons
    have hul : 0 < u.wr.length := by
      obtain ⟨a, L, hw, _⟩ := wr_first _ u (Nat.le_refl _) q1 q2
      rw [hw]; simp
    have r2 : bAt s (k + u.wr.length) = 44 := r2
    have r5 : bAt s (k + u.wr.length + 1) = 32 := r5
    obtain ⟨p1, p2, p3, p4⟩ := hl v (List.mem_cons_of_mem _ (List.mem_cons_self ..))
    obtain ⟨a, L, hw, hf⟩ := wr_first _ v (Nat.le_refl _) p1 p2
    have r7 := (r6.app).1
    rw [hw] at r7
    obtain ⟨_, r8, _⟩ := r7.cons
    refine .cons (q3 s g d P k k0 _ _ hs q4 h1 ⟨by omega, fun _ => .inr (.inl r2)⟩ hsk (.done (by omega) (sk_none (by omega) (fun _ => by rw [r2]; decide)) (fun _ => .inl r2))) r1 r2 (by omega) ?_
    refine grp_read hs e he h41 l v _ _ (fun x hx => hl x (List.mem_cons_of_mem _ hx)) (sk_one r4 r5 (fun _ => by rw [r8]; exact ⟨hf.1, hf.2.1⟩)) (by omega) r6 ?_
    rw [← hle]
    simp
    omega
theorem joinL_cons (u : ST) (l : List ST) : joinL ((u :: l).map ST.wr) = u.wr ++ (l.map ST.wr).flatMap (fun y => [44, 32] ++ y) := rfl
theorem simR_of (t : ST) (ha : t.All NOk) (h3 : 3 ≤ t.top.kind) (h20 : t.top.kind ≤ 20) (hb : Below1 t) : SimR t := by
  intro s g d P k hs hd h hst
  have h0 := ha.here
  by_cases c : t.top.kind ≤ 17
  · obtain ⟨e1, e2⟩ := ST.wr_simple h0 (by omega) c
    rw [e1] at h hst ⊢
    rw [e2]
    exact leaf_read t.top h0.1 h3 c hs h hst
  · rcases h0.2.1 with ⟨q, _⟩ | ⟨_, _, u, hu, hu23⟩ | ⟨q, _⟩ | ⟨q, _⟩ | ⟨_, q, _⟩
    · omega
    · obtain ⟨e1, e2⟩ := ST.wr_rel (by omega) h20 hu
      have hmem : u ∈ t.kids.list := by rw [hu]; exact List.mem_cons_self ..
      have hua := ha.kids u hmem
      have hlt := ST.kid_lt hmem
      obtain ⟨e3, e4⟩ := ST.wr_grp hu23
      -- the group's selectors
      have hk : 0 < u.kids.list.length ∧ ∀ v ∈ u.kids.list, isCpx v.top.kind := by
        rcases hua.here.2.1 with ⟨_, q⟩ | ⟨_, q, _⟩ | ⟨q, _⟩ | ⟨q, _⟩ | ⟨_, q, _⟩
        · exact q
        · omega
        · omega
        · omega
        · omega
      obtain ⟨hk0, hk1⟩ := hk
      cases hl : u.kids.list with
      | nil => rw [hl] at hk0; exact absurd hk0 (Nat.lt_irrefl 0)
      | cons v l =>
        rw [hl, joinL_cons] at e3
        have hv : ∀ x ∈ v :: l, x.All NOk ∧ isCpx x.top.kind ∧ CpxR x ∧ (d + 1) + x.flat.length ≤ 1000 := fun x hx => by
          have hx' : x ∈ u.kids.list := by rw [hl]; exact hx
          have hxl := ST.kid_lt hx'
          exact ⟨hua.kids x hx', hk1 x hx', hb x (by omega) (hua.kids x hx') (hk1 x hx'), by omega⟩
        obtain ⟨a, L, hw, hf⟩ := wr_first _ v (Nat.le_refl _) (hv v (List.mem_cons_self ..)).1 (hv v (List.mem_cons_self ..)).2.1
        have hlim : ∀ i (hi : i < (u.kids.list.map ST.sp).length), ((u.kids.list.map ST.sp)[i]).lim := fun i hi => by
          rw [List.getElem_map]
          rw [List.length_map] at hi
          have hm : u.kids.list[i] ∈ u.kids.list := List.getElem_mem _
          have := ST.kid_lt hm
          exact ST.sp_lim (by omega)
        have hsp : maxS (u.kids.list.map ST.sp) (u.kids.list.map ST.sp).length = t.sp := by rw [maxS_all, e2, e4]
        rw [e1] at h hst ⊢
        -- the word, the parenthesis, the group
        have key : ∀ (a0 : UInt8) (L0 : List UInt8), wdRel t.top.kind = a0 :: L0 → isBgG a0.toNat = true → (a0 :: L0).all (fun b => isNm b.toNat) = true →
            (∀ (k1 e0 : Nat) (N : Nat) (V U : World), k < s.size → bAt s k = 58 → k + 1 < s.size → bAt s (k + 1) ≠ 58 → IdYes s (k + 1) (bOf (a0 :: L0)) k1 → k1 < s.size → bAt s k1 = 40 → Sk s (k1 + 1) (k1 + 1) → GrpY s g (k1 + 1) e0 (u.kids.list.map ST.sp) (.int .i64 (d : Int)) P → g < N → k1 + 1 ≤ s.size → e0 < s.size → Sk s e0 e0 → bAt s e0 = 41 → PrX s g k (.int .i64 (d : Int)) P N V U →
              Calls Tryz.prog 44 #[.pointer (some ⟨g, 0, none⟩)] U (PsY (maxS (u.kids.list.map ST.sp) (u.kids.list.map ST.sp).length) s (e0 + 1) g (.int .i64 (d : Int)) P N V)) →
            Sim1 s g (.int .i64 (d : Int)) P k (k + (58 :: (wdRel t.top.kind ++ (40 :: (u.wr ++ [41])))).length) t.sp := by
          intro a0 L0 hw0 hb0 hall hcall
          rw [hw0] at h ⊢
          obtain ⟨q1, q2, q3, q4, q5, q6, q7, q8⟩ := Txt.call h hb0 hall
          obtain ⟨q9, q10⟩ := q8.app
          obtain ⟨q11, q12, _⟩ := q10.cons
          have q12 : bAt s (k + 1 + (a0 :: L0).length + 1 + u.wr.length) = 41 := q12
          have hfirst : Sk s (k + 1 + (a0 :: L0).length + 1) (k + 1 + (a0 :: L0).length + 1) := by
            have q9' := q9
            rw [e3, hw] at q9'
            exact fst_sk hf q9'
          have hg : GrpY s g (k + 1 + (a0 :: L0).length + 1) (k + 1 + (a0 :: L0).length + 1 + u.wr.length) (u.kids.list.map ST.sp) (.int .i64 (d : Int)) P := by
            rw [hl]
            refine pGrp_to s g _ _ _ d P hs (by omega) (by omega) ?_
            rw [e3] at q9
            exact grp_read (d := d + 1) hs _ q11 q12 l v _ _ hv hfirst (Nat.le_refl _) q9 (by rw [e3])
          have e : k + (58 :: ((a0 :: L0) ++ (40 :: (u.wr ++ [41])))).length = k + 1 + (a0 :: L0).length + 1 + u.wr.length + 1 := by simp; omega
          rw [e, ← hsp]
          exact .psu q2 (fun N V U hgN hU => hcall _ _ N V U q1 q2 q3 q4 q5 q6 q7 hfirst hg hgN (by omega) q11 (sk_none (by omega) (fun _ => by rw [q12]; decide)) q12 hU)
        have hkd : t.top.kind = 18 ∨ t.top.kind = 19 ∨ t.top.kind = 20 := by omega
        rcases hkd with q | q | q
        · exact key 110 [111, 116] (by rw [q]; rfl) (by decide) (by decide) (fun k1 e0 N V U q1 q2 q3 q4 q5 q6 q7 q8 q9 q10 q11 q12 q13 q14 q15 => psNot s g k k1 _ P N V U hs q1 q2 q3 q4 q5 q6 q7 q8 e0 _ q9 q10 hlim q11 q12 q13 q14 q15)
        · exact key 104 [97, 115] (by rw [q]; rfl) (by decide) (by decide) (fun k1 e0 N V U q1 q2 q3 q4 q5 q6 q7 q8 q9 q10 q11 q12 q13 q14 q15 => psHas s g k k1 _ P N V U hs q1 q2 q3 q4 q5 q6 q7 q8 e0 _ q9 q10 hlim q11 q12 q13 q14 q15)
        · exact key 104 [97, 115, 99, 104, 105, 108, 100] (by rw [q]; rfl) (by decide) (by decide) (fun k1 e0 N V U q1 q2 q3 q4 q5 q6 q7 q8 q9 q10 q11 q12 q13 q14 q15 => psHasChild s g k k1 _ P N V U hs q1 q2 q3 q4 q5 q6 q7 q8 e0 _ q9 q10 hlim q11 q12 q13 q14 q15)
    · omega
    · omega
    · omega
theorem seqR_of (t : ST) (ha : t.All NOk) (hc : isSmp t.top.kind ∨ t.top.kind = 21) (hb : Below1 t) : SeqR t := by
  intro s g d P k hs hd h hfl
  have h0 := ha.here
  by_cases c1 : t.top.kind = 1
  · obtain ⟨e1, e2⟩ := ST.wr_simple h0 (by omega) (by omega)
    unfold simL at e1
    rw [if_pos c1] at e1
    rw [e1] at h hfl ⊢
    rw [e2, c1]
    obtain ⟨h1, h2, _⟩ := h.cons
    exact ⟨[], .any h2 (by by_cases q : k + 1 < s.size
                           · rcases hfl.2 q with r | r | r <;> (have r : bAt s (k + 1) = _ := r; omega)
                           · rw [bAt_out (by omega)]; decide) (.nil hfl.1 hfl.mk), rfl⟩
  by_cases c2 : t.top.kind = 2
  · obtain ⟨e1, e2⟩ := ST.wr_simple h0 (by omega) (by omega)
    unfold simL at e1
    rw [if_neg c1, if_pos c2] at e1
    rw [e1] at h hfl ⊢
    rw [e2, c2]
    have hk := h0.1.key (.inl c2)
    obtain ⟨O, hO⟩ := named_id hk h hfl.stop
    obtain ⟨q1, q2⟩ := name_c0 hk h
    have q3 := nm_33 q2
    have hlen : 0 < (namedL t.top.key).length := by
      rcases Nat.eq_zero_or_pos (namedL t.top.key).length with q | q
      · obtain ⟨n, acc, r1, r2, r3, r4, r5, _⟩ := hO
        have := r3.size.1
        have : n = 0 := by omega
        subst this
        have := nm_pos (k := k + 0) (i := k + (namedL t.top.key).length) r3
        exfalso
        have r6 := r3.size.2
        omega
      · exact q
    exact ⟨[(0, 0, 1)], .tag (by omega) (by unfold isMk; omega) O _ (by omega) hO [] (.nil hfl.1 hfl.mk) rfl, rfl⟩
  by_cases c20 : t.top.kind ≤ 20
  · have h3 : 3 ≤ t.top.kind := by unfold isSmp at hc; omega
    have hsr := simR_of t ha h3 c20 hb s g d P k hs hd h hfl.stop
    obtain ⟨a, L, hw, hm⟩ := sim_first h0 h3 c20
    have hlen : 0 < t.wr.length := by rw [hw]; simp
    have hfst : k < s.size ∧ bAt s k = a.toNat := by
      have h' := h
      rw [hw] at h'
      exact ⟨h'.cons.1, h'.cons.2.1⟩
    exact ⟨[t.sp], .mark (by rw [hfst.2]; exact hm) (.cons hfst.1 (by omega) h.le hsr (.nil hfl.1 hfl.mk)), zero_add3 _⟩
  · -- a compound
    have c21 : t.top.kind = 21 := by unfold isSmp at hc; omega
    obtain ⟨e1, e2⟩ := ST.wr_cmp c21
    rcases h0.2.1 with ⟨q, _⟩ | ⟨_, q, _⟩ | ⟨_, hsm, hdr⟩ | ⟨q, _⟩ | ⟨_, q, _⟩
    · omega
    · omega
    · have hkid : ∀ u ∈ t.kids.list, u.top.kind ≠ 2 → u.top.kind ≠ 1 → NOk u ∧ 3 ≤ u.top.kind ∧ u.top.kind ≤ 20 ∧ ∀ k, Txt s k u.wr → NmStop s (k + u.wr.length) → Sim1 s g (.int .i64 (d : Int)) P k (k + u.wr.length) u.sp := by
        intro u hu q2 q1
        have hq := hsm u hu
        unfold isSmp at hq
        have hlt := ST.kid_lt hu
        exact ⟨(ha.kids u hu).here, by omega, hq.2, fun k hk hst => simR_of u (ha.kids u hu) (by omega) hq.2 (hb.less (by omega)) s g d P k hs (by omega) hk hst⟩
      have hany : ∀ u ∈ t.kids.list, u.top.kind = 1 → u.sp = (0, 0, 0) := fun u hu q => by
        rw [(ST.wr_simple (ha.kids u hu).here (by omega) (by omega)).2, q]; rfl
      unfold cmpL at e1
      -- no name of an element
      have noTag : ∀ l : List ST, (∀ u ∈ l, u ∈ t.kids.list ∧ u.top.kind ≠ 2) → ∀ (m : Nat), Txt s m (restL (l.map (fun u => (u.top.kind, u.wr)))) → m + (restL (l.map (fun u => (u.top.kind, u.wr)))).length = k + t.wr.length →
          Sims s g (.int .i64 (d : Int)) P (k + t.wr.length) m ((l.filter (fun u => decide (u.top.kind ≠ 1))).map ST.sp) ∧ (m = k + t.wr.length ∨ (m < s.size ∧ isMk (bAt s m))) := by
        intro l hl m hm he
        rw [restL_list] at hm he
        refine sims_read _ hfl _ m (fun u hu => ?_) hm he
        obtain ⟨m1, m2⟩ := List.mem_filter.1 hu
        exact hkid u (hl u m1).1 (hl u m1).2 (by simpa using m2)
      have n124 : ∀ m, (m = k + t.wr.length ∨ (m < s.size ∧ isMk (bAt s m))) → bAt s m ≠ 124 := by
        intro m hm
        rcases hm with rfl | ⟨_, q⟩
        · by_cases q : k + t.wr.length < s.size
          · rcases hfl.2 q with r | r | r <;> omega
          · rw [bAt_out (by omega)]; decide
        · unfold isMk at q; omega
      by_cases hcase : ∃ u l, t.kids.list = u :: l ∧ u.top.kind = 2
      · obtain ⟨u, l, hl, hu2⟩ := hcase
        have hu : u ∈ t.kids.list := by rw [hl]; exact List.mem_cons_self ..
        rw [hl] at hdr
        have hdl : ∀ v ∈ l, v ∈ t.kids.list ∧ v.top.kind ≠ 2 := fun v hv => ⟨by rw [hl]; exact List.mem_cons_of_mem _ hv, hdr v hv⟩
        obtain ⟨F, r1, r2⟩ := cmp_fold (l.map (fun u => (u.top.kind, u.wr))) u.wr [] (fun y hy => by
          obtain ⟨v, hv, rfl⟩ := List.mem_map.1 hy
          exact (hdl v hv).2)
        have hstep : cmpStep ([], []) (u.top.kind, u.wr) = (u.wr, []) := by unfold cmpStep; rw [if_pos hu2]
        obtain ⟨f1, f2⟩ := ST.wr_simple (ha.kids u hu).here (by omega) (by omega)
        have fw : u.wr = namedL u.top.key := by rw [f1]; unfold simL; rw [if_neg (by omega), if_pos hu2]
        have hk := (ha.kids u hu).here.1.key (.inl hu2)
        have hne : u.wr ≠ [] := by
          intro q
          obtain ⟨q1, _⟩ := name_c0 hk (Txt.whole (namedL u.top.key))
          rw [← fw, q] at q1
          exact absurd q1 (Nat.lt_irrefl _)
        have hF : F = u.wr := by
          rcases r2 with q | ⟨q, _⟩
          · exact q
          · exact absurd q hne
        have ew : t.wr = u.wr ++ restL (l.map (fun u => (u.top.kind, u.wr))) := by
          rw [e1, hl, List.map_cons, List.foldl_cons, hstep, r1, hF]
          unfold cmpE
          rw [if_neg (by simp [hne])]
          rfl
        have h' := h
        rw [ew] at h'
        obtain ⟨h1, h2⟩ := h'.app
        obtain ⟨g1, g2⟩ := noTag l hdl (k + u.wr.length) h2 (by rw [ew, List.length_append]; omega)
        have hstop : NmStop s (k + u.wr.length) := by
          rcases g2 with q | ⟨q, q2⟩
          · rw [q]; exact hfl.stop
          · exact ⟨by omega, fun _ => by unfold isMk at q2; rcases q2 with c | c | c | c <;> rw [c] <;> decide⟩
        rw [fw] at h1 hstop
        obtain ⟨O, hO⟩ := named_id hk h1 hstop
        obtain ⟨q1, q2⟩ := name_c0 hk h1
        have q3 := nm_33 q2
        rw [← fw] at hO
        have hlen : 0 < u.wr.length := List.length_pos_iff.2 hne
        refine ⟨(0, 0, 1) :: (l.filter (fun u => decide (u.top.kind ≠ 1))).map ST.sp, .tag (by omega) (by unfold isMk; omega) O _ (by omega) hO _ g1 rfl, ?_⟩
        rw [sumS_all, e2, hl, List.foldl_cons, sum_filter l _ (fun v hv => hany v (hdl v hv).1), List.map_cons, List.foldl_cons, f2, hu2]
        rfl
      · have hall : ∀ v ∈ t.kids.list, v ∈ t.kids.list ∧ v.top.kind ≠ 2 := fun v hv => ⟨hv, fun q2 => by
          cases hl : t.kids.list with
          | nil => rw [hl] at hv; cases hv
          | cons u l =>
            rw [hl] at hv hdr
            rcases List.mem_cons.1 hv with rfl | q
            · exact hcase ⟨_, _, hl, q2⟩
            · exact hdr v q q2⟩
        obtain ⟨F, r1, r2⟩ := cmp_fold (t.kids.list.map (fun u => (u.top.kind, u.wr))) [] [] (fun y hy => by
          obtain ⟨v, hv, rfl⟩ := List.mem_map.1 hy
          exact (hall v hv).2)
        rw [r1] at e1
        have hsum : sumS ((t.kids.list.filter (fun u => decide (u.top.kind ≠ 1))).map ST.sp) ((t.kids.list.filter (fun u => decide (u.top.kind ≠ 1))).map ST.sp).length = t.sp := by
          rw [sumS_all, e2]; exact sum_filter _ _ hany
        rw [List.nil_append] at e1
        -- with a star, or without
        have star : t.wr = 42 :: restL (t.kids.list.map (fun u => (u.top.kind, u.wr))) → ∃ ds, SeqTo s g (.int .i64 (d : Int)) P k (k + t.wr.length) ds ∧ sumS ds ds.length = t.sp := by
          intro ew
          have h' := h
          rw [ew] at h'
          obtain ⟨h1, h2, h4⟩ := h'.cons
          obtain ⟨g1, g2⟩ := noTag t.kids.list hall (k + 1) h4 (by rw [ew, List.length_cons]; omega)
          exact ⟨_, .any h2 (n124 _ g2) g1, hsum⟩
        by_cases hR : restL (t.kids.list.map (fun u => (u.top.kind, u.wr))) = []
        · refine star ?_
          rw [e1, hR]
          rcases r2 with rfl | ⟨_, rfl⟩ <;> rfl
        · rcases r2 with rfl | ⟨_, rfl⟩
          · have ew : t.wr = restL (t.kids.list.map (fun u => (u.top.kind, u.wr))) := by
              rw [e1]; unfold cmpE; rw [List.nil_append, if_neg hR]
            have h' := h
            rw [ew] at h'
            obtain ⟨g1, g2⟩ := noTag t.kids.list hall k h' (by rw [ew])
            have hlen : 0 < t.wr.length := by rw [ew]; exact List.length_pos_iff.2 hR
            rcases g2 with q | ⟨q, q2⟩
            · omega
            · exact ⟨_, .mark q2 g1, hsum⟩
          · refine star ?_
            rw [e1]; unfold cmpE
            rw [if_neg (by simp)]; rfl
    · omega
    · omega
theorem sep_cases {op : Int} (h1 : 1 ≤ op) (h4 : op ≤ 4) : sepL op = [32] ∨ ∃ c : UInt8, sepL op = [32, c, 32] ∧ (c.toNat = 43 ∨ c.toNat = 62 ∨ c.toNat = 126) := by
  have : op = 1 ∨ op = 2 ∨ op = 3 ∨ op = 4 := by omega
  rcases this with rfl | rfl | rfl | rfl
  · exact .inl rfl
  · exact .inr ⟨62, rfl, .inr (.inl rfl)⟩
  · exact .inr ⟨43, rfl, .inl rfl⟩
  · exact .inr ⟨126, rfl, .inr (.inr rfl)⟩
theorem cpxR_of (t : ST) (ha : t.All NOk) (hc : isCpx t.top.kind) (hb : Below1 t) : CpxR t := by
  intro s g d P k k0 e y hs hd h hfl hsk ht
  have h0 := ha.here
  obtain ⟨a, L, hw, hf⟩ := wr_first _ t (Nat.le_refl _) ha hc
  have hk : k < s.size ∧ bAt s k = a.toNat := by
    have h' := h
    rw [hw] at h'
    exact ⟨h'.cons.1, h'.cons.2.1⟩
  by_cases c22 : t.top.kind = 22
  · rcases h0.2.1 with ⟨q, _⟩ | ⟨_, q, _⟩ | ⟨q, _⟩ | ⟨_, u, v, hl, hu, hv, hv22⟩ | ⟨_, q, _⟩
    · omega
    · omega
    · omega
    · obtain ⟨e1, e2⟩ := ST.wr_comb c22 hl
      have hmu : u ∈ t.kids.list := by rw [hl]; exact List.mem_cons_self ..
      have hmv : v ∈ t.kids.list := by rw [hl]; exact List.mem_cons_of_mem _ (List.mem_cons_self ..)
      have hlu := ST.kid_lt hmu
      have hlv := ST.kid_lt hmv
      have hcu := hb u hlu (ha.kids u hmu) hu
      have hcv := seqR_of v (ha.kids v hmv) (by rcases hv with q | q | q
                                                · exact .inl q
                                                · exact .inr q
                                                · exact absurd q hv22) (hb.less (by omega))
      obtain ⟨op1, op4⟩ := h0.1.cmb c22
      rw [e1] at h
      have hfl' := hfl
      rw [e1] at hfl'
      obtain ⟨h1, h2⟩ := h.app
      obtain ⟨a', L', hw', hf'⟩ := wr_first _ v (Nat.le_refl _) (ha.kids v hmv) hv
      have hlim := ST.sp_lim (t := v) (by omega)
      have hlimu := ST.sp_lim (t := u) (by omega)
      rw [e2] at ht
      rcases sep_cases op1 op4 with hsep | ⟨c, hsep, hcc⟩
      · rw [hsep] at h2 hfl'
        obtain ⟨q1, q2, q3⟩ := Txt.cons (L := v.wr) h2
        have q2 : bAt s (k + u.wr.length) = 32 := q2
        have e3 : k + t.wr.length = k + u.wr.length + 1 + v.wr.length := by rw [e1, hsep]; simp; omega
        obtain ⟨ds, hds, hsum⟩ := hcv s g d P _ hs (by omega) q3 (by rw [← e3]; exact hfl)
        have q3' := q3
        rw [hw'] at q3'
        obtain ⟨p1, p2, _⟩ := q3'.cons
        refine hcu s g d P k k0 e y hs (by omega) h1 ⟨by omega, fun _ => .inl q2⟩ hsk ?_
        refine .space (j := k + u.wr.length + 1) (m := k + t.wr.length) (ds := ds) (by omega) (sk_one q1 q2 (fun _ => by rw [p2]; exact ⟨hf'.1, hf'.2.1⟩)) (by omega) p1 ?_ ?_ ?_ ?_ ?_ hlimu ?_
        · rw [p2]; unfold fstB at hf'; omega
        · rw [e3]; exact hds
        · rw [e3]; have : 0 < v.wr.length := by rw [hw']; simp
          omega
        · exact hfl.1
        · rw [hsum]; exact hlim
        · rw [hsum]; exact ht
      · rw [hsep] at h2 hfl'
        obtain ⟨q1, q2, q3⟩ := Txt.cons (L := c :: (32 :: v.wr)) h2
        obtain ⟨q4, q5, q6⟩ := q3.cons
        obtain ⟨q7, q8, q9⟩ := q6.cons
        have q2 : bAt s (k + u.wr.length) = 32 := q2
        have q8 : bAt s (k + u.wr.length + 1 + 1) = 32 := q8
        have e3 : k + t.wr.length = k + u.wr.length + 1 + 1 + 1 + v.wr.length := by rw [e1, hsep]; simp; omega
        obtain ⟨ds, hds, hsum⟩ := hcv s g d P _ hs (by omega) q9 (by rw [← e3]; exact hfl)
        have q9' := q9
        rw [hw'] at q9'
        obtain ⟨p1, p2, _⟩ := q9'.cons
        refine hcu s g d P k k0 e y hs (by omega) h1 ⟨by omega, fun _ => .inl q2⟩ hsk ?_
        refine .sign (j := k + u.wr.length + 1) (i := k + u.wr.length + 1 + 1 + 1) (m := k + t.wr.length) (ds := ds) (by omega) (sk_one q1 q2 (fun _ => by rw [q5]; omega)) (by omega) q4 (by rw [q5]; exact hcc) (sk_one q7 q8 (fun _ => by rw [p2]; exact ⟨hf'.1, hf'.2.1⟩)) p1 ?_ ?_ ?_ ?_ hlimu ?_
        · rw [e3]; exact hds
        · omega
        · exact hfl.1
        · rw [hsum]; exact hlim
        · rw [hsum]; exact ht
    · omega
  · obtain ⟨ds, hds, hsum⟩ := seqR_of t ha (by rcases hc with q | q | q
                                               · exact .inl q
                                               · exact .inr q
                                               · exact absurd q c22) hb s g d P k hs hd h hfl
    exact ⟨k, _, ds, hsk, hk.1, hds, by rw [hsum]; exact ST.sp_lim (by omega), by rw [hsum]; exact ht⟩
/-- Every selector that can be written is read. -/
theorem cpx_read : ∀ n (t : ST), t.flat.length ≤ n → t.All NOk → isCpx t.top.kind → CpxR t
  | 0, t, h, _, _ => by have := t.len_pos; omega
  | n + 1, t, h, ha, hc => cpxR_of t ha hc (fun u hu => cpx_read n u (by omega))
end Go.Proofs.YtnibpdmbccfgoaaGreatDoor

namespace Go.Proofs.YtnibpdmbccfgoaaGreatDoor
open Go.RowKit
set_option linter.unusedVariables false

theorem PrX.made (s : ByteArray) (w : World) : PrX s w.heap.size 0 (.int .i64 0) (.bool false) w.heap.size w (w.alloc (.cells #[.string s, .int .i64 0, .int .i64 0, .bool false] 51)) := by
  have hb := (Below.refl w.heap.size w).alloc (Nat.le_refl _) (.cells #[.string s, .int .i64 0, .int .i64 0, .bool false] 51)
  exact ⟨heap_alloc_new w _, hb.os, hb.tape, hb.output, hb.size, fun b h1 _ => hb.block b h1, by simp⟩
theorem PrX.below {s : ByteArray} {g i : Nat} {D P : Value} {B : Nat} {W w : World} (h : PrX s g i D P B W w) (hg : B ≤ g) : Below B W w :=
  ⟨h.os, h.tape, h.output, h.size, fun b hb => h.oth b hb (by omega)⟩
/-- The whole text is a selector, and how specific it is. -/
def Whole (s : ByteArray) (y : S3) : Prop := ∀ g, SelTo s g (.int .i64 0) (.bool false) 0 s.size y
def PaP (y : S3) (w : World) (e : Ending) (w' : World) : Prop := ∃ v, e = .returned (.tuple #[v, .nilIface]) ∧ Below w.heap.size w w' ∧ Disp (w.heap.size + 1) w'.heap.size v y w'

set_option maxRecDepth 100000 in
set_option maxHeartbeats 4000000 in
theorem cParse_to (s : ByteArray) (y : S3) (w : World) (hs : s.size ≤ 100000) (hq : Whole s y) : Calls Tryz.prog 13 #[.string s] w (PaP y w) := by
  have HSel : Hid (∀ (g N : Nat) (V U : World), g < N → PrX s g 0 (.int .i64 0) (.bool false) N V U → Calls Tryz.prog 20 #[.pointer (some ⟨g, 0, none⟩)] U (SqY y s s.size g (.int .i64 0) (.bool false) N V)) := fun g N V U hg hU => pSel_to s g 0 s.size y (.int .i64 0) (.bool false) N V U hs (Nat.zero_le _) (hq g) hg hU
  have HM := Lib.hid (PrX.made s w)
  clear hq
  go_enter Tryz.func13, Tryz.ntmps13
  go_wp2_with fail
  refine calls_gen (R := fun U => PrX s w.heap.size 0 (.int .i64 0) (.bool false) w.heap.size w U ∧ U.heap.size = w.heap.size + 1) ⟨HM.out, by simp⟩ ?_
  rintro U ⟨hU, hz⟩
  refine (HSel.out w.heap.size U.heap.size U U (by omega) (PrX.of hU.blk)).mono ?_
  rintro e1 w1 ⟨v, rfl, hr, hd⟩
  have HB : Hid (Below w.heap.size w w1) := (hr.comp hU hU.base).below (Nat.le_refl _)
  have c1 := hr.c1
  rw [hz] at hd
  have HD := Lib.hid hd
  clear hr hd hU hz
  go_wp2_with fail
  go_ret2
  exact ⟨_, rfl, HB.out, HD.out⟩

def SpcP (x : S3) (w : World) (e : Ending) (w' : World) : Prop := e = .returned (.tuple #[sp3 x, .bool true]) ∧ Below w.heap.size w w'
set_option maxRecDepth 100000 in
set_option maxHeartbeats 4000000 in
theorem specific_to (s : ByteArray) (y : S3) (w : World) (hs : s.size ≤ 100000) (hq : Whole s y) : Calls Tryz.prog 6 #[.string s] w (SpcP y w) := by
  have HP : Hid (∀ U, Calls Tryz.prog 13 #[.string s] U (PaP y U)) := fun U => cParse_to s y U hs hq
  clear hq
  obtain ⟨a, b, c⟩ := y
  go_enter Tryz.func6, Tryz.ntmps6
  go_wp2_with fail
  refine calls_gen (R := fun U => BlkB w.heap.size #[.int .i64 0, .int .i64 0, .int .i64 0] 26 w.heap.size w U) (BlkB.made w _ (Nat.le_refl _) _ _) ?_
  intro U hU
  refine (HP.out U).mono ?_
  rintro e1 w1 ⟨v, rfl, hb, hd⟩
  have hk1 := hU.next hb
  obtain ⟨htv, T, f, K, r, rfl, hm', hc', hh'⟩ := hd
  have HH := Lib.hid (hh' _ (Kp.refl _ _ _))
  have HK := Lib.hid hk1
  unfold SpP sp3 at HH
  clear hh' hk1 hb hU
  go_wp2_with fail
  refine HH.out.mono ?_
  rintro e2 w2 ⟨rfl, hb2⟩
  have hk2 := HK.out.next hb2
  have z0 := hk2.fz 0
  have z1 := hk2.fz 1
  have z2 := hk2.fz 2
  have u0 := hk2.cell 0
  have u1 := hk2.cell 1
  have u2 := hk2.cell 2
  have HK2 := Lib.hid hk2
  clear hk2 hb2 HH HK hm' hc'
  go_wp2_with fail
  have hk3 := ((HK2.out.set 0 (.int .i64 (a : Int))).set 1 (.int .i64 (b : Int))).set 2 (.int .i64 (c : Int))
  refine bodyPost_ret (results_mix2 rfl _ _ w.heap.size _ _ _ _ rfl hk3.blk Tryz.underlying26 rfl (by kernel_rfl)) rfl ?_
  exact ⟨rfl, hk3.old⟩

set_option maxRecDepth 100000 in
set_option maxHeartbeats 4000000 in
theorem addSpecific_any (a b c x y z : Nat) (h1 : a ≤ 100000) (h2 : b ≤ 100000) (h3 : c ≤ 100000) (g1 : x ≤ 100000) (g2 : y ≤ 100000) (g3 : z ≤ 100000) (w : World) :
    Calls Tryz.prog 9 #[.agg #[.int .i64 a, .int .i64 b, .int .i64 c], .agg #[.int .i64 x, .int .i64 y, .int .i64 z]] w (SpP (a + x, b + y, c + z) w) := by
  have HA : Hid (∀ V, Calls Tryz.prog 15 #[.agg #[.int .i64 a, .int .i64 b, .int .i64 c], .agg #[.int .i64 x, .int .i64 y, .int .i64 z]] V (SpP (a + x, b + y, c + z) V)) := fun V => spAdd_any a b c x y z h1 h2 h3 g1 g2 g3 V
  unfold SpP sp3 at HA
  have HN : Hid (∀ (A B : Obj) (C : Array Value), (((w.alloc A).alloc B).alloc (.cells C 26)).heap[w.heap.size + 1 + 1]? = some (.cells C 26 (0, 0))) := fun A B C => by
    have := heap_alloc_new ((w.alloc A).alloc B) (.cells C 26)
    rw [show ((w.alloc A).alloc B).heap.size = w.heap.size + 1 + 1 by simp] at this
    exact this
  go_enter Tryz.func9, Tryz.ntmps9
  go_wp2_with fail
  refine calls_gen (R := fun U => BlkB (w.heap.size + 1 + 1) #[.int .i64 0, .int .i64 0, .int .i64 0] 26 w.heap.size w U) ?_ ?_
  · refine ⟨?_, (((Below.refl _ _).alloc (Nat.le_refl _) _).alloc (by simp) _).alloc (by simp; omega) _, by omega⟩
    exact HN.out _ _ _
  intro U hU
  refine (HA.out U).mono ?_
  rintro e1 w1 ⟨rfl, hb⟩
  have hk2 := hU.next hb
  have z0 := hk2.fz 0
  have z1 := hk2.fz 1
  have z2 := hk2.fz 2
  have u0 := hk2.cell 0
  have u1 := hk2.cell 1
  have u2 := hk2.cell 2
  have HK2 := Lib.hid hk2
  clear hk2 hb hU
  go_wp2_with fail
  have hk3 := ((HK2.out.set 0 (.int .i64 ((a : Int) + (x : Int)))).set 1 (.int .i64 ((b : Int) + (y : Int)))).set 2 (.int .i64 ((c : Int) + (z : Int)))
  refine bodyPost_ret (results_cell_row rfl _ _ (w.heap.size + 1 + 1) _ _ _ _ rfl hk3.blk Tryz.underlying26 rfl (by kernel_rfl)) rfl ?_
  exact ⟨rfl, hk3.old⟩
end Go.Proofs.YtnibpdmbccfgoaaGreatDoor

namespace Go.Proofs.YtnibpdmbccfgoaaGreatDoor
open Go.RowKit
set_option linter.unusedVariables false

mutual
theorem ST.subs_top : ∀ t : ST, ∀ u ∈ t.subs, u.top ∈ t.flat
  | .nd x ks, u, hu => by
    rcases List.mem_cons.1 (show u ∈ (ST.nd x ks :: ks.subs) from hu) with rfl | q
    · exact List.mem_cons_self ..
    · exact List.mem_cons_of_mem _ (SK.subs_top ks u q)
theorem SK.subs_top : ∀ ks : SK, ∀ u ∈ ks.subs, u.top ∈ ks.flat
  | .nil, u, hu => by
    have hu : u ∈ ([] : List ST) := hu
    cases hu
  | .cons t ks, u, hu => by
    rcases List.mem_append.1 (show u ∈ t.subs ++ ks.subs from hu) with q | q
    · exact List.mem_append_left _ (ST.subs_top t u q)
    · exact List.mem_append_right _ (SK.subs_top ks u q)
end
theorem kids_nil {t : ST} (h : t.kids.list = []) : t.flat = [t.top] := by
  rw [t.flat_cons, t.kids.flat_list, h]; rfl
/-- Within a simple selector there are no pseudo-elements. -/
theorem smp_nops {u : ST} (h : ShpQ u) (hs : isSmp u.top.kind) : NoPs u.flat := by
  by_cases c : 18 ≤ u.top.kind
  · exact h.2 ⟨c, hs.2⟩
  · have hk : u.kids.list = [] := by
      rcases h.1 with ⟨q, _⟩ | ⟨q, _⟩ | ⟨q, _⟩ | ⟨q, _⟩ | ⟨_, _, q⟩
      · unfold isSmp at hs; omega
      · omega
      · unfold isSmp at hs; omega
      · unfold isSmp at hs; omega
      · exact q
    rw [kids_nil hk]
    intro x hx q
    rw [List.mem_singleton] at hx
    subst hx
    unfold isSmp at hs
    omega
theorem cmp_nops {t : ST} (h : t.All (fun u => FOk u.top ∧ ShpQ u)) (h21 : t.top.kind = 21) (hv : t.top.val = ⟨#[]⟩) : NoPs t.flat := by
  have hk : ∀ u ∈ t.kids.list, isSmp u.top.kind := by
    rcases h.here.2.1 with ⟨q, _⟩ | ⟨_, q, _⟩ | ⟨_, q, _⟩ | ⟨q, _⟩ | ⟨_, q, _⟩
    · omega
    · omega
    · exact q
    · omega
    · omega
  rw [t.flat_cons, t.kids.flat_list]
  intro x hx q
  rcases List.mem_cons.1 hx with rfl | hx
  · exact hv
  · obtain ⟨u, hu, hx⟩ := List.mem_flatMap.1 hx
    exact smp_nops (h.kids u hu).here.2 (hk u hu) x hx q
theorem cmp_nok {t : ST} (h : t.All (fun u => FOk u.top ∧ ShpQ u)) (h21 : t.top.kind = 21) (hv : t.top.val = ⟨#[]⟩) : t.All NOk :=
  ST.subs_all t (fun u hu => by
    obtain ⟨q1, q2⟩ := ST.subs_mem t h u hu
    exact ⟨q1, q2.1, cmp_nops h h21 hv _ (ST.subs_top t u hu)⟩)
theorem bOf_len (L : List UInt8) : (bOf L).size = L.length := bOf_size L
/-- A selector's text is read, and how specific it is known. -/
theorem whole_of (t : ST) (ha : t.All NOk) (hc : isCpx t.top.kind) (hl : t.flat.length ≤ 1000) (hs : (bOf t.wr).size ≤ 100000) : Whole (bOf t.wr) t.sp := by
  intro g
  have hT := Txt.whole t.wr
  have he : 0 + t.wr.length = (bOf t.wr).size := by rw [bOf_size]; omega
  obtain ⟨a, L, hw, hf⟩ := wr_first _ t (Nat.le_refl _) ha hc
  have hsk : Sk (bOf t.wr) 0 0 := by
    refine fst_sk (a := a) (L := L) hf ?_
    rw [← hw]; exact hT
  have hout : ∀ P : Prop, (bOf t.wr).size < (bOf t.wr).size → P := fun P q => absurd q (Nat.lt_irrefl _)
  have := cpx_read _ t (Nat.le_refl _) ha hc (bOf t.wr) g 0 (.bool false) 0 0 (bOf t.wr).size t.sp hs (by omega) hT ⟨by omega, fun q => by omega⟩ hsk
    (by rw [he]; exact .done (Nat.le_refl _) (sk_none (Nat.le_refl _) (hout _)) (hout _))
  exact this
/-! The facts of one argument. -/
structure Arg9 (L : List Sn) (t : ST) : Prop where
  ok : t.Ok
  flat : L = t.flat
  nok : t.All NOk
  k21 : t.top.kind = 21
  len : t.flat.length ≤ 60
  szs : ∀ x ∈ t.flat, x.key.size ≤ 500 ∧ x.val.size ≤ 500
  sum : (t.flat.map wtB).sum ≤ 6000
theorem mn9_sum : ∀ L : List Sn, (∀ x ∈ L, x.key.size + x.val.size ≤ 1000) → (L.map wtB).sum = 4 * (L.map mn9).sum + 60 * L.length
  | [], _ => rfl
  | x :: L, h => by
    have ih := mn9_sum L (fun y hy => h y (List.mem_cons_of_mem _ hy))
    have hx := h x (List.mem_cons_self ..)
    rw [List.map_cons, List.sum_cons, List.map_cons, List.sum_cons, ih, List.length_cons]
    have : mn9 x = x.key.size + x.val.size := Nat.min_eq_left hx
    rw [this]
    unfold wtB
    omega
theorem le_sum : ∀ (L : List Sn), ∀ x ∈ L, mn9 x ≤ (L.map mn9).sum
  | y :: L, x, h => by
    rw [List.map_cons, List.sum_cons]
    rcases List.mem_cons.1 h with rfl | q
    · omega
    · have := le_sum L x q; omega
theorem arg9_of {L : List Sn} (h : WrQ L) (hp : 0 < L.length) (h21 : L[0].kind = 21) (hv : L[0].val = ⟨#[]⟩) : ∃ t, Arg9 L t := by
  obtain ⟨hl, hs, t, hok, hf, hall⟩ := h
  have htop : L[0] = t.top := by
    have : L = t.top :: t.kids.flat := by rw [hf, t.flat_cons]
    simp only [this, List.getElem_cons_zero]
  have hsum : (L.map mn9).sum ≤ 500 := by
    unfold sum9 at hs
    rwa [List.take_length] at hs
  have hx : ∀ x ∈ L, x.key.size + x.val.size ≤ 500 := fun x hx => by
    have h1 := le_sum L x hx
    have h2 : mn9 x ≤ 500 := by omega
    unfold mn9 at h2
    omega
  have hw := mn9_sum L (fun x q => by have := hx x q; omega)
  rw [htop] at h21 hv
  refine ⟨t, hok, hf, cmp_nok hall h21 hv, h21, by rw [← hf]; exact hl, fun x q => ?_, ?_⟩
  · rw [← hf] at q; have := hx x q; omega
  · rw [← hf, hw]; omega
/-- Two compounds and a combinator. -/
def both (op : Int) (ta tb : ST) : ST := .nd ⟨22, op, ⟨#[]⟩, ⟨#[]⟩, 0, 0, 0, ((1 + ta.flat.length + tb.flat.length : Nat) : Int)⟩ (.cons ta (.cons tb .nil))
theorem both_flat (op : Int) (ta tb : ST) : (both op ta tb).flat = ⟨22, op, ⟨#[]⟩, ⟨#[]⟩, 0, 0, 0, ((1 + ta.flat.length + tb.flat.length : Nat) : Int)⟩ :: (ta.flat ++ tb.flat) := by
  show _ :: (ta.flat ++ (tb.flat ++ [])) = _
  rw [List.append_nil]
theorem both_ok {op : Int} {ta tb : ST} (ha : ta.Ok) (hb : tb.Ok) : (both op ta tb).Ok := by
  refine ⟨?_, ha, hb, trivial⟩
  show ((1 + ta.flat.length + tb.flat.length : Nat) : Int) = (((ta.flat ++ (tb.flat ++ [])).length + 1 : Nat) : Int)
  rw [List.append_nil, List.length_append]
  congr 1
  omega
theorem both_nok {op : Int} (h1 : 1 ≤ op) (h4 : op ≤ 4) {ta tb : ST} (ha : ta.All NOk) (hb : tb.All NOk) (qa : ta.top.kind = 21) (qb : tb.top.kind = 21) : (both op ta tb).All NOk := by
  refine ⟨⟨⟨?_, ?_, ?_, ?_, ?_, ?_, ?_⟩, ?_, ?_⟩, ha, hb, trivial⟩
  · intro q; exfalso; have q : (22 : Int) = 2 ∨ (22 : Int) = 5 := q; omega
  · intro q; exfalso; have q : (22 : Int) = 3 ∨ (22 : Int) = 4 ∨ (22 : Int) = 15 := q; omega
  · intro q; exfalso; have q : (22 : Int) = 5 := q; omega
  · intro _; exact ⟨h1, h4⟩
  · intro q; exfalso; have q : (22 : Int) = 6 := q; omega
  · exact ⟨by show (-9999 : Int) ≤ 0; decide, by show (0 : Int) ≤ 9999; decide, by show (-9999 : Int) ≤ 0; decide, by show (0 : Int) ≤ 9999; decide⟩
  · intro q; exfalso; have q : (22 : Int) = 7 := q; omega
  · exact .inr (.inr (.inr (.inl ⟨rfl, ta, tb, rfl, .inr (.inl qa), .inr (.inl qb), by rw [qb]; decide⟩)))
  · intro q; exfalso; have q : (22 : Int) = 21 := q; omega
theorem both_sp (op : Int) (ta tb : ST) : (both op ta tb).sp = S3.add ta.sp tb.sp := (ST.wr_comb (t := both op ta tb) rfl rfl).2
theorem both_sum {op : Int} {ta tb : ST} (ha : (ta.flat.map wtB).sum ≤ 6000) (hb : (tb.flat.map wtB).sum ≤ 6000) : ((both op ta tb).flat.map wtB).sum ≤ 100000 := by
  rw [both_flat, List.map_cons, List.sum_cons, List.map_append, List.sum_append]
  have : wtB ⟨22, op, ⟨#[]⟩, ⟨#[]⟩, 0, 0, 0, ((1 + ta.flat.length + tb.flat.length : Nat) : Int)⟩ = 60 := rfl
  omega
theorem wr_size {t : ST} (h : (t.flat.map wtB).sum ≤ 100000) : (bOf t.wr).size ≤ 100000 := by
  rw [bOf_size]; have := t.wr_len; omega
end Go.Proofs.YtnibpdmbccfgoaaGreatDoor
