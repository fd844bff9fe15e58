/- A right tree is taken for a tree. -/
import Derived.Test.YtjebadadimejpaaDoorT7
namespace Go.Proofs.YtjebadadimejpaaDoor
open Go.RowKit
set_option linter.unusedVariables false

/-- From lo up to hi stand nodes beneath a document. -/
def KidsOk (t : List Nd) (lo hi : Nat) : Prop := ∀ i, lo ≤ i → i < hi → 2 ≤ (t.getD i default).kind ∧ (t.getD i default).kind ≤ 5 ∧ ((t.getD i default).kind ≠ 3 → sz t i = 1)

def TrueB (w : World) (e : Ending) (w' : World) : Prop := e = .returned (.bool true) ∧ Below w.heap.size w w'

set_option maxRecDepth 100000 in
set_option maxHeartbeats 2000000 in
theorem fits_any (a : Option Addr) (c : Nat) (t : List Nd) (ht : t.length ≤ 200) (d : Nat) : ∀ (lo hi : Nat) (I J : Int) (w : World), I = lo → J = hi → hi ≤ lo + d → NSl w w.heap.size a t → hi ≤ t.length → lo ≤ hi → Lam t lo hi → KidsOk t lo hi →
    Calls Tryd.prog 30 #[.slice a t.length c, .int .i64 I, .int .i64 J] w (TrueB w) := by
  induction d with
  | zero =>
    rintro lo hi I J w rfl rfl hd h hhi hlh hl hk
    clear hl hk
    go_enter Tryd.func30, Tryd.ntmps30
    go_wp2_with fail
    refine wp_loop_rounds 1 ?_
    rw [rounds_succ]
    go_wp2_with fail
    go_ret
    exact ⟨rfl, Below.refl _ _⟩
  | succ d ih =>
    rintro lo hi I J w rfl rfl hd h hhi hlh hl hk
    have HI := Lib.hid ih
    have HL := Lib.hid hl
    have HK := Lib.hid hk
    have HH := Lib.hid h
    clear ih hl hk h
    go_enter Tryd.func30, Tryd.ntmps30
    go_wp2_with fail
    go_loopw [1] (fun x wr => ∃ m : Nat, lo ≤ m ∧ m ≤ hi ∧ x = .int .i64 m ∧ Below w.heap.size w wr) (fun x _ => hi - (intOf x).toNat)
    case atStart => exact ⟨lo, by omega, by omega, rfl, Below.refl _ _⟩
    case round =>
      obtain ⟨m, hm1, hm2, rfl, hb⟩ := hrel
      by_cases hlt : m < hi
      · have hmt : m < t.length := by omega
        obtain ⟨b, o, rfl, hbB, hc⟩ := HH.out.at_ (by omega)
        obtain ⟨g1, g2, g3, g4, g5, -⟩ := hc m hmt
        clear hc
        obtain ⟨l1, l2, l3, -⟩ := HL.out m hm1 hlt
        obtain ⟨k1, k2, k3⟩ := HK.out m hm1 hlt
        rw [size_at hmt l1] at g5
        rw [getD_at hmt] at k1 k2 k3
        replace g1 := (hb.cell (p := ⟨b, _, none⟩) hbB).trans g1
        replace g2 := (hb.cell (p := ⟨b, _, none⟩) hbB).trans g2
        replace g3 := (hb.cell (p := ⟨b, _, none⟩) hbB).trans g3
        replace g4 := (hb.cell (p := ⟨b, _, none⟩) hbB).trans g4
        replace g5 := (hb.cell (p := ⟨b, _, none⟩) hbB).trans g5
        clear l1
        obtain ⟨x, hx⟩ : ∃ x, x = t[m] := ⟨_, rfl⟩
        rw [← hx] at g1 g2 g3 g4 k1 k2 k3
        clear hx
        have hbal : ∀ O, Below w.heap.size w (wr.alloc O) := fun O => hb.alloc hb.size O
        have HB := Lib.hid hbal
        have HLS : Hid (Lam t (m + 1) (m + sz t m)) := by
          intro i hi1 hi2
          obtain ⟨q1, q2, q3, q4⟩ := HL.out i (by omega) (by omega)
          exact ⟨q1, q2, by have := (HL.out m hm1 hlt).2.2.2 i (by omega) hi2; omega, q4⟩
        have HKS : Hid (KidsOk t (m + 1) (m + sz t m)) := fun i hi1 hi2 => HK.out i (by omega) (by omega)
        clear hbal
        by_cases e3 : x.kind = 3
        · obtain ⟨kd, tag, text, aa, ac, attrs, size⟩ := x
          dsimp only at e3 g1 g2 g3 g4 k1 k2 k3
          subst e3
          clear k3
          go_wp2_with fail
          refine (HI.out (m + 1) (m + sz t m) _ _ _ (by omega) (by omega) (by omega) (HH.out.up (HB.out _)) (by omega) (by omega) HLS.out HKS.out).mono ?_
          rintro e w1 ⟨rfl, hb1⟩
          have hb2 := bnext (HB.out _) hb1
          have g5' : w1.cell? ⟨wr.heap.size, 4, none⟩ = some (.int .i64 (sz t m : Int)) := by
            rw [hb1.cell (p := ⟨wr.heap.size, 4, none⟩) (by simp), World.cell?_alloc_mark]; rfl
          clear hb1
          go_wp2_with fail
          go_roundw
          case rel => exact ⟨m + sz t m, by omega, by omega, by go_num, hb2⟩
          case measure => simp [intOf]; omega
        · have s1 := k3 e3
          have z3 : (x.kind == 3) = false := beq_eq_false_iff_ne.2 e3
          clear k3
          rw [s1] at g5 l2 l3 HLS HKS
          have S1 := Lib.hid s1
          clear s1
          replace g5 : wr.cell? ⟨b, o + m * 5 + 4, none⟩ = some (.int .i64 1) := g5
          clear l2
          go_wp2_with fail
          refine (HI.out (m + 1) (m + 1) _ _ _ (by omega) (by omega) (by omega) (HH.out.up (HB.out _)) (by omega) (by omega) HLS.out HKS.out).mono ?_
          rintro e w1 ⟨rfl, hb1⟩
          have hb2 := bnext (HB.out _) hb1
          have g5' : w1.cell? ⟨wr.heap.size, 4, none⟩ = some (.int .i64 1) := by
            rw [hb1.cell (p := ⟨wr.heap.size, 4, none⟩) (by simp), World.cell?_alloc_mark]; rfl
          clear hb1
          go_wp2_with fail
          go_roundw
          case rel => exact ⟨m + 1, by omega, by omega, by go_num, hb2⟩
          case measure => simp [intOf]; omega
      · go_wp2_with fail
        go_ret
        exact ⟨rfl, hb⟩

theorem RightP.kids {t : List Nd} (h : RightP t) : KidsOk t 1 t.length := by
  intro i hi1 hi2
  rw [getD_at hi2]
  have hs := size_at hi2 (h.lam i (by omega) hi2).1
  rcases (h.node i hi2).kinds with ⟨_, h0⟩ | ⟨hk, h1, _⟩ | ⟨hk, _⟩ | ⟨hk, h1⟩
  · omega
  · rw [hk]; exact ⟨by omega, by omega, fun _ => by omega⟩
  · rw [hk]; exact ⟨by omega, by omega, fun h => absurd rfl h⟩
  · exact ⟨by omega, by omega, fun _ => by omega⟩

set_option maxRecDepth 100000 in
set_option maxHeartbeats 2000000 in
theorem iright_any (a : Option Addr) (c : Nat) (t : List Nd) (w : World) (h : NSl w w.heap.size a t) (hR : RightP t) :
    Calls Tryd.prog 24 #[.slice a t.length c] w (TrueB w) := by
  have hp := hR.pos
  have hle := hR.le
  obtain ⟨b, o, rfl, hbB, hc⟩ := h.at_ hp
  have f1 := (hc 0 hp).1
  have f5 := (hc 0 hp).2.2.2.2.1
  rw [size_at hp (hR.lam 0 (by omega) hp).1, hR.top] at f5
  have hk := hR.root
  rw [getD_at hp] at hk
  rw [hk] at f1
  simp only [Nat.zero_mul, Nat.add_zero] at f1 f5
  have z0 : ((t.length : Int) == 0) = false := beq_eq_false_iff_ne.2 (by omega)
  have HH := Lib.hid h
  have HR := Lib.hid hR
  clear hc hk h hR
  go_enter Tryd.func24, Tryd.ntmps24
  go_wp2_with fail
  refine (fits_any _ _ t hle t.length 1 t.length _ _ _ (by rfl) rfl (by omega) HH.out (by omega) (by omega) (HR.out.lam.from_ (by omega)) HR.out.kids).mono ?_
  rintro e w1 ⟨rfl, hb1⟩
  go_wp2_with fail
  go_ret
  exact ⟨rfl, hb1⟩
end Go.Proofs.YtjebadadimejpaaDoor
