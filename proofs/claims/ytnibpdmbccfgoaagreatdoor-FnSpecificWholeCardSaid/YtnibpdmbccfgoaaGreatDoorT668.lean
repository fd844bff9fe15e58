/- The region in the middle of spec.selFields. -/
import Derived.Test.YtnibpdmbccfgoaaGreatDoorT667
namespace Go.Proofs.YtnibpdmbccfgoaaGreatDoor
open Go.RowKit
set_option linter.unusedVariables false

theorem hcm654 : ∀ bn bv : Bool, (bn = true → bv = true) → ((bn = true ∧ bv = true) ∨ (bn = false ∧ bv = true) ∨ (bn = false ∧ bv = false)) := by decide

set_option maxRecDepth 100000 in
set_option maxHeartbeats 8000000 in
theorem selFields_mid : selFieldsG.1 := by
  delta selFieldsG
  dsimp only
  intro K1 J K3 a4
  intros
  rename_i w kd op key val na nb fl sz H wc c0 c2 c3 bk bn bv hbv a3
  have HE : Hid (∀ U, Calls Tryz.prog 27 #[.string val] U (AnyB U)) := fun U => isElement_any val U
  obtain ⟨ke, hke⟩ : ∃ q, (key.toList.isEmpty) = q := ⟨_, rfl⟩
  have Hke := Lib.hid hke
  obtain ⟨ve, hve⟩ : ∃ q, (val.toList.isEmpty) = q := ⟨_, rfl⟩
  have Hve := Lib.hid hve
  obtain ⟨n21, hn21⟩ : ∃ q, (kd != 21) = q := ⟨_, rfl⟩
  have Hn21 := Lib.hid hn21
  have hcmb : (bn = true ∧ bv = true) ∨ (bn = false ∧ bv = true) ∨ (bn = false ∧ bv = false) := hcm654 bn bv hbv
  clear hbv
  cases bk
  case true =>
    cases ke
    case true =>
      go_wp2_with fail
      go_meet
      exact ⟨⟨true, rfl, fun h => (by cases h)⟩, by trivial⟩
    case false =>
      rcases hcmb with ⟨rfl, rfl⟩ | ⟨rfl, rfl⟩ | ⟨rfl, rfl⟩
      · cases ve
        case true =>
          go_wp2_with fail
          go_meet
          exact ⟨⟨true, rfl, fun h => (by cases h)⟩, by trivial⟩
        case false =>
          go_wp2_with fail
          go_meet
          exact ⟨⟨false, rfl, fun _ => ⟨fun h => (Hke.out), fun h => (Hve.out)⟩⟩, by trivial⟩
      · go_wp2_with fail
        go_meet
        exact ⟨⟨false, rfl, fun _ => ⟨fun h => (Hke.out), fun h => (by cases h)⟩⟩, by trivial⟩
      · cases ve
        case true =>
          go_wp2_with fail
          go_meet
          exact ⟨⟨false, rfl, fun _ => ⟨fun h => (Hke.out), fun h => (by cases h)⟩⟩, by trivial⟩
        case false =>
          cases n21
          case true =>
            go_wp2_with fail
            go_meet
            exact ⟨⟨true, rfl, fun h => (by cases h)⟩, by trivial⟩
          case false =>
            go_wp2_with fail
            refine (HE.out _).mono ?_
            rintro e1 w1 ⟨be, rfl, rfl⟩
            dsimp only
            cases be
            case true =>
              go_wp2_with fail
              go_meet
              exact ⟨⟨false, rfl, fun _ => ⟨fun h => (Hke.out), fun h => (by cases h)⟩⟩, by trivial⟩
            case false =>
              go_wp2_with fail
              go_meet
              exact ⟨⟨true, rfl, fun h => (by cases h)⟩, by trivial⟩
  case false =>
    cases ke
    case false =>
      go_wp2_with fail
      go_meet
      exact ⟨⟨true, rfl, fun h => (by cases h)⟩, by trivial⟩
    case true =>
      rcases hcmb with ⟨rfl, rfl⟩ | ⟨rfl, rfl⟩ | ⟨rfl, rfl⟩
      · cases ve
        case true =>
          go_wp2_with fail
          go_meet
          exact ⟨⟨true, rfl, fun h => (by cases h)⟩, by trivial⟩
        case false =>
          go_wp2_with fail
          go_meet
          exact ⟨⟨false, rfl, fun _ => ⟨fun h => (by cases h), fun h => (Hve.out)⟩⟩, by trivial⟩
      · go_wp2_with fail
        go_meet
        exact ⟨⟨false, rfl, fun _ => ⟨fun h => (by cases h), fun h => (by cases h)⟩⟩, by trivial⟩
      · cases ve
        case true =>
          go_wp2_with fail
          go_meet
          exact ⟨⟨false, rfl, fun _ => ⟨fun h => (by cases h), fun h => (by cases h)⟩⟩, by trivial⟩
        case false =>
          cases n21
          case true =>
            go_wp2_with fail
            go_meet
            exact ⟨⟨true, rfl, fun h => (by cases h)⟩, by trivial⟩
          case false =>
            go_wp2_with fail
            refine (HE.out _).mono ?_
            rintro e1 w1 ⟨be, rfl, rfl⟩
            dsimp only
            cases be
            case true =>
              go_wp2_with fail
              go_meet
              exact ⟨⟨false, rfl, fun _ => ⟨fun h => (by cases h), fun h => (by cases h)⟩⟩, by trivial⟩
            case false =>
              go_wp2_with fail
              go_meet
              exact ⟨⟨true, rfl, fun h => (by cases h)⟩, by trivial⟩

theorem selFields_any (x : Sn) (w : World) (hr : SnR x) (hf : Fit6 x) : Calls Tryz.prog 17 #[x.val8] w (TruB (FOk x) w) :=
  selFieldsG.2 ⟨selFields_mid⟩ x w hr hf
end Go.Proofs.YtnibpdmbccfgoaaGreatDoor
