/- The loaded program's head, letter by letter: what the row's own facts ask of it, laid once. -/
import Derived.Test.YtnibpdmbccfgoaaGreatDoorRows
import Derived.ProofKit
namespace Go.Proofs.YtnibpdmbccfgoaaGreatDoor
def c (n : Nat) : Char := Char.ofNat n
theorem ordL : Tryz.pinned.checked.prog.initOrder.toList = [c 104, c 97, c 114, c 110, c 101, c 115, c 115, c 32, c 48, c 100, c 50, c 100, c 57, c 100, c 52, c 101, c 54, c 57, c 55, c 99, c 100, c 99, c 102, c 54, c 101, c 101, c 57, c 99, c 97, c 54, c 50, c 52, c 101, c 101, c 53, c 56, c 52, c 101, c 102, c 51, c 102, c 53, c 101, c 52, c 100, c 48, c 50, c 57, c 49, c 102, c 100, c 99, c 48, c 52, c 97, c 97, c 52, c 49, c 99, c 52, c 57, c 100, c 55, c 102, c 57, c 49, c 52, c 51, c 55, c 48, c 54, c 102, c 32, c 99, c 117, c 116, c 32, c 97, c 116, c 32, c 103, c 105, c 118, c 101, c 110, c 46, c 101, c 120, c 97, c 109, c 112, c 108, c 101, c 47, c 112, c 117, c 98, c 45, c 98, c 111, c 115, c 113, c 117, c 101, c 116, c 47, c 108, c 97, c 119, c 115, c 46, c 70, c 110, c 83, c 112, c 101, c 99, c 105, c 102, c 105, c 99, c 87, c 104, c 111, c 108, c 101] := by
  have h : Tryz.pinned.checked.prog.initOrder = String.ofList [c 104, c 97, c 114, c 110, c 101, c 115, c 115, c 32, c 48, c 100, c 50, c 100, c 57, c 100, c 52, c 101, c 54, c 57, c 55, c 99, c 100, c 99, c 102, c 54, c 101, c 101, c 57, c 99, c 97, c 54, c 50, c 52, c 101, c 101, c 53, c 56, c 52, c 101, c 102, c 51, c 102, c 53, c 101, c 52, c 100, c 48, c 50, c 57, c 49, c 102, c 100, c 99, c 48, c 52, c 97, c 97, c 52, c 49, c 99, c 52, c 57, c 100, c 55, c 102, c 57, c 49, c 52, c 51, c 55, c 48, c 54, c 102, c 32, c 99, c 117, c 116, c 32, c 97, c 116, c 32, c 103, c 105, c 118, c 101, c 110, c 46, c 101, c 120, c 97, c 109, c 112, c 108, c 101, c 47, c 112, c 117, c 98, c 45, c 98, c 111, c 115, c 113, c 117, c 101, c 116, c 47, c 108, c 97, c 119, c 115, c 46, c 70, c 110, c 83, c 112, c 101, c 99, c 105, c 102, c 105, c 99, c 87, c 104, c 111, c 108, c 101] := by kernel_rfl
  rw [h, String.toList_ofList]

theorem wordsL : behindMainWord (wordsSigns Tryz.pinned.checked.prog.initOrder.toList) = [[c 99, c 117, c 116], [c 97, c 116], [c 103, c 105, c 118, c 101, c 110, c 46, c 101, c 120, c 97, c 109, c 112, c 108, c 101, c 47, c 112, c 117, c 98, c 45, c 98, c 111, c 115, c 113, c 117, c 101, c 116, c 47, c 108, c 97, c 119, c 115, c 46, c 70, c 110, c 83, c 112, c 101, c 99, c 105, c 102, c 105, c 99, c 87, c 104, c 111, c 108, c 101]] := by
  rw [ordL]
  kernel_rfl

theorem liftsL : Tryz.pinned.checked.prog.liftsFinal = false := by
  unfold Program.liftsFinal Program.headLifts
  rw [wordsL]
  kernel_rfl

theorem make_of (P : Program) (r : List (List Char)) (hw : behindMainWord (wordsSigns P.initOrder.toList) = [c 99, c 117, c 116] :: r) : P.make = some .cut := by
  have e1 : (([c 99, c 117, c 116] : List Char) == "gc".toList) = false := by decide +kernel
  have e2 : (([c 99, c 117, c 116] : List Char) == "spec".toList) = false := by decide +kernel
  have e3 : (([c 99, c 117, c 116] : List Char) == "cut".toList) = true := by decide +kernel
  unfold Program.make
  rw [hw]
  simp only [e1, e2, e3]
  rfl

theorem enter_of (P : Program) (r : List (List Char)) (hw : behindMainWord (wordsSigns P.initOrder.toList) = [c 99, c 117, c 116] :: r) (hs : stripLifts liftWords ([c 99, c 117, c 116] :: r) = ([], [c 99, c 117, c 116] :: r))
    (h1 : P.laysLater = false) (h2 : P.bearsReflect = false) (h3 : P.doorFits [] = true) : P.mayEnter = true := by
  have e3 : (([c 99, c 117, c 116] : List Char) == "cut".toList) = true := by decide +kernel
  have e4 : ((some [c 99, c 117, c 116] : Option (List Char)) == some "cut".toList) = true := by decide +kernel
  unfold Program.mayEnter
  rw [hw]
  simp only [hs, h1, h2, h3, List.head?_cons, e4]
  simp

theorem stripL : stripLifts liftWords ([[c 99, c 117, c 116], [c 97, c 116], [c 103, c 105, c 118, c 101, c 110, c 46, c 101, c 120, c 97, c 109, c 112, c 108, c 101, c 47, c 112, c 117, c 98, c 45, c 98, c 111, c 115, c 113, c 117, c 101, c 116, c 47, c 108, c 97, c 119, c 115, c 46, c 70, c 110, c 83, c 112, c 101, c 99, c 105, c 102, c 105, c 99, c 87, c 104, c 111, c 108, c 101]]) = ([], [[c 99, c 117, c 116], [c 97, c 116], [c 103, c 105, c 118, c 101, c 110, c 46, c 101, c 120, c 97, c 109, c 112, c 108, c 101, c 47, c 112, c 117, c 98, c 45, c 98, c 111, c 115, c 113, c 117, c 101, c 116, c 47, c 108, c 97, c 119, c 115, c 46, c 70, c 110, c 83, c 112, c 101, c 99, c 105, c 102, c 105, c 99, c 87, c 104, c 111, c 108, c 101]]) := by kernel_rfl
theorem laysL : Tryz.pinned.checked.prog.laysLater = false := by kernel_rfl
theorem bearsL : Tryz.pinned.checked.prog.bearsReflect = false := by kernel_rfl
theorem doorL : Tryz.pinned.checked.prog.doorFits [] = true := by kernel_rfl
theorem makeL : Tryz.pinned.checked.prog.make = some .cut := make_of _ _ wordsL
theorem enterL : Tryz.pinned.checked.prog.mayEnter = true := enter_of _ _ wordsL stripL laysL bearsL doorL
end Go.Proofs.YtnibpdmbccfgoaaGreatDoor
