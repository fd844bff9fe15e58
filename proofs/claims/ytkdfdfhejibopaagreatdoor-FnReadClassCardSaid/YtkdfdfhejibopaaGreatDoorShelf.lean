/-
  DERIVED: THE SHELF's CONTRACTS AT THIS DUMP, IN PLAIN WORDS (tools/lay-plain.mjs out of 'TryzShelf.lean', which tools/lay-shelf.mjs wrote): THE SAME DECLARATIONS UNDER THE SAME NAMES: 'import', 'namespace', 'open', 'def', 'theorem' AND NOTHING ELSE: no command of the shelf's: FOR A HAND-IN. Each laying: the table of numbers ('.._ren') and one theorem, a field a fact of the dump's own or the kernel's comparison; each contract: ONE APPLICATION.
-/
import Derived.Shelf.Strings.Builder1
import Derived.Shelf.Strings.Builder2
import Derived.Shelf.Strings.BuilderF
import Derived.Shelf.Strings.BuilderK
import Derived.Shelf.Strconv.Itoa0
import Derived.Shelf.Strconv.Itoa1
import Derived.Shelf.LaysM
import Derived.Shelf.Strconv.Itoa2
import Derived.Shelf.Strconv.Itoa3
import Derived.Shelf.Strconv.Clone
import Derived.Shelf.Strconv.SyntaxError
import Derived.Shelf.LaysC
import Derived.Shelf.Strconv.ToError
import Derived.Shelf.Strconv.Lower
import Derived.Shelf.Strconv.ParseUint10
import Derived.Shelf.Strconv.ParseUint10Empty
import Derived.Shelf.Strconv.ParseUint10Any
import Derived.Shelf.Strconv.RangeError
import Derived.Shelf.Strconv.ToErrorRange
import Derived.Shelf.Strings.Prefix
import Derived.Shelf.Bits.Mul64
import Derived.Shelf.Strings.Repeat
import Derived.Test.YtkdfdfhejibopaaGreatDoorProg
namespace Go.Proofs
def Tryz.lays105_ren : Go.Shelf.Ren := ⟨fun | 105 => 29 | 212 => 36 | 99 => 37 | 165 => 38 | 166 => 39 | 170 => 40 | 169 => 41 | 263 => 45 | 264 => 46 | 206 => 47 | 240 => 48 | 241 => 49 | 276 => 52 | 277 => 53 | n => n, fun | 9 => 9 | 3 => 3 | 4 => 4 | 20 => 20 | 0 => 0 | 46 => 57 | 109 => 106 | 5 => 5 | 72 => 112 | 76 => 114 | 51 => 121 | 146 => 122 | 53 => 118 | 148 => 124 | 70 => 109 | 37 => 110 | 75 => 35 | 127 => 126 | 164 => 128 | 80 => 58 | n => n, fun | n => n⟩
theorem Tryz.lays105 : Go.Proofs.Lays.n105 Tryz.prog Tryz.lays105_ren := {
  mixed := by kernel_rfl
  f99 := Tryz.func37.trans (congrArg some (by kernel_rfl))
  f105 := Tryz.func29.trans (congrArg some (by kernel_rfl))
  f165 := Tryz.func38.trans (congrArg some (by kernel_rfl))
  f166 := Tryz.func39.trans (congrArg some (by kernel_rfl))
  f169 := Tryz.func41.trans (congrArg some (by kernel_rfl))
  f170 := Tryz.func40.trans (congrArg some (by kernel_rfl))
  f206 := Tryz.func47.trans (congrArg some (by kernel_rfl))
  f212 := Tryz.func36.trans (congrArg some (by kernel_rfl))
  f240 := Tryz.func48.trans (congrArg some (by kernel_rfl))
  f241 := Tryz.func49.trans (congrArg some (by kernel_rfl))
  f263 := Tryz.func45.trans (congrArg some (by kernel_rfl))
  f264 := Tryz.func46.trans (congrArg some (by kernel_rfl))
  f276 := Tryz.func52.trans (congrArg some (by kernel_rfl))
  f277 := Tryz.func53.trans (congrArg some (by kernel_rfl))
  t0 := Tryz.underlying0
  a0 := Tryz.isAgg0
  z0 := Tryz.sizeOf0
  v0 := Tryz.zeroValue0
  t3 := Tryz.underlying3
  a3 := Tryz.isAgg3
  z3 := Tryz.sizeOf3
  v3 := Tryz.zeroValue3
  t4 := Tryz.underlying4
  a4 := Tryz.isAgg4
  z4 := Tryz.sizeOf4
  v4 := Tryz.zeroValue4
  t5 := Tryz.underlying5
  a5 := Tryz.isAgg5
  z5 := Tryz.sizeOf5
  v5 := Tryz.zeroValue5
  t9 := Tryz.underlying9
  a9 := Tryz.isAgg9
  z9 := Tryz.sizeOf9
  v9 := Tryz.zeroValue9
  t20 := Tryz.underlying20
  a20 := Tryz.isAgg20
  z20 := Tryz.sizeOf20
  v20 := Tryz.zeroValue20
  t37 := Tryz.underlying110
  a37 := Tryz.isAgg110
  z37 := Tryz.sizeOf110
  v37 := Tryz.zeroValue110
  t46 := Tryz.underlying57
  a46 := Tryz.isAgg57
  z46 := Tryz.sizeOf57
  v46 := Tryz.zeroValue57
  t51 := Tryz.underlying121
  a51 := Tryz.isAgg121
  z51 := Tryz.sizeOf121
  v51 := Tryz.zeroValue121
  t53 := Tryz.underlying118
  a53 := Tryz.isAgg118
  z53 := Tryz.sizeOf118
  v53 := Tryz.zeroValue118
  t70 := Tryz.underlying109
  a70 := Tryz.isAgg109
  z70 := Tryz.sizeOf109
  v70 := Tryz.zeroValue109
  t72 := Tryz.underlying112
  a72 := Tryz.isAgg112
  z72 := Tryz.sizeOf112
  v72 := Tryz.zeroValue112
  t75 := Tryz.underlying35
  a75 := Tryz.isAgg35
  z75 := Tryz.sizeOf35
  v75 := Tryz.zeroValue35
  t76 := Tryz.underlying114
  a76 := Tryz.isAgg114
  z76 := Tryz.sizeOf114
  v76 := Tryz.zeroValue114
  t109 := Tryz.underlying106
  a109 := Tryz.isAgg106
  z109 := Tryz.sizeOf106
  v109 := Tryz.zeroValue106
  t127 := Tryz.underlying126
  a127 := Tryz.isAgg126
  z127 := Tryz.sizeOf126
  v127 := Tryz.zeroValue126
  t146 := Tryz.underlying122
  a146 := Tryz.isAgg122
  z146 := Tryz.sizeOf122
  v146 := Tryz.zeroValue122
  t148 := Tryz.underlying124
  a148 := Tryz.isAgg124
  z148 := Tryz.sizeOf124
  v148 := Tryz.zeroValue124
  t164 := Tryz.underlying128
  a164 := Tryz.isAgg128
  z164 := Tryz.sizeOf128
  v164 := Tryz.zeroValue128 }
theorem Tryz.Builder_Extra_105 : Builder.Extra Tryz.prog Tryz.lays105_ren := {
  sizeBuilder := by kernel_rfl
  liesBuilder := by kernel_rfl
  t5 := Tryz.underlying5
  a5 := Tryz.isAgg5
  z5 := Tryz.sizeOf5
  v5 := Tryz.zeroValue5
  infoByte := by kernel_rfl
  cellsByte := by kernel_rfl
  sizeByte := by kernel_rfl
  neB5 := by decide }
open Go.RowKit Go.Lib in
/-- **strings.Repeat: count ≥ 0, the result within one allocation: count copies of s.** (LAID: no walk: one application.) -/
theorem Tryz.strings_Repeat (s : ByteArray) (c : Nat) (w : World) (hc : c ≤ 9223372036854775807) (hlen : s.size * c ≤ 140737488355328) :
    Calls Tryz.prog 29 #[.string s, .int .i64 c] w fun e w' => e = .returned (.string ⟨(Lib.repeatL s.data.toList c).toArray⟩) ∧ Below w.heap.size w w' := Any.strings_Repeat Tryz.lays105 Tryz.Builder_Extra_105 s c w hc hlen
end Go.Proofs
