/-
  DERIVED: THE SHELF's CONTRACTS AT THIS DUMP, IN PLAIN WORDS (tools/lay-plain.mjs out of 'TryzShelf.lean', which tools/lay-shelf.mjs wrote): THE SAME DECLARATIONS UNDER THE SAME NAMES: 'import', 'namespace', 'open', 'def', 'theorem' AND NOTHING ELSE: no command of the shelf's: FOR A HAND-IN. Each laying: the table of numbers ('.._ren') and one theorem, a field a fact of the dump's own or the kernel's comparison; each contract: ONE APPLICATION.
-/
import Derived.Shelf.Strings.Builder1
import Derived.Shelf.Strings.Builder2
import Derived.Shelf.Strings.BuilderF
import Derived.Shelf.Strings.BuilderK
import Derived.Shelf.Strings.Builder2Cap
import Derived.Shelf.Strconv.Atoi
import Derived.Shelf.Strconv.Itoa0
import Derived.Shelf.Strconv.Itoa1
import Derived.Shelf.LaysM
import Derived.Shelf.Strconv.Itoa2
import Derived.Shelf.Strconv.Itoa3
import Derived.Shelf.Strconv.AtoiErrFast
import Derived.Shelf.Strconv.ParseIntEmpty
import Derived.Shelf.Strconv.AtoiFail
import Derived.Shelf.Strconv.Clone
import Derived.Shelf.Strconv.SyntaxError
import Derived.Shelf.LaysC
import Derived.Shelf.Strconv.ToError
import Derived.Shelf.Strconv.Lower
import Derived.Shelf.Strconv.ParseUint10
import Derived.Shelf.Strconv.ParseUint10Empty
import Derived.Shelf.Strconv.ParseUint10Any
import Derived.Shelf.Strconv.ParseInt10
import Derived.Shelf.Strconv.AtoiLong
import Derived.Shelf.Strconv.AtoiInnerAll
import Derived.Shelf.Strconv.RangeError
import Derived.Shelf.Strconv.ToErrorRange
import Derived.Shelf.Strconv.AtoiAll
import Derived.Shelf.Strconv.ParseUintEmpty
import Derived.Shelf.Strconv.ParseUint10b64
import Derived.Shelf.Strconv.ParseUint10b32
import Derived.Shelf.Strconv.ParseUint10b16
import Derived.Shelf.Strconv.ParseUint10b8
import Derived.Shelf.Strings.Prefix
import Derived.Shelf.Bits.Mul64
import Derived.Shelf.Strings.Repeat
import Derived.Test.YtnibpdmbccfgoaaGreatDoorProg
namespace Go.Proofs
def Tryz.laysC172_ren : Go.Shelf.Ren := ⟨fun | 172 => 73 | 244 => 80 | 245 => 79 | 247 => 89 | 279 => 85 | 280 => 86 | 281 => 87 | 282 => 88 | 287 => 78 | 316 => 90 | 171 => 91 | 205 => 21 | 321 => 83 | 322 => 84 | 243 => 92 | 246 => 93 | 283 => 94 | 284 => 95 | 285 => 96 | 286 => 97 | 129 => 99 | 317 => 98 | 318 => 100 | 319 => 101 | 320 => 102 | 337 => 103 | 338 => 104 | n => n, fun | 9 => 9 | 3 => 3 | 75 => 38 | 76 => 126 | 4 => 4 | 5 => 5 | 167 => 150 | 37 => 70 | 0 => 0 | 85 => 155 | 2 => 2 | 168 => 152 | 53 => 137 | 175 => 138 | 46 => 95 | 210 => 158 | 127 => 145 | 145 => 65 | 143 => 63 | 21 => 21 | 171 => 160 | 173 => 163 | 212 => 167 | 51 => 140 | 20 => 20 | 213 => 168 | 232 => 171 | 233 => 172 | 80 => 136 | n => n, fun | 15 => 4 | 16 => 5 | 17 => 6 | 18 => 7 | 19 => 8 | n => n⟩
theorem Tryz.laysC172 : Go.Proofs.LaysC.n172 Tryz.prog Tryz.laysC172_ren := {
  mixed := by kernel_rfl
  f129 := Tryz.func99.trans (congrArg some (by kernel_rfl))
  f171 := Tryz.func91.trans (congrArg some (by kernel_rfl))
  f172 := Tryz.func73.trans (congrArg some (by kernel_rfl))
  f205 := Tryz.func21.trans (congrArg some (by kernel_rfl))
  f243 := Tryz.func92.trans (congrArg some (by kernel_rfl))
  f244 := Tryz.func80.trans (congrArg some (by kernel_rfl))
  f245 := Tryz.func79.trans (congrArg some (by kernel_rfl))
  f246 := Tryz.func93.trans (congrArg some (by kernel_rfl))
  f247 := Tryz.func89.trans (congrArg some (by kernel_rfl))
  f279 := Tryz.func85.trans (congrArg some (by kernel_rfl))
  f280 := Tryz.func86.trans (congrArg some (by kernel_rfl))
  f281 := Tryz.func87.trans (congrArg some (by kernel_rfl))
  f282 := Tryz.func88.trans (congrArg some (by kernel_rfl))
  f283 := Tryz.func94.trans (congrArg some (by kernel_rfl))
  f284 := Tryz.func95.trans (congrArg some (by kernel_rfl))
  f285 := Tryz.func96.trans (congrArg some (by kernel_rfl))
  f286 := Tryz.func97.trans (congrArg some (by kernel_rfl))
  f287 := Tryz.func78.trans (congrArg some (by kernel_rfl))
  f316 := Tryz.func90.trans (congrArg some (by kernel_rfl))
  f317 := Tryz.func98.trans (congrArg some (by kernel_rfl))
  f318 := Tryz.func100.trans (congrArg some (by kernel_rfl))
  f319 := Tryz.func101.trans (congrArg some (by kernel_rfl))
  f320 := Tryz.func102.trans (congrArg some (by kernel_rfl))
  f321 := Tryz.func83.trans (congrArg some (by kernel_rfl))
  f322 := Tryz.func84.trans (congrArg some (by kernel_rfl))
  f337 := Tryz.func103.trans (congrArg some (by kernel_rfl))
  f338 := Tryz.func104.trans (congrArg some (by kernel_rfl))
  t0 := Tryz.underlying0
  a0 := Tryz.isAgg0
  z0 := Tryz.sizeOf0
  v0 := Tryz.zeroValue0
  t2 := Tryz.underlying2
  a2 := Tryz.isAgg2
  z2 := Tryz.sizeOf2
  v2 := Tryz.zeroValue2
  t3 := Tryz.underlying3
  a3 := Tryz.isAgg3
  z3 := Tryz.sizeOf3
  v3 := Tryz.zeroValue3
  t4 := Tryz.underlying4
  a4 := Tryz.isAgg4
  z4 := Tryz.sizeOf4
  v4 := Tryz.zeroValue4
  t5 := Tryz.underlying5
  a5 := Tryz.isAgg5
  z5 := Tryz.sizeOf5
  v5 := Tryz.zeroValue5
  t9 := Tryz.underlying9
  a9 := Tryz.isAgg9
  z9 := Tryz.sizeOf9
  v9 := Tryz.zeroValue9
  t20 := Tryz.underlying20
  a20 := Tryz.isAgg20
  z20 := Tryz.sizeOf20
  v20 := Tryz.zeroValue20
  t21 := Tryz.underlying21
  a21 := Tryz.isAgg21
  z21 := Tryz.sizeOf21
  v21 := Tryz.zeroValue21
  t37 := Tryz.underlying70
  a37 := Tryz.isAgg70
  z37 := Tryz.sizeOf70
  v37 := Tryz.zeroValue70
  t46 := Tryz.underlying95
  a46 := Tryz.isAgg95
  z46 := Tryz.sizeOf95
  v46 := Tryz.zeroValue95
  t51 := Tryz.underlying140
  a51 := Tryz.isAgg140
  z51 := Tryz.sizeOf140
  v51 := Tryz.zeroValue140
  t53 := Tryz.underlying137
  a53 := Tryz.isAgg137
  z53 := Tryz.sizeOf137
  v53 := Tryz.zeroValue137
  t75 := Tryz.underlying38
  a75 := Tryz.isAgg38
  z75 := Tryz.sizeOf38
  v75 := Tryz.zeroValue38
  t76 := Tryz.underlying126
  a76 := Tryz.isAgg126
  z76 := Tryz.sizeOf126
  v76 := Tryz.zeroValue126
  t85 := Tryz.underlying155
  a85 := Tryz.isAgg155
  z85 := Tryz.sizeOf155
  v85 := Tryz.zeroValue155
  t127 := Tryz.underlying145
  a127 := Tryz.isAgg145
  z127 := Tryz.sizeOf145
  v127 := Tryz.zeroValue145
  t143 := Tryz.underlying63
  a143 := Tryz.isAgg63
  z143 := Tryz.sizeOf63
  v143 := Tryz.zeroValue63
  t145 := Tryz.underlying65
  a145 := Tryz.isAgg65
  z145 := Tryz.sizeOf65
  v145 := Tryz.zeroValue65
  t167 := Tryz.underlying150
  a167 := Tryz.isAgg150
  z167 := Tryz.sizeOf150
  v167 := Tryz.zeroValue150
  t168 := Tryz.underlying152
  a168 := Tryz.isAgg152
  z168 := Tryz.sizeOf152
  v168 := Tryz.zeroValue152
  t171 := Tryz.underlying160
  a171 := Tryz.isAgg160
  z171 := Tryz.sizeOf160
  v171 := Tryz.zeroValue160
  t173 := Tryz.underlying163
  a173 := Tryz.isAgg163
  z173 := Tryz.sizeOf163
  v173 := Tryz.zeroValue163
  t175 := Tryz.underlying138
  a175 := Tryz.isAgg138
  z175 := Tryz.sizeOf138
  v175 := Tryz.zeroValue138
  t210 := Tryz.underlying158
  a210 := Tryz.isAgg158
  z210 := Tryz.sizeOf158
  v210 := Tryz.zeroValue158
  t212 := Tryz.underlying167
  a212 := Tryz.isAgg167
  z212 := Tryz.sizeOf167
  v212 := Tryz.zeroValue167
  t213 := Tryz.underlying168
  a213 := Tryz.isAgg168
  z213 := Tryz.sizeOf168
  t232 := Tryz.underlying171
  a232 := Tryz.isAgg171
  z232 := Tryz.sizeOf171
  v232 := Tryz.zeroValue171
  t233 := Tryz.underlying172
  a233 := Tryz.isAgg172
  z233 := Tryz.sizeOf172
  v233 := Tryz.zeroValue172
  g15 := by kernel_rfl
  g16 := by kernel_rfl
  g17 := by kernel_rfl
  g18 := by kernel_rfl
  g19 := by kernel_rfl
  t80 := Tryz.underlying136
  a80 := Tryz.isAgg136
  z80 := Tryz.sizeOf136
  v80 := Tryz.zeroValue136
  i0 := by kernel_rfl
  i2 := by kernel_rfl
  i3 := by kernel_rfl
  i4 := by kernel_rfl
  i5 := by kernel_rfl
  i9 := by kernel_rfl
  i20 := by kernel_rfl
  i21 := by kernel_rfl
  i37 := by kernel_rfl
  i46 := by kernel_rfl
  i51 := by kernel_rfl
  i53 := by kernel_rfl
  i75 := by kernel_rfl
  i76 := by kernel_rfl
  i80 := by kernel_rfl
  i85 := by kernel_rfl
  i127 := by kernel_rfl
  i143 := by kernel_rfl
  i145 := by kernel_rfl
  i167 := by kernel_rfl
  i168 := by kernel_rfl
  i171 := by kernel_rfl
  i173 := by kernel_rfl
  i175 := by kernel_rfl
  i210 := by kernel_rfl
  i212 := by kernel_rfl
  i232 := by kernel_rfl
  i233 := by kernel_rfl
  m15 := by kernel_rfl
  m16 := by kernel_rfl
  m17 := by kernel_rfl
  m18 := by kernel_rfl
  m19 := by kernel_rfl
  c0 := by kernel_rfl
  c2 := by kernel_rfl
  c3 := by kernel_rfl
  c4 := by kernel_rfl
  c5 := by kernel_rfl
  c9 := by kernel_rfl
  c20 := by kernel_rfl
  c21 := by kernel_rfl
  c37 := by kernel_rfl
  c46 := by kernel_rfl
  c51 := by kernel_rfl
  c53 := by kernel_rfl
  c75 := by kernel_rfl
  c76 := by kernel_rfl
  c80 := by kernel_rfl
  c85 := by kernel_rfl
  c127 := by kernel_rfl
  c143 := by kernel_rfl
  c145 := by kernel_rfl
  c167 := by kernel_rfl
  c168 := by kernel_rfl
  c171 := by kernel_rfl
  c173 := by kernel_rfl
  c175 := by kernel_rfl
  c210 := by kernel_rfl
  c212 := by kernel_rfl
  c213 := by kernel_rfl
  c232 := by kernel_rfl
  c233 := by kernel_rfl }
open Go.RowKit in
/-- strconv.Atoi, AT EVERY STRING THAT SPELLS AN int ('Lib.atoiAll .. = .ok v'; of whatever length: leading zeros count): v, AND NO ERROR. The world: as it was, or with the one new row that '[]byte(..)' lays. (LAID: no walk: one application.) -/
theorem Tryz.strconv_Atoi_ok (s : ByteArray) (hmax : s.size ≤ 9223372036854775806) (v : Int) (h : Lib.atoiAll s.data.toList = .ok v) (w : World) :
    Calls Tryz.prog 73 #[.string s] w fun e w' => e = .returned (.tuple #[.int .i64 v, .nilIface]) ∧ (w' = w ∨ ∃ t, w' = Lib.bytesWorld w 5 t) := Any.strconv_Atoi_ok Tryz.laysC172 s hmax v h w
def Tryz.lays99_ren : Go.Shelf.Ren := ⟨fun | 99 => 38 | 206 => 49 | n => n, fun | 9 => 9 | 4 => 4 | 3 => 3 | n => n, fun | n => n⟩
theorem Tryz.lays99 : Go.Proofs.Lays.n99 Tryz.prog Tryz.lays99_ren := {
  mixed := by kernel_rfl
  f99 := Tryz.func38.trans (congrArg some (by kernel_rfl))
  f206 := Tryz.func49.trans (congrArg some (by kernel_rfl))
  t3 := Tryz.underlying3
  a3 := Tryz.isAgg3
  z3 := Tryz.sizeOf3
  v3 := Tryz.zeroValue3
  t4 := Tryz.underlying4
  a4 := Tryz.isAgg4
  z4 := Tryz.sizeOf4
  v4 := Tryz.zeroValue4
  t9 := Tryz.underlying9
  a9 := Tryz.isAgg9
  z9 := Tryz.sizeOf9
  v9 := Tryz.zeroValue9 }
open Go.RowKit Go.Lib in
/-- strings.HasPrefix: "HasPrefix reports whether the string s begins with prefix.": IT RETURNS 'Lib.hasPrefix s prefix'; the world is as it was. (LAID: no walk: one application.) -/
theorem Tryz.strings_HasPrefix (s p : ByteArray) (w : World) :
    Calls Tryz.prog 38 #[.string s, .string p] w fun e w' => e = .returned (.bool (Lib.hasPrefix s.data.toList p.data.toList)) ∧ w' = w := Any.strings_HasPrefix Tryz.lays99 s p w
def Tryz.lays105_ren : Go.Shelf.Ren := ⟨fun | 105 => 61 | 212 => 66 | 99 => 38 | 165 => 67 | 166 => 68 | 170 => 69 | 169 => 70 | 263 => 74 | 264 => 75 | 206 => 49 | 240 => 76 | 241 => 77 | 276 => 81 | 277 => 82 | n => n, fun | 9 => 9 | 3 => 3 | 4 => 4 | 20 => 20 | 0 => 0 | 46 => 95 | 109 => 128 | 5 => 5 | 72 => 132 | 76 => 126 | 51 => 140 | 146 => 141 | 53 => 137 | 148 => 143 | 70 => 130 | 37 => 70 | 75 => 38 | 127 => 145 | 164 => 147 | 80 => 136 | n => n, fun | n => n⟩
theorem Tryz.lays105 : Go.Proofs.Lays.n105 Tryz.prog Tryz.lays105_ren := {
  mixed := by kernel_rfl
  f99 := Tryz.func38.trans (congrArg some (by kernel_rfl))
  f105 := Tryz.func61.trans (congrArg some (by kernel_rfl))
  f165 := Tryz.func67.trans (congrArg some (by kernel_rfl))
  f166 := Tryz.func68.trans (congrArg some (by kernel_rfl))
  f169 := Tryz.func70.trans (congrArg some (by kernel_rfl))
  f170 := Tryz.func69.trans (congrArg some (by kernel_rfl))
  f206 := Tryz.func49.trans (congrArg some (by kernel_rfl))
  f212 := Tryz.func66.trans (congrArg some (by kernel_rfl))
  f240 := Tryz.func76.trans (congrArg some (by kernel_rfl))
  f241 := Tryz.func77.trans (congrArg some (by kernel_rfl))
  f263 := Tryz.func74.trans (congrArg some (by kernel_rfl))
  f264 := Tryz.func75.trans (congrArg some (by kernel_rfl))
  f276 := Tryz.func81.trans (congrArg some (by kernel_rfl))
  f277 := Tryz.func82.trans (congrArg some (by kernel_rfl))
  t0 := Tryz.underlying0
  a0 := Tryz.isAgg0
  z0 := Tryz.sizeOf0
  v0 := Tryz.zeroValue0
  t3 := Tryz.underlying3
  a3 := Tryz.isAgg3
  z3 := Tryz.sizeOf3
  v3 := Tryz.zeroValue3
  t4 := Tryz.underlying4
  a4 := Tryz.isAgg4
  z4 := Tryz.sizeOf4
  v4 := Tryz.zeroValue4
  t5 := Tryz.underlying5
  a5 := Tryz.isAgg5
  z5 := Tryz.sizeOf5
  v5 := Tryz.zeroValue5
  t9 := Tryz.underlying9
  a9 := Tryz.isAgg9
  z9 := Tryz.sizeOf9
  v9 := Tryz.zeroValue9
  t20 := Tryz.underlying20
  a20 := Tryz.isAgg20
  z20 := Tryz.sizeOf20
  v20 := Tryz.zeroValue20
  t37 := Tryz.underlying70
  a37 := Tryz.isAgg70
  z37 := Tryz.sizeOf70
  v37 := Tryz.zeroValue70
  t46 := Tryz.underlying95
  a46 := Tryz.isAgg95
  z46 := Tryz.sizeOf95
  v46 := Tryz.zeroValue95
  t51 := Tryz.underlying140
  a51 := Tryz.isAgg140
  z51 := Tryz.sizeOf140
  v51 := Tryz.zeroValue140
  t53 := Tryz.underlying137
  a53 := Tryz.isAgg137
  z53 := Tryz.sizeOf137
  v53 := Tryz.zeroValue137
  t70 := Tryz.underlying130
  a70 := Tryz.isAgg130
  z70 := Tryz.sizeOf130
  v70 := Tryz.zeroValue130
  t72 := Tryz.underlying132
  a72 := Tryz.isAgg132
  z72 := Tryz.sizeOf132
  v72 := Tryz.zeroValue132
  t75 := Tryz.underlying38
  a75 := Tryz.isAgg38
  z75 := Tryz.sizeOf38
  v75 := Tryz.zeroValue38
  t76 := Tryz.underlying126
  a76 := Tryz.isAgg126
  z76 := Tryz.sizeOf126
  v76 := Tryz.zeroValue126
  t109 := Tryz.underlying128
  a109 := Tryz.isAgg128
  z109 := Tryz.sizeOf128
  v109 := Tryz.zeroValue128
  t127 := Tryz.underlying145
  a127 := Tryz.isAgg145
  z127 := Tryz.sizeOf145
  v127 := Tryz.zeroValue145
  t146 := Tryz.underlying141
  a146 := Tryz.isAgg141
  z146 := Tryz.sizeOf141
  v146 := Tryz.zeroValue141
  t148 := Tryz.underlying143
  a148 := Tryz.isAgg143
  z148 := Tryz.sizeOf143
  v148 := Tryz.zeroValue143
  t164 := Tryz.underlying147
  a164 := Tryz.isAgg147
  z164 := Tryz.sizeOf147
  v164 := Tryz.zeroValue147 }
theorem Tryz.Builder_Extra_105 : Builder.Extra Tryz.prog Tryz.lays105_ren := {
  sizeBuilder := by kernel_rfl
  liesBuilder := by kernel_rfl
  t5 := Tryz.underlying5
  a5 := Tryz.isAgg5
  z5 := Tryz.sizeOf5
  v5 := Tryz.zeroValue5
  infoByte := by kernel_rfl
  cellsByte := by kernel_rfl
  sizeByte := by kernel_rfl
  neB5 := by decide }
open Go.RowKit Go.Lib in
/-- **strings.Repeat: count ≥ 0, the result within one allocation: count copies of s.** (LAID: no walk: one application.) -/
theorem Tryz.strings_Repeat (s : ByteArray) (c : Nat) (w : World) (hc : c ≤ 9223372036854775807) (hlen : s.size * c ≤ 140737488355328) :
    Calls Tryz.prog 61 #[.string s, .int .i64 c] w fun e w' => e = .returned (.string ⟨(Lib.repeatL s.data.toList c).toArray⟩) ∧ Below w.heap.size w w' := Any.strings_Repeat Tryz.lays105 Tryz.Builder_Extra_105 s c w hc hlen
end Go.Proofs
