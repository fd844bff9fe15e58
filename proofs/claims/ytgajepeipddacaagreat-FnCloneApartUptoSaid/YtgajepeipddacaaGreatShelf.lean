/- What strings.Join does, of the kit's shelf, at this program (written by the kit's lay-plain, cut down to what is used). -/
import Derived.Shelf.Strings.Builder1
import Derived.Shelf.Strings.Builder2
import Derived.Shelf.Strings.OnBuilder
import Derived.Shelf.Strings.BuilderF
import Derived.Shelf.Strings.BuilderK
import Derived.Shelf.Strings.Builder2Cap
import Derived.Shelf.Strings.BuilderCap
import Derived.Test.YtgajepeipddacaaGreatProg
namespace Go.Proofs
def Tryz.lays156_ren : Go.Shelf.Ren := ⟨fun | 156 => 103 | 165 => 129 | 166 => 130 | 169 => 131 | 240 => 142 | 241 => 143 | 276 => 151 | 277 => 152 | n => n, fun | 31 => 43 | 9 => 9 | 3 => 3 | 4 => 4 | 0 => 0 | 20 => 20 | 72 => 169 | 76 => 173 | 70 => 166 | 37 => 167 | 75 => 172 | 127 => 179 | 164 => 183 | 5 => 5 | 80 => 175 | n => n, fun | n => n⟩
theorem Tryz.lays156 : Go.Proofs.Lays.n156 Tryz.prog Tryz.lays156_ren := {
 mixed := by kernel_rfl
 f156 := Tryz.func103.trans (congrArg some (by kernel_rfl))
 f165 := Tryz.func129.trans (congrArg some (by kernel_rfl))
 f166 := Tryz.func130.trans (congrArg some (by kernel_rfl))
 f169 := Tryz.func131.trans (congrArg some (by kernel_rfl))
 f240 := Tryz.func142.trans (congrArg some (by kernel_rfl))
 f241 := Tryz.func143.trans (congrArg some (by kernel_rfl))
 f276 := Tryz.func151.trans (congrArg some (by kernel_rfl))
 f277 := Tryz.func152.trans (congrArg some (by kernel_rfl))
 t0 := Tryz.underlying0
 a0 := Tryz.isAgg0
 z0 := Tryz.sizeOf0
 v0 := Tryz.zeroValue0
 t3 := Tryz.underlying3
 a3 := Tryz.isAgg3
 z3 := Tryz.sizeOf3
 v3 := Tryz.zeroValue3
 t4 := Tryz.underlying4
 a4 := Tryz.isAgg4
 z4 := Tryz.sizeOf4
 v4 := Tryz.zeroValue4
 t9 := Tryz.underlying9
 a9 := Tryz.isAgg9
 z9 := Tryz.sizeOf9
 v9 := Tryz.zeroValue9
 t20 := Tryz.underlying20
 a20 := Tryz.isAgg20
 z20 := Tryz.sizeOf20
 v20 := Tryz.zeroValue20
 t31 := Tryz.underlying43
 a31 := Tryz.isAgg43
 z31 := Tryz.sizeOf43
 v31 := Tryz.zeroValue43
 t37 := Tryz.underlying167
 a37 := Tryz.isAgg167
 z37 := Tryz.sizeOf167
 v37 := Tryz.zeroValue167
 t70 := Tryz.underlying166
 a70 := Tryz.isAgg166
 z70 := Tryz.sizeOf166
 v70 := Tryz.zeroValue166
 t72 := Tryz.underlying169
 a72 := Tryz.isAgg169
 z72 := Tryz.sizeOf169
 v72 := Tryz.zeroValue169
 t75 := Tryz.underlying172
 a75 := Tryz.isAgg172
 z75 := Tryz.sizeOf172
 v75 := Tryz.zeroValue172
 t76 := Tryz.underlying173
 a76 := Tryz.isAgg173
 z76 := Tryz.sizeOf173
 v76 := Tryz.zeroValue173
 t127 := Tryz.underlying179
 a127 := Tryz.isAgg179
 z127 := Tryz.sizeOf179
 v127 := Tryz.zeroValue179
 t164 := Tryz.underlying183
 a164 := Tryz.isAgg183
 z164 := Tryz.sizeOf183
 v164 := Tryz.zeroValue183 }
theorem Tryz.Builder_Extra_156 : Builder.Extra Tryz.prog Tryz.lays156_ren := {
 sizeBuilder := by kernel_rfl
 liesBuilder := by kernel_rfl
 t5 := Tryz.underlying5
 a5 := Tryz.isAgg5
 z5 := Tryz.sizeOf5
 v5 := Tryz.zeroValue5
 infoByte := by kernel_rfl
 cellsByte := by kernel_rfl
 sizeByte := by kernel_rfl
 neB5 := by decide }
open Go.RowKit in
theorem Tryz.strings_Join (bk o c : Nat) (xs : List ByteArray) (sep : ByteArray) (w : World) (hcells : ∀ (j : Nat) x, xs[j]? = some x → w.cell? ⟨bk, o + j, none⟩ = some (.string x)) (hbk : bk < w.heap.size) (hN : xs.length ≤ 140737488355328) (hcap : xs.length ≤ c) (hlen : (Lib.join (xs.map (·.data.toList)) sep.data.toList).length ≤ 140737488355328) :
 Calls Tryz.prog 103 #[.slice (some ⟨bk, o, none⟩) xs.length c, .string sep] w fun e w' => e = .returned (.string ⟨(Lib.join (xs.map (·.data.toList)) sep.data.toList).toArray⟩) ∧ Below w.heap.size w w' := Any.strings_Join Tryz.lays156 Tryz.Builder_Extra_156 bk o c xs sep w hcells hbk hN hcap hlen
end Go.Proofs
