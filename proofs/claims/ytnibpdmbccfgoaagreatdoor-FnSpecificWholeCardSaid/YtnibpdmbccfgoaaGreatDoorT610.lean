/- (*parser).parseNth: the text behind its labels. -/
import Derived.Test.YtnibpdmbccfgoaaGreatDoorJ9
import Derived.Test.YtnibpdmbccfgoaaGreatDoorJ5
import Derived.Test.YtnibpdmbccfgoaaGreatDoorJ6
import Derived.Deep.DeepCutAuto
import Derived.Deep.CutBlock
namespace Go.Proofs.YtnibpdmbccfgoaaGreatDoor
open Go.RowKit
set_option linter.unusedVariables false

def isLN (c : Nat) : Prop := c = 110 ∨ c = 78

set_option maxRecDepth 100000 in
/-- A frame, written out. -/
theorem spread (T : Array Value) (h : T.size = 280) : ∃ U : Nat → Value, T = #[U 0, U 1, U 2, U 3, U 4, U 5, U 6, U 7, U 8, U 9, U 10, U 11, U 12, U 13, U 14, U 15, U 16, U 17, U 18, U 19, U 20, U 21, U 22, U 23, U 24, U 25, U 26, U 27, U 28, U 29, U 30, U 31, U 32, U 33, U 34, U 35, U 36, U 37, U 38, U 39, U 40, U 41, U 42, U 43, U 44, U 45, U 46, U 47, U 48, U 49, U 50, U 51, U 52, U 53, U 54, U 55, U 56, U 57, U 58, U 59, U 60, U 61, U 62, U 63, U 64, U 65, U 66, U 67, U 68, U 69, U 70, U 71, U 72, U 73, U 74, U 75, U 76, U 77, U 78, U 79, U 80, U 81, U 82, U 83, U 84, U 85, U 86, U 87, U 88, U 89, U 90, U 91, U 92, U 93, U 94, U 95, U 96, U 97, U 98, U 99, U 100, U 101, U 102, U 103, U 104, U 105, U 106, U 107, U 108, U 109, U 110, U 111, U 112, U 113, U 114, U 115, U 116, U 117, U 118, U 119, U 120, U 121, U 122, U 123, U 124, U 125, U 126, U 127, U 128, U 129, U 130, U 131, U 132, U 133, U 134, U 135, U 136, U 137, U 138, U 139, U 140, U 141, U 142, U 143, U 144, U 145, U 146, U 147, U 148, U 149, U 150, U 151, U 152, U 153, U 154, U 155, U 156, U 157, U 158, U 159, U 160, U 161, U 162, U 163, U 164, U 165, U 166, U 167, U 168, U 169, U 170, U 171, U 172, U 173, U 174, U 175, U 176, U 177, U 178, U 179, U 180, U 181, U 182, U 183, U 184, U 185, U 186, U 187, U 188, U 189, U 190, U 191, U 192, U 193, U 194, U 195, U 196, U 197, U 198, U 199, U 200, U 201, U 202, U 203, U 204, U 205, U 206, U 207, U 208, U 209, U 210, U 211, U 212, U 213, U 214, U 215, U 216, U 217, U 218, U 219, U 220, U 221, U 222, U 223, U 224, U 225, U 226, U 227, U 228, U 229, U 230, U 231, U 232, U 233, U 234, U 235, U 236, U 237, U 238, U 239, U 240, U 241, U 242, U 243, U 244, U 245, U 246, U 247, U 248, U 249, U 250, U 251, U 252, U 253, U 254, U 255, U 256, U 257, U 258, U 259, U 260, U 261, U 262, U 263, U 264, U 265, U 266, U 267, U 268, U 269, U 270, U 271, U 272, U 273, U 274, U 275, U 276, U 277, U 278, U 279] ∧ ∀ i, U i = T.getD i undef := by
  refine ⟨fun i => T.getD i undef, ?_, fun _ => rfl⟩
  apply Array.ext
  · rw [h]; rfl
  · intro i h1 h2
    have h3 : (List.range 280).map (fun i => T.getD i undef) = #[T.getD 0 undef, T.getD 1 undef, T.getD 2 undef, T.getD 3 undef, T.getD 4 undef, T.getD 5 undef, T.getD 6 undef, T.getD 7 undef, T.getD 8 undef, T.getD 9 undef, T.getD 10 undef, T.getD 11 undef, T.getD 12 undef, T.getD 13 undef, T.getD 14 undef, T.getD 15 undef, T.getD 16 undef, T.getD 17 undef, T.getD 18 undef, T.getD 19 undef, T.getD 20 undef, T.getD 21 undef, T.getD 22 undef, T.getD 23 undef, T.getD 24 undef, T.getD 25 undef, T.getD 26 undef, T.getD 27 undef, T.getD 28 undef, T.getD 29 undef, T.getD 30 undef, T.getD 31 undef, T.getD 32 undef, T.getD 33 undef, T.getD 34 undef, T.getD 35 undef, T.getD 36 undef, T.getD 37 undef, T.getD 38 undef, T.getD 39 undef, T.getD 40 undef, T.getD 41 undef, T.getD 42 undef, T.getD 43 undef, T.getD 44 undef, T.getD 45 undef, T.getD 46 undef, T.getD 47 undef, T.getD 48 undef, T.getD 49 undef, T.getD 50 undef, T.getD 51 undef, T.getD 52 undef, T.getD 53 undef, T.getD 54 undef, T.getD 55 undef, T.getD 56 undef, T.getD 57 undef, T.getD 58 undef, T.getD 59 undef, T.getD 60 undef, T.getD 61 undef, T.getD 62 undef, T.getD 63 undef, T.getD 64 undef, T.getD 65 undef, T.getD 66 undef, T.getD 67 undef, T.getD 68 undef, T.getD 69 undef, T.getD 70 undef, T.getD 71 undef, T.getD 72 undef, T.getD 73 undef, T.getD 74 undef, T.getD 75 undef, T.getD 76 undef, T.getD 77 undef, T.getD 78 undef, T.getD 79 undef, T.getD 80 undef, T.getD 81 undef, T.getD 82 undef, T.getD 83 undef, T.getD 84 undef, T.getD 85 undef, T.getD 86 undef, T.getD 87 undef, T.getD 88 undef, T.getD 89 undef, T.getD 90 undef, T.getD 91 undef, T.getD 92 undef, T.getD 93 undef, T.getD 94 undef, T.getD 95 undef, T.getD 96 undef, T.getD 97 undef, T.getD 98 undef, T.getD 99 undef, T.getD 100 undef, T.getD 101 undef, T.getD 102 undef, T.getD 103 undef, T.getD 104 undef, T.getD 105 undef, T.getD 106 undef, T.getD 107 undef, T.getD 108 undef, T.getD 109 undef, T.getD 110 undef, T.getD 111 undef, T.getD 112 undef, T.getD 113 undef, T.getD 114 undef, T.getD 115 undef, T.getD 116 undef, T.getD 117 undef, T.getD 118 undef, T.getD 119 undef, T.getD 120 undef, T.getD 121 undef, T.getD 122 undef, T.getD 123 undef, T.getD 124 undef, T.getD 125 undef, T.getD 126 undef, T.getD 127 undef, T.getD 128 undef, T.getD 129 undef, T.getD 130 undef, T.getD 131 undef, T.getD 132 undef, T.getD 133 undef, T.getD 134 undef, T.getD 135 undef, T.getD 136 undef, T.getD 137 undef, T.getD 138 undef, T.getD 139 undef, T.getD 140 undef, T.getD 141 undef, T.getD 142 undef, T.getD 143 undef, T.getD 144 undef, T.getD 145 undef, T.getD 146 undef, T.getD 147 undef, T.getD 148 undef, T.getD 149 undef, T.getD 150 undef, T.getD 151 undef, T.getD 152 undef, T.getD 153 undef, T.getD 154 undef, T.getD 155 undef, T.getD 156 undef, T.getD 157 undef, T.getD 158 undef, T.getD 159 undef, T.getD 160 undef, T.getD 161 undef, T.getD 162 undef, T.getD 163 undef, T.getD 164 undef, T.getD 165 undef, T.getD 166 undef, T.getD 167 undef, T.getD 168 undef, T.getD 169 undef, T.getD 170 undef, T.getD 171 undef, T.getD 172 undef, T.getD 173 undef, T.getD 174 undef, T.getD 175 undef, T.getD 176 undef, T.getD 177 undef, T.getD 178 undef, T.getD 179 undef, T.getD 180 undef, T.getD 181 undef, T.getD 182 undef, T.getD 183 undef, T.getD 184 undef, T.getD 185 undef, T.getD 186 undef, T.getD 187 undef, T.getD 188 undef, T.getD 189 undef, T.getD 190 undef, T.getD 191 undef, T.getD 192 undef, T.getD 193 undef, T.getD 194 undef, T.getD 195 undef, T.getD 196 undef, T.getD 197 undef, T.getD 198 undef, T.getD 199 undef, T.getD 200 undef, T.getD 201 undef, T.getD 202 undef, T.getD 203 undef, T.getD 204 undef, T.getD 205 undef, T.getD 206 undef, T.getD 207 undef, T.getD 208 undef, T.getD 209 undef, T.getD 210 undef, T.getD 211 undef, T.getD 212 undef, T.getD 213 undef, T.getD 214 undef, T.getD 215 undef, T.getD 216 undef, T.getD 217 undef, T.getD 218 undef, T.getD 219 undef, T.getD 220 undef, T.getD 221 undef, T.getD 222 undef, T.getD 223 undef, T.getD 224 undef, T.getD 225 undef, T.getD 226 undef, T.getD 227 undef, T.getD 228 undef, T.getD 229 undef, T.getD 230 undef, T.getD 231 undef, T.getD 232 undef, T.getD 233 undef, T.getD 234 undef, T.getD 235 undef, T.getD 236 undef, T.getD 237 undef, T.getD 238 undef, T.getD 239 undef, T.getD 240 undef, T.getD 241 undef, T.getD 242 undef, T.getD 243 undef, T.getD 244 undef, T.getD 245 undef, T.getD 246 undef, T.getD 247 undef, T.getD 248 undef, T.getD 249 undef, T.getD 250 undef, T.getD 251 undef, T.getD 252 undef, T.getD 253 undef, T.getD 254 undef, T.getD 255 undef, T.getD 256 undef, T.getD 257 undef, T.getD 258 undef, T.getD 259 undef, T.getD 260 undef, T.getD 261 undef, T.getD 262 undef, T.getD 263 undef, T.getD 264 undef, T.getD 265 undef, T.getD 266 undef, T.getD 267 undef, T.getD 268 undef, T.getD 269 undef, T.getD 270 undef, T.getD 271 undef, T.getD 272 undef, T.getD 273 undef, T.getD 274 undef, T.getD 275 undef, T.getD 276 undef, T.getD 277 undef, T.getD 278 undef, T.getD 279 undef].toList := rfl
    have h4 : #[T.getD 0 undef, T.getD 1 undef, T.getD 2 undef, T.getD 3 undef, T.getD 4 undef, T.getD 5 undef, T.getD 6 undef, T.getD 7 undef, T.getD 8 undef, T.getD 9 undef, T.getD 10 undef, T.getD 11 undef, T.getD 12 undef, T.getD 13 undef, T.getD 14 undef, T.getD 15 undef, T.getD 16 undef, T.getD 17 undef, T.getD 18 undef, T.getD 19 undef, T.getD 20 undef, T.getD 21 undef, T.getD 22 undef, T.getD 23 undef, T.getD 24 undef, T.getD 25 undef, T.getD 26 undef, T.getD 27 undef, T.getD 28 undef, T.getD 29 undef, T.getD 30 undef, T.getD 31 undef, T.getD 32 undef, T.getD 33 undef, T.getD 34 undef, T.getD 35 undef, T.getD 36 undef, T.getD 37 undef, T.getD 38 undef, T.getD 39 undef, T.getD 40 undef, T.getD 41 undef, T.getD 42 undef, T.getD 43 undef, T.getD 44 undef, T.getD 45 undef, T.getD 46 undef, T.getD 47 undef, T.getD 48 undef, T.getD 49 undef, T.getD 50 undef, T.getD 51 undef, T.getD 52 undef, T.getD 53 undef, T.getD 54 undef, T.getD 55 undef, T.getD 56 undef, T.getD 57 undef, T.getD 58 undef, T.getD 59 undef, T.getD 60 undef, T.getD 61 undef, T.getD 62 undef, T.getD 63 undef, T.getD 64 undef, T.getD 65 undef, T.getD 66 undef, T.getD 67 undef, T.getD 68 undef, T.getD 69 undef, T.getD 70 undef, T.getD 71 undef, T.getD 72 undef, T.getD 73 undef, T.getD 74 undef, T.getD 75 undef, T.getD 76 undef, T.getD 77 undef, T.getD 78 undef, T.getD 79 undef, T.getD 80 undef, T.getD 81 undef, T.getD 82 undef, T.getD 83 undef, T.getD 84 undef, T.getD 85 undef, T.getD 86 undef, T.getD 87 undef, T.getD 88 undef, T.getD 89 undef, T.getD 90 undef, T.getD 91 undef, T.getD 92 undef, T.getD 93 undef, T.getD 94 undef, T.getD 95 undef, T.getD 96 undef, T.getD 97 undef, T.getD 98 undef, T.getD 99 undef, T.getD 100 undef, T.getD 101 undef, T.getD 102 undef, T.getD 103 undef, T.getD 104 undef, T.getD 105 undef, T.getD 106 undef, T.getD 107 undef, T.getD 108 undef, T.getD 109 undef, T.getD 110 undef, T.getD 111 undef, T.getD 112 undef, T.getD 113 undef, T.getD 114 undef, T.getD 115 undef, T.getD 116 undef, T.getD 117 undef, T.getD 118 undef, T.getD 119 undef, T.getD 120 undef, T.getD 121 undef, T.getD 122 undef, T.getD 123 undef, T.getD 124 undef, T.getD 125 undef, T.getD 126 undef, T.getD 127 undef, T.getD 128 undef, T.getD 129 undef, T.getD 130 undef, T.getD 131 undef, T.getD 132 undef, T.getD 133 undef, T.getD 134 undef, T.getD 135 undef, T.getD 136 undef, T.getD 137 undef, T.getD 138 undef, T.getD 139 undef, T.getD 140 undef, T.getD 141 undef, T.getD 142 undef, T.getD 143 undef, T.getD 144 undef, T.getD 145 undef, T.getD 146 undef, T.getD 147 undef, T.getD 148 undef, T.getD 149 undef, T.getD 150 undef, T.getD 151 undef, T.getD 152 undef, T.getD 153 undef, T.getD 154 undef, T.getD 155 undef, T.getD 156 undef, T.getD 157 undef, T.getD 158 undef, T.getD 159 undef, T.getD 160 undef, T.getD 161 undef, T.getD 162 undef, T.getD 163 undef, T.getD 164 undef, T.getD 165 undef, T.getD 166 undef, T.getD 167 undef, T.getD 168 undef, T.getD 169 undef, T.getD 170 undef, T.getD 171 undef, T.getD 172 undef, T.getD 173 undef, T.getD 174 undef, T.getD 175 undef, T.getD 176 undef, T.getD 177 undef, T.getD 178 undef, T.getD 179 undef, T.getD 180 undef, T.getD 181 undef, T.getD 182 undef, T.getD 183 undef, T.getD 184 undef, T.getD 185 undef, T.getD 186 undef, T.getD 187 undef, T.getD 188 undef, T.getD 189 undef, T.getD 190 undef, T.getD 191 undef, T.getD 192 undef, T.getD 193 undef, T.getD 194 undef, T.getD 195 undef, T.getD 196 undef, T.getD 197 undef, T.getD 198 undef, T.getD 199 undef, T.getD 200 undef, T.getD 201 undef, T.getD 202 undef, T.getD 203 undef, T.getD 204 undef, T.getD 205 undef, T.getD 206 undef, T.getD 207 undef, T.getD 208 undef, T.getD 209 undef, T.getD 210 undef, T.getD 211 undef, T.getD 212 undef, T.getD 213 undef, T.getD 214 undef, T.getD 215 undef, T.getD 216 undef, T.getD 217 undef, T.getD 218 undef, T.getD 219 undef, T.getD 220 undef, T.getD 221 undef, T.getD 222 undef, T.getD 223 undef, T.getD 224 undef, T.getD 225 undef, T.getD 226 undef, T.getD 227 undef, T.getD 228 undef, T.getD 229 undef, T.getD 230 undef, T.getD 231 undef, T.getD 232 undef, T.getD 233 undef, T.getD 234 undef, T.getD 235 undef, T.getD 236 undef, T.getD 237 undef, T.getD 238 undef, T.getD 239 undef, T.getD 240 undef, T.getD 241 undef, T.getD 242 undef, T.getD 243 undef, T.getD 244 undef, T.getD 245 undef, T.getD 246 undef, T.getD 247 undef, T.getD 248 undef, T.getD 249 undef, T.getD 250 undef, T.getD 251 undef, T.getD 252 undef, T.getD 253 undef, T.getD 254 undef, T.getD 255 undef, T.getD 256 undef, T.getD 257 undef, T.getD 258 undef, T.getD 259 undef, T.getD 260 undef, T.getD 261 undef, T.getD 262 undef, T.getD 263 undef, T.getD 264 undef, T.getD 265 undef, T.getD 266 undef, T.getD 267 undef, T.getD 268 undef, T.getD 269 undef, T.getD 270 undef, T.getD 271 undef, T.getD 272 undef, T.getD 273 undef, T.getD 274 undef, T.getD 275 undef, T.getD 276 undef, T.getD 277 undef, T.getD 278 undef, T.getD 279 undef] = ((List.range 280).map (fun i => T.getD i undef)).toArray := rfl
    simp only [h4, List.getElem_toArray, List.getElem_map, List.getElem_range]
    rw [Array.getD_eq_getD_getElem?, Array.getElem?_eq_getElem h1]; rfl

/-- How parseNth ends. -/
def NthNo (s : ByteArray) (g : Nat) (D P : Value) (B : Nat) (W : World) (e : Ending) (w' : World) : Prop :=
  ∃ (v : Value) (i : Nat), ErrV v ∧ e = .returned (.tuple #[.int .i64 0, .int .i64 0, v]) ∧ PrX s g i D P B W w'
def NthYes (s : ByteArray) (g : Nat) (D P : Value) (B : Nat) (W : World) (a b : Int) (i : Nat) (e : Ending) (w' : World) : Prop :=
  e = .returned (.tuple #[.int .i64 a, .int .i64 b, .nilIface]) ∧ PrX s g i D P B W w'
def NthR (s : ByteArray) (g : Nat) (D P : Value) (B : Nat) (W : World) : Option (Int × Int × Nat) → Ending → World → Prop
  | none => NthNo s g D P B W
  | some (a, b, i) => NthYes s g D P B W a b i

abbrev NthV (R : Ending → World → Prop) (C : Code) (Z : Nat → Exit → Act → World → Prop) : Prop := IsNth C ∧ Via Tryz.prog C (bodyPost Tryz.prog Tryz.f58 R) Z

set_option maxRecDepth 100000 in
set_option maxHeartbeats 2000000 in
theorem nth_eof (s : ByteArray) (g i : Nat) (D P : Value) (B : Nat) (W w : World) (R : Ending → World → Prop) (C : Code) (Z : Nat → Exit → Act → World → Prop) (n : Nat) (h : NthV R C Z) (T : Array Value) (hT : T.size = 280)
    (hp : PrX s g i D P B W w) (hR : ∀ e w', NthNo s g D P B W e w' → R e w') : Z (n + 1) (.goto 0) ⟨T, []⟩ w := by
  obtain ⟨hC, HV⟩ := h
  obtain ⟨U, rfl, hU⟩ := spread T hT
  obtain ⟨r, hr⟩ := hC
  obtain ⟨r0, hr0⟩ : ∃ r0, Tryz.f58.body = some (.seq r0 (.scope _)) := ⟨_, rfl⟩
  obtain rfl := (Code.scope.inj (Code.seq.inj (Option.some.inj (hr.symm.trans hr0))).2)
  refine HV.jump n 0 _ _ w rfl ?_
  clear hr hr0
  have HR := Lib.hid hR
  have HP := Lib.hid hp
  have HU := Lib.hid hU
  have HZ := Lib.hid HV.ret
  clear hR hp hU HV hT
  go_wp2_with fail
  refine (errNew_any _ _).mono ?_
  rintro e1 w1 ⟨v, ⟨pp, rfl⟩, rfl, hb⟩
  have HB := Lib.hid hb
  clear hb
  go_wp2_with fail
  refine HZ.out _ _ _ ?_
  go_ret3
  exact HR.out _ _ ⟨_, i, ⟨pp, rfl⟩, rfl, HP.out.next HB.out⟩
set_option maxRecDepth 100000 in
set_option maxHeartbeats 2000000 in
theorem nth_inv (s : ByteArray) (g i : Nat) (D P : Value) (B : Nat) (W w : World) (R : Ending → World → Prop) (C : Code) (Z : Nat → Exit → Act → World → Prop) (n : Nat) (h : NthV R C Z) (T : Array Value) (hT : T.size = 280)
    (hp : PrX s g i D P B W w) (hR : ∀ e w', NthNo s g D P B W e w' → R e w') : Z (n + 1) (.goto 4) ⟨T, []⟩ w := by
  obtain ⟨hC, HV⟩ := h
  obtain ⟨U, rfl, hU⟩ := spread T hT
  obtain ⟨r, hr⟩ := hC
  obtain ⟨r0, hr0⟩ : ∃ r0, Tryz.f58.body = some (.seq r0 (.scope _)) := ⟨_, rfl⟩
  obtain rfl := (Code.scope.inj (Code.seq.inj (Option.some.inj (hr.symm.trans hr0))).2)
  refine HV.jump n 4 _ _ w rfl ?_
  clear hr hr0
  have HR := Lib.hid hR
  have HP := Lib.hid hp
  have HU := Lib.hid hU
  have HZ := Lib.hid HV.ret
  clear hR hp hU HV hT
  go_wp2_with fail
  refine (errNew_any _ _).mono ?_
  rintro e1 w1 ⟨v, ⟨pp, rfl⟩, rfl, hb⟩
  have HB := Lib.hid hb
  clear hb
  go_wp2_with fail
  refine HZ.out _ _ _ ?_
  go_ret3
  exact HR.out _ _ ⟨_, i, ⟨pp, rfl⟩, rfl, HP.out.next HB.out⟩

/-- What stands behind n. -/
def RN (s : ByteArray) (m : Nat) (a : Int) (r : Option (Int × Int × Nat)) : Prop :=
  ∃ e, Sk s m e ∧ ((e = s.size ∧ r = none) ∨ (e < s.size ∧ bAt s e ≠ 43 ∧ bAt s e ≠ 45 ∧ r = some (a, 0, e)) ∨
    (e < s.size ∧ (bAt s e = 43 ∨ bAt s e = 45) ∧ ∃ e2 j2, Sk s (e + 1) e2 ∧ DgTo s e2 j2 ∧ (j2 = 0 → r = none) ∧
      (0 < j2 → r = some (a, (if bAt s e = 45 then -(dgV s e2 j2 : Int) else (dgV s e2 j2 : Int)), e2 + j2))))

theorem dgTo_ex (s : ByteArray) (k : Nat) (hk : k ≤ s.size) : ∃ j, DgTo s k j := by
  have key : ∀ d i, d = s.size - (k + i) → k + i ≤ s.size → (∀ x, x < i → isDg (bAt s (k + x)) = true) → ∃ j, DgTo s k j := by
    intro d
    induction d with
    | zero => intro i h1 h2 h3; exact ⟨i, h2, h3, by rw [bAt_out (by omega)]; rfl⟩
    | succ d ih =>
      intro i h1 h2 h3
      cases hb : isDg (bAt s (k + i))
      · exact ⟨i, h2, h3, hb⟩
      · refine ih (i + 1) (by omega) (by omega) (fun x hx => ?_)
        by_cases q : x < i
        · exact h3 x q
        · obtain rfl : x = i := by omega
          exact hb
  exact key _ 0 rfl hk (fun x hx => absurd hx (Nat.not_lt_zero x))

set_option maxRecDepth 100000 in
set_option maxHeartbeats 4000000 in
theorem nth_n (s : ByteArray) (g m : Nat) (D P : Value) (B : Nat) (W w : World) (R : Ending → World → Prop) (C : Code) (Z : Nat → Exit → Act → World → Prop) (n : Nat) (h : NthV R C Z) (T : Array Value) (hT : T.size = 280) (a : Int)
    (h0 : T.getD 0 undef = .pointer (some ⟨g, 0, none⟩)) (h2 : T.getD 2 undef = .int .i64 a) (hs : s.size ≤ 100000) (hm : m ≤ s.size)
    (hsm : ∀ e e2 j2, Sk s m e → (bAt s e = 43 ∨ bAt s e = 45) → Sk s (e + 1) e2 → DgTo s e2 j2 → dgC s e2 j2 < 100000)
    (hp : PrX s g m D P B W w) (hR : ∀ r e w', RN s m a r → NthR s g D P B W r e w' → R e w') : Z (n + 2) (.goto 3) ⟨T, []⟩ w := by
  have HN := Lib.hid h
  obtain ⟨hC, HV⟩ := h
  obtain ⟨U, rfl, hU⟩ := spread T hT
  rw [← hU 0] at h0
  rw [← hU 2] at h2
  rw [h0, h2]
  obtain ⟨r, hr⟩ := hC
  obtain ⟨r0, hr0⟩ : ∃ r0, Tryz.f58.body = some (.seq r0 (.scope _)) := ⟨_, rfl⟩
  obtain rfl := (Code.scope.inj (Code.seq.inj (Option.some.inj (hr.symm.trans hr0))).2)
  refine HV.jump (n + 1) 3 _ _ w rfl ?_
  clear hr hr0
  have HR := Lib.hid hR
  have HP := Lib.hid hp
  have HZ := Lib.hid HV.ret
  have HSm := Lib.hid hsm
  clear hR hp hU HV hT h0 h2 hsm
  go_wp2_with fail
  refine (pSkip_any s g m D P B W w hs hm HP.out).mono ?_
  rintro e1 w1 ⟨e, rfl, hk, hr⟩
  have HR1 := Lib.hid hr
  have HK := Lib.hid hk
  have he := hk.2.1
  have c0 := hr.c0
  have c1 := hr.c1
  clear hk hr
  by_cases hlt : e < s.size
  · have hb := bAt_in hlt
    by_cases h43 : s[e].toNat = 43
    · have m43 : ((s[e].toNat : Int) == 43) = true := beq_iff_eq.2 (by omega)
      have HC : Hid (bAt s e = 43) := by rw [Hid, hb]; exact h43
      clear hb h43
      go_wp2_with fail
      go_quiet (fail)
      go_wp2_with fail
      go_quiet (fail)
      have f1 := HR1.out.fz 1
      have HS : Hid (∀ U q x, x = ((e + 1 : Nat) : Int) → PrX s g e D P B W U → PrX s g (e + 1) D P B W ((U.drewN q).setCell ⟨g, 1, none⟩ (.int .i64 x))) := fun U q x hx h => (h.drew q).setI _ _ hx
      go_wp2_with fail
      refine (pSkip_any s g (e + 1) D P B W _ hs (by omega) (HS.out _ _ _ (by omega) HR1.out)).mono ?_
      rintro e1 w2 ⟨e2, rfl, hk2, hr2⟩
      have HR2 := Lib.hid hr2
      have HK2 := Lib.hid hk2
      have he2 := hk2.2.1
      obtain ⟨j2, hj2⟩ := dgTo_ex s e2 he2
      have HJ := Lib.hid hj2
      have hsm := HSm.out e e2 j2 HK.out (.inl HC.out) hk2 hj2
      have hInt := pInteger_any s g e2 j2 D P B W w2 hs hj2 hsm hr2
      have HInt := Lib.hid hInt
      have hv : dgV s e2 j2 < 100000 := by rw [← dgC_eq s e2 j2 hsm]; exact hsm
      have HRN : Hid (∀ r, (j2 = 0 → r = none) → (0 < j2 → r = some (a, (dgV s e2 j2 : Int), e2 + j2)) → RN s m a r) := fun r q1 q2 =>
        ⟨e, HK.out, .inr (.inr ⟨hlt, (.inl HC.out), e2, j2, HK2.out, HJ.out, q1, fun q => by rw [if_neg (by rw [HC.out]; decide)]; exact q2 q⟩)⟩
      clear c0 c1 f1 hk2 hr2 hj2 hsm hInt
      go_wp2_with fail
      refine HInt.out.mono ?_
      rintro e1 w3 (⟨h0, v, ⟨pp, rfl⟩, rfl, hr3⟩ | ⟨h0, rfl, hr3⟩)
      · have HR3 := Lib.hid hr3
        have H0 := Lib.hid h0
        clear hr3 h0
        go_wp2_with fail
        refine HZ.out _ _ _ ?_
        go_ret3
        exact HR.out none _ _ (HRN.out _ (fun _ => rfl) (fun q => absurd H0.out (by omega))) ⟨_, _, ⟨pp, rfl⟩, rfl, HR3.out⟩
      · have HR3 := Lib.hid hr3
        obtain ⟨V, hV⟩ : ∃ V : Int, V = ((dgV s e2 j2 : Nat) : Int) := ⟨_, rfl⟩
        have hV1 : 0 ≤ V ∧ V < 100000 := by omega
        obtain ⟨hV1, hV2⟩ := hV1
        rw [← hV] at HRN ⊢
        clear hr3 hV hv
        go_wp2_with fail
        refine HZ.out _ _ _ ?_
        go_ret3
        exact HR.out (some _) _ _ (HRN.out _ (fun q => absurd q (by omega)) (fun _ => rfl)) ⟨rfl, HR3.out⟩
    · have m43 : ((s[e].toNat : Int) == 43) = false := beq_eq_false_iff_ne.2 (by omega)
      by_cases h45 : s[e].toNat = 45
      · have m45 : ((s[e].toNat : Int) == 45) = true := beq_iff_eq.2 (by omega)
        have HC : Hid (bAt s e = 45) := by rw [Hid, hb]; exact h45
        clear hb h43 h45
        go_wp2_with fail
        go_quiet (fail)
        go_wp2_with fail
        go_quiet (fail)
        have f1 := HR1.out.fz 1
        have HS : Hid (∀ U q x, x = ((e + 1 : Nat) : Int) → PrX s g e D P B W U → PrX s g (e + 1) D P B W ((U.drewN q).setCell ⟨g, 1, none⟩ (.int .i64 x))) := fun U q x hx h => (h.drew q).setI _ _ hx
        go_wp2_with fail
        refine (pSkip_any s g (e + 1) D P B W _ hs (by omega) (HS.out _ _ _ (by omega) HR1.out)).mono ?_
        rintro e1 w2 ⟨e2, rfl, hk2, hr2⟩
        have HR2 := Lib.hid hr2
        have HK2 := Lib.hid hk2
        have he2 := hk2.2.1
        obtain ⟨j2, hj2⟩ := dgTo_ex s e2 he2
        have HJ := Lib.hid hj2
        have hsm := HSm.out e e2 j2 HK.out (.inr HC.out) hk2 hj2
        have hInt := pInteger_any s g e2 j2 D P B W w2 hs hj2 hsm hr2
        have HInt := Lib.hid hInt
        have hv : dgV s e2 j2 < 100000 := by rw [← dgC_eq s e2 j2 hsm]; exact hsm
        have HRN : Hid (∀ r, (j2 = 0 → r = none) → (0 < j2 → r = some (a, (-(dgV s e2 j2 : Int)), e2 + j2)) → RN s m a r) := fun r q1 q2 =>
          ⟨e, HK.out, .inr (.inr ⟨hlt, (.inr HC.out), e2, j2, HK2.out, HJ.out, q1, fun q => by rw [if_pos HC.out]; exact q2 q⟩)⟩
        clear c0 c1 f1 hk2 hr2 hj2 hsm hInt
        go_wp2_with fail
        refine HInt.out.mono ?_
        rintro e1 w3 (⟨h0, v, ⟨pp, rfl⟩, rfl, hr3⟩ | ⟨h0, rfl, hr3⟩)
        · have HR3 := Lib.hid hr3
          have H0 := Lib.hid h0
          clear hr3 h0
          go_wp2_with fail
          refine HZ.out _ _ _ ?_
          go_ret3
          exact HR.out none _ _ (HRN.out _ (fun _ => rfl) (fun q => absurd H0.out (by omega))) ⟨_, _, ⟨pp, rfl⟩, rfl, HR3.out⟩
        · have HR3 := Lib.hid hr3
          obtain ⟨V, hV⟩ : ∃ V : Int, V = ((dgV s e2 j2 : Nat) : Int) := ⟨_, rfl⟩
          have hV1 : 0 ≤ V ∧ V < 100000 := by omega
          obtain ⟨hV1, hV2⟩ := hV1
          rw [← hV] at HRN ⊢
          clear hr3 hV hv
          go_wp2_with fail
          refine HZ.out _ _ _ ?_
          go_ret3
          exact HR.out (some _) _ _ (HRN.out _ (fun q => absurd q (by omega)) (fun _ => rfl)) ⟨rfl, HR3.out⟩
      · have m45 : ((s[e].toNat : Int) == 45) = false := beq_eq_false_iff_ne.2 (by omega)
        have HRN : Hid (RN s m a (some (a, 0, e))) := ⟨e, HK.out, .inr (.inl ⟨hlt, by rw [hb]; exact h43, by rw [hb]; exact h45, rfl⟩)⟩
        clear hb h43 h45
        go_wp2_with fail
        go_quiet (fail)
        go_wp2_with fail
        go_quiet (fail)
        go_wp2_with fail
        refine HZ.out _ _ _ ?_
        go_ret3
        exact HR.out (some _) _ _ HRN.out ⟨rfl, HR1.out.drew _⟩
  · go_wp2_with fail
    go_quiet (fail)
    go_wp2_with fail
    go_step3
    go_wp2_with fail
    have hee : e = s.size := by omega
    exact nth_eof s g e D P B W _ R _ Z n HN.out _ rfl (HR1.out.drew _) (fun e' w' hno => HR.out none e' w' ⟨e, HK.out, .inl ⟨hee, rfl⟩⟩ hno)

end Go.Proofs.YtnibpdmbccfgoaaGreatDoor
