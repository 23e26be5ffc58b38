/- The library's contracts at this program: a starting text of the kit's tools (lay-shelf, lay-plain), those that are used. Part 18 of 51 of the proof that FnMultiPointBody returns true for every text and every type of coordinates, where the listed variables hold what the text of the program lays. -/
import Derived.Shelf.Utf8.AppendRune
import Derived.Shelf.Strconv.IsPrint
import Derived.Shelf.Strconv.IsPrint16
import Derived.Shelf.Strconv.IsPrint32
import Derived.Ground.FneProg
import Derived.Shelf.Strconv.NumErrorText
import Derived.Shelf.LaysM
import Derived.Shelf.Bytes.GrowSliceCatch
import Derived.Shelf.Bytes.GrowSlice
import Derived.Shelf.Strconv.Clone
import Derived.Shelf.Strconv.SyntaxError
import Derived.Shelf.LaysC
import Derived.Shelf.Strconv.ToError
import Derived.Shelf.Strconv.RangeError
import Derived.Shelf.Strconv.ToErrorRange
import Derived.Shelf.Bytes.ResetKept
import Derived.Shelf.Bytes.LenAt
import Derived.Shelf.Bytes.StringAt
import Derived.Shelf.Bytes.TryGrowAt
import Derived.Shelf.Bytes.GrowRow0At
import Derived.Shelf.Bytes.GrowRowAt
import Derived.Shelf.Bytes.GrowNilAt
import Derived.Shelf.Bytes.GrowAt
import Derived.Shelf.Bytes.WriteAt
import Derived.Test.YtlckfiflfkbofaaGreatDoorProg
set_option linter.all false

/- The library's contracts at this program: a starting text of the kit's tools (lay-shelf, lay-plain), those that are used. -/
namespace Go.Proofs
open Go.Shelf
def Tryz.lays242_ren : Go.Shelf.Ren := ⟨fun | 242 => 203 | 278 => 207 | n => n, fun | 37 => 88 | 21 => 21 | 51 => 193 | 4 => 4 | 5 => 5 | 46 => 94 | n => n, fun | n => n⟩
theorem Tryz.lays242 : Go.Proofs.Lays.n242 Tryz.prog Tryz.lays242_ren := {
  mixed := by kernel_rfl
  f242 := Tryz.func203.trans (congrArg some (by kernel_rfl))
  f278 := Tryz.func207.trans (congrArg some (by kernel_rfl))
  t4 := Tryz.underlying4
  a4 := Tryz.isAgg4
  z4 := Tryz.sizeOf4
  v4 := Tryz.zeroValue4
  t5 := Tryz.underlying5
  a5 := Tryz.isAgg5
  z5 := Tryz.sizeOf5
  v5 := Tryz.zeroValue5
  t21 := Tryz.underlying21
  a21 := Tryz.isAgg21
  z21 := Tryz.sizeOf21
  v21 := Tryz.zeroValue21
  t37 := Tryz.underlying88
  a37 := Tryz.isAgg88
  z37 := Tryz.sizeOf88
  v37 := Tryz.zeroValue88
  t46 := Tryz.underlying94
  a46 := Tryz.isAgg94
  z46 := Tryz.sizeOf94
  v46 := Tryz.zeroValue94
  t51 := Tryz.underlying193
  a51 := Tryz.isAgg193
  z51 := Tryz.sizeOf193
  v51 := Tryz.zeroValue193 }
open Go.RowKit in
/-- unicode/utf8.AppendRune: "AppendRune appends the UTF-8 encoding of r to the end of p and returns the extended buffer. If the rune is out of range, it appends the encoding of RuneError.": ONTO A ROW OF BYTES THAT THE CALL OWNS (its head frozen or not): EVERY int32: 'Lib.runeCells r' goes in behind what the row holds; the world: one new block (the bytes as the call's variadic argument), then what 'append' does to the row. (LAID: no walk: one application.) -/
theorem Tryz.utf8_AppendRune_row (B : Nat) (v : Value) (n : Nat) (xs : List Value) (r : Int) (hr0 : -2147483648 ≤ r) (hr1 : r ≤ 2147483647) (w : World) (hown : w.ownsRowF B 5 1 v n xs) (hlen : n + 4 ≤ 140737488355328) (hBw : B ≤ w.heap.size) :
    Calls Tryz.prog 203 #[v, .int .i32 r] w fun e w' => ∃ v', e = .returned v' ∧ w'.ownsRowF B 5 1 v' (n + (Lib.runeCells r).length) (xs ++ Lib.runeCells r) ∧ ∃ o, (w.alloc o).grownBy w' v.ownBlock := Any.utf8_AppendRune_row Tryz.lays242 (by kernel_rfl) B v n xs r hr0 hr1 w hown hlen hBw
def Tryz.lays339_ren : Go.Shelf.Ren := ⟨fun | 339 => 201 | 345 => 205 | 346 => 206 | n => n, fun | 21 => 21 | 4 => 4 | 49 => 272 | 234 => 273 | 131 => 162 | 3 => 3 | 0 => 0 | 51 => 193 | 236 => 275 | 46 => 94 | n => n, fun | 20 => 19 | 21 => 20 | 22 => 21 | 23 => 22 | n => n⟩
theorem Tryz.lays339 : Go.Proofs.Lays.n339 Tryz.prog Tryz.lays339_ren := {
  mixed := by kernel_rfl
  f339 := Tryz.func201.trans (congrArg some (by kernel_rfl))
  f345 := Tryz.func205.trans (congrArg some (by kernel_rfl))
  f346 := Tryz.func206.trans (congrArg some (by kernel_rfl))
  t0 := Tryz.underlying0
  a0 := Tryz.isAgg0
  z0 := Tryz.sizeOf0
  v0 := Tryz.zeroValue0
  t3 := Tryz.underlying3
  a3 := Tryz.isAgg3
  z3 := Tryz.sizeOf3
  v3 := Tryz.zeroValue3
  t4 := Tryz.underlying4
  a4 := Tryz.isAgg4
  z4 := Tryz.sizeOf4
  v4 := Tryz.zeroValue4
  t21 := Tryz.underlying21
  a21 := Tryz.isAgg21
  z21 := Tryz.sizeOf21
  v21 := Tryz.zeroValue21
  t46 := Tryz.underlying94
  a46 := Tryz.isAgg94
  z46 := Tryz.sizeOf94
  v46 := Tryz.zeroValue94
  t49 := Tryz.underlying272
  a49 := Tryz.isAgg272
  z49 := Tryz.sizeOf272
  v49 := Tryz.zeroValue272
  t51 := Tryz.underlying193
  a51 := Tryz.isAgg193
  z51 := Tryz.sizeOf193
  v51 := Tryz.zeroValue193
  t131 := Tryz.underlying162
  a131 := Tryz.isAgg162
  z131 := Tryz.sizeOf162
  v131 := Tryz.zeroValue162
  t234 := Tryz.underlying273
  a234 := Tryz.isAgg273
  z234 := Tryz.sizeOf273
  v234 := Tryz.zeroValue273
  t236 := Tryz.underlying275
  a236 := Tryz.isAgg275
  z236 := Tryz.sizeOf275
  v236 := Tryz.zeroValue275
  g20 := by kernel_rfl
  g21 := by kernel_rfl
  g22 := by kernel_rfl
  g23 := by kernel_rfl }
open Go.RowKit in
/-- strconv.IsPrint AT r ≤ 0xFF, negative ones too ('Fast check for Latin-1'): no table is read; nothing turns. (LAID: no walk: one application.) -/
theorem Tryz.strconv_IsPrint_latin (r : Int) (w : World) (hr : r ≤ 255) :
    Calls Tryz.prog 201 #[.int .i32 r] w fun e w' => e = .returned (.bool (Lib.isPrintLatin r)) ∧ w' = w := Any.strconv_IsPrint_latin Tryz.lays339 r w hr
def Tryz.laysFn4_ren : Go.Shelf.Ren := ⟨fun | 4 => 194 | 5 => 195 | 6 => 196 | 7 => 197 | 8 => 198 | 9 => 199 | 10 => 200 | 11 => 201 | 12 => 202 | 13 => 203 | 14 => 204 | 15 => 205 | 16 => 206 | 17 => 207 | n => n, fun | 22 => 168 | 9 => 9 | 0 => 0 | 28 => 183 | 26 => 43 | 5 => 5 | 4 => 4 | 3 => 3 | 31 => 88 | 21 => 21 | 33 => 156 | 35 => 94 | 39 => 171 | 42 => 174 | 41 => 173 | 43 => 272 | 44 => 273 | 45 => 162 | 47 => 193 | 48 => 275 | 23 => 140 | n => n, fun | 0 => 3 | 1 => 4 | 2 => 19 | 3 => 20 | 4 => 21 | 5 => 22 | 6 => 23 | n => n⟩
theorem Tryz.laysFn4 : Go.Proofs.LaysFn.n4 Tryz.prog Tryz.laysFn4_ren := {
  mixed := by kernel_rfl
  f4 := Tryz.func194.trans (congrArg some (by kernel_rfl))
  f5 := Tryz.func195.trans (congrArg some (by kernel_rfl))
  f6 := Tryz.func196.trans (congrArg some (by kernel_rfl))
  f7 := Tryz.func197.trans (congrArg some (by kernel_rfl))
  f8 := Tryz.func198.trans (congrArg some (by kernel_rfl))
  f9 := Tryz.func199.trans (congrArg some (by kernel_rfl))
  f10 := Tryz.func200.trans (congrArg some (by kernel_rfl))
  f11 := Tryz.func201.trans (congrArg some (by kernel_rfl))
  f12 := Tryz.func202.trans (congrArg some (by kernel_rfl))
  f13 := Tryz.func203.trans (congrArg some (by kernel_rfl))
  f14 := Tryz.func204.trans (congrArg some (by kernel_rfl))
  f15 := Tryz.func205.trans (congrArg some (by kernel_rfl))
  f16 := Tryz.func206.trans (congrArg some (by kernel_rfl))
  f17 := Tryz.func207.trans (congrArg some (by kernel_rfl))
  t0 := Tryz.underlying0
  a0 := Tryz.isAgg0
  z0 := Tryz.sizeOf0
  v0 := Tryz.zeroValue0
  i0 := by kernel_rfl
  t3 := Tryz.underlying3
  a3 := Tryz.isAgg3
  z3 := Tryz.sizeOf3
  v3 := Tryz.zeroValue3
  i3 := by kernel_rfl
  t4 := Tryz.underlying4
  a4 := Tryz.isAgg4
  z4 := Tryz.sizeOf4
  v4 := Tryz.zeroValue4
  i4 := by kernel_rfl
  t5 := Tryz.underlying5
  a5 := Tryz.isAgg5
  z5 := Tryz.sizeOf5
  v5 := Tryz.zeroValue5
  i5 := by kernel_rfl
  t9 := Tryz.underlying9
  a9 := Tryz.isAgg9
  z9 := Tryz.sizeOf9
  v9 := Tryz.zeroValue9
  i9 := by kernel_rfl
  t21 := Tryz.underlying21
  a21 := Tryz.isAgg21
  z21 := Tryz.sizeOf21
  v21 := Tryz.zeroValue21
  i21 := by kernel_rfl
  t22 := Tryz.underlying168
  a22 := Tryz.isAgg168
  z22 := Tryz.sizeOf168
  v22 := Tryz.zeroValue168
  i22 := by kernel_rfl
  t23 := Tryz.underlying140
  a23 := Tryz.isAgg140
  z23 := Tryz.sizeOf140
  v23 := Tryz.zeroValue140
  i23 := by kernel_rfl
  t26 := Tryz.underlying43
  a26 := Tryz.isAgg43
  z26 := Tryz.sizeOf43
  v26 := Tryz.zeroValue43
  i26 := by kernel_rfl
  t28 := Tryz.underlying183
  a28 := Tryz.isAgg183
  z28 := Tryz.sizeOf183
  v28 := Tryz.zeroValue183
  i28 := by kernel_rfl
  t31 := Tryz.underlying88
  a31 := Tryz.isAgg88
  z31 := Tryz.sizeOf88
  v31 := Tryz.zeroValue88
  i31 := by kernel_rfl
  t33 := Tryz.underlying156
  a33 := Tryz.isAgg156
  z33 := Tryz.sizeOf156
  v33 := Tryz.zeroValue156
  i33 := by kernel_rfl
  t35 := Tryz.underlying94
  a35 := Tryz.isAgg94
  z35 := Tryz.sizeOf94
  v35 := Tryz.zeroValue94
  i35 := by kernel_rfl
  t39 := Tryz.underlying171
  a39 := Tryz.isAgg171
  z39 := Tryz.sizeOf171
  t41 := Tryz.underlying173
  a41 := Tryz.isAgg173
  z41 := Tryz.sizeOf173
  v41 := Tryz.zeroValue173
  i41 := by kernel_rfl
  t42 := Tryz.underlying174
  a42 := Tryz.isAgg174
  z42 := Tryz.sizeOf174
  v42 := Tryz.zeroValue174
  i42 := by kernel_rfl
  t43 := Tryz.underlying272
  a43 := Tryz.isAgg272
  z43 := Tryz.sizeOf272
  v43 := Tryz.zeroValue272
  i43 := by kernel_rfl
  t44 := Tryz.underlying273
  a44 := Tryz.isAgg273
  z44 := Tryz.sizeOf273
  v44 := Tryz.zeroValue273
  i44 := by kernel_rfl
  t45 := Tryz.underlying162
  a45 := Tryz.isAgg162
  z45 := Tryz.sizeOf162
  v45 := Tryz.zeroValue162
  i45 := by kernel_rfl
  t47 := Tryz.underlying193
  a47 := Tryz.isAgg193
  z47 := Tryz.sizeOf193
  v47 := Tryz.zeroValue193
  i47 := by kernel_rfl
  t48 := Tryz.underlying275
  a48 := Tryz.isAgg275
  z48 := Tryz.sizeOf275
  v48 := Tryz.zeroValue275
  i48 := by kernel_rfl
  g0 := by kernel_rfl
  m0 := by kernel_rfl
  g1 := by kernel_rfl
  m1 := by kernel_rfl
  g2 := by kernel_rfl
  m2 := by kernel_rfl
  g3 := by kernel_rfl
  m3 := by kernel_rfl
  g4 := by kernel_rfl
  m4 := by kernel_rfl
  g5 := by kernel_rfl
  m5 := by kernel_rfl
  g6 := by kernel_rfl
  m6 := by kernel_rfl }
open Go.RowKit Go.Sort in
theorem Tryz.NumError_Error (b o : Nat) (fn num q txt : ByteArray) (u : TypeId) (v0 : Value) (g : FuncId) (rv : Value) (w : World) (c0 : w.cell? ⟨b, o, none⟩ = some (.string fn)) (c1 : w.cell? ⟨b, o + 1, none⟩ = some (.string num)) (c2 : w.cell? ⟨b, o + 2, none⟩ = some (.iface u v0)) (hsum : fn.size + q.size + txt.size + 20 ≤ 9223372036854775807) (hQ : ∀ W, Below w.heap.size w W → Calls Tryz.prog 195 #[.string num] W fun e w' => e = .returned (.string q) ∧ Below W.heap.size W w') (hm : ∀ W, (method (Tryz.prog.types.size + 100) u v0 "Error").run Tryz.prog W = .ok (g, rv) W) (eg : ∀ args W, (callFunc g args).run Tryz.prog W = .ok (.enter g args) W) (hE : ∀ W, Below w.heap.size w W → Calls Tryz.prog g #[rv] W fun e w' => e = .returned (.string txt) ∧ Below W.heap.size W w') :
    Calls Tryz.prog 194 #[.pointer (some ⟨b, o, none⟩)] w fun e w' => e = .returned (.string ("strconv.".toUTF8 ++ fn ++ ": ".toUTF8 ++ "parsing ".toUTF8 ++ q ++ ": ".toUTF8 ++ txt)) ∧ Below w.heap.size w w' := Any.NumError_Error Tryz.laysFn4 b o fn num q txt u v0 g rv w c0 c1 c2 hsum hQ hm eg hE
def Tryz.laysC245_ren : Go.Shelf.Ren := ⟨fun | 245 => 91 | 279 => 105 | 280 => 106 | 281 => 107 | 282 => 108 | 316 => 116 | 171 => 118 | 205 => 117 | 243 => 134 | 246 => 151 | 283 => 156 | 284 => 157 | 285 => 158 | 286 => 159 | 129 => 140 | 317 => 162 | 318 => 144 | 319 => 163 | 320 => 164 | 337 => 165 | 338 => 166 | n => n, fun | 9 => 9 | 3 => 3 | 75 => 43 | 167 => 167 | 4 => 4 | 168 => 168 | 210 => 183 | 37 => 88 | 0 => 0 | 127 => 208 | 145 => 211 | 143 => 209 | 2 => 2 | 171 => 240 | 53 => 83 | 5 => 5 | 173 => 242 | 212 => 249 | 51 => 193 | 20 => 20 | 213 => 250 | 46 => 94 | 232 => 253 | 233 => 254 | 80 => 140 | n => n, fun | 15 => 6 | 16 => 7 | 17 => 16 | 18 => 17 | 19 => 18 | n => n⟩
theorem Tryz.laysC245 : Go.Proofs.LaysC.n245 Tryz.prog Tryz.laysC245_ren := {
  mixed := by kernel_rfl
  f129 := Tryz.func140.trans (congrArg some (by kernel_rfl))
  f171 := Tryz.func118.trans (congrArg some (by kernel_rfl))
  f205 := Tryz.func117.trans (congrArg some (by kernel_rfl))
  f243 := Tryz.func134.trans (congrArg some (by kernel_rfl))
  f245 := Tryz.func91.trans (congrArg some (by kernel_rfl))
  f246 := Tryz.func151.trans (congrArg some (by kernel_rfl))
  f279 := Tryz.func105.trans (congrArg some (by kernel_rfl))
  f280 := Tryz.func106.trans (congrArg some (by kernel_rfl))
  f281 := Tryz.func107.trans (congrArg some (by kernel_rfl))
  f282 := Tryz.func108.trans (congrArg some (by kernel_rfl))
  f283 := Tryz.func156.trans (congrArg some (by kernel_rfl))
  f284 := Tryz.func157.trans (congrArg some (by kernel_rfl))
  f285 := Tryz.func158.trans (congrArg some (by kernel_rfl))
  f286 := Tryz.func159.trans (congrArg some (by kernel_rfl))
  f316 := Tryz.func116.trans (congrArg some (by kernel_rfl))
  f317 := Tryz.func162.trans (congrArg some (by kernel_rfl))
  f318 := Tryz.func144.trans (congrArg some (by kernel_rfl))
  f319 := Tryz.func163.trans (congrArg some (by kernel_rfl))
  f320 := Tryz.func164.trans (congrArg some (by kernel_rfl))
  f337 := Tryz.func165.trans (congrArg some (by kernel_rfl))
  f338 := Tryz.func166.trans (congrArg some (by kernel_rfl))
  t0 := Tryz.underlying0
  a0 := Tryz.isAgg0
  z0 := Tryz.sizeOf0
  v0 := Tryz.zeroValue0
  t2 := Tryz.underlying2
  a2 := Tryz.isAgg2
  z2 := Tryz.sizeOf2
  v2 := Tryz.zeroValue2
  t3 := Tryz.underlying3
  a3 := Tryz.isAgg3
  z3 := Tryz.sizeOf3
  v3 := Tryz.zeroValue3
  t4 := Tryz.underlying4
  a4 := Tryz.isAgg4
  z4 := Tryz.sizeOf4
  v4 := Tryz.zeroValue4
  t5 := Tryz.underlying5
  a5 := Tryz.isAgg5
  z5 := Tryz.sizeOf5
  v5 := Tryz.zeroValue5
  t9 := Tryz.underlying9
  a9 := Tryz.isAgg9
  z9 := Tryz.sizeOf9
  v9 := Tryz.zeroValue9
  t20 := Tryz.underlying20
  a20 := Tryz.isAgg20
  z20 := Tryz.sizeOf20
  v20 := Tryz.zeroValue20
  t37 := Tryz.underlying88
  a37 := Tryz.isAgg88
  z37 := Tryz.sizeOf88
  v37 := Tryz.zeroValue88
  t46 := Tryz.underlying94
  a46 := Tryz.isAgg94
  z46 := Tryz.sizeOf94
  v46 := Tryz.zeroValue94
  t51 := Tryz.underlying193
  a51 := Tryz.isAgg193
  z51 := Tryz.sizeOf193
  v51 := Tryz.zeroValue193
  t53 := Tryz.underlying83
  a53 := Tryz.isAgg83
  z53 := Tryz.sizeOf83
  v53 := Tryz.zeroValue83
  t75 := Tryz.underlying43
  a75 := Tryz.isAgg43
  z75 := Tryz.sizeOf43
  v75 := Tryz.zeroValue43
  t127 := Tryz.underlying208
  a127 := Tryz.isAgg208
  z127 := Tryz.sizeOf208
  v127 := Tryz.zeroValue208
  t143 := Tryz.underlying209
  a143 := Tryz.isAgg209
  z143 := Tryz.sizeOf209
  v143 := Tryz.zeroValue209
  t145 := Tryz.underlying211
  a145 := Tryz.isAgg211
  z145 := Tryz.sizeOf211
  v145 := Tryz.zeroValue211
  t167 := Tryz.underlying167
  a167 := Tryz.isAgg167
  z167 := Tryz.sizeOf167
  v167 := Tryz.zeroValue167
  t168 := Tryz.underlying168
  a168 := Tryz.isAgg168
  z168 := Tryz.sizeOf168
  v168 := Tryz.zeroValue168
  t171 := Tryz.underlying240
  a171 := Tryz.isAgg240
  z171 := Tryz.sizeOf240
  v171 := Tryz.zeroValue240
  t173 := Tryz.underlying242
  a173 := Tryz.isAgg242
  z173 := Tryz.sizeOf242
  v173 := Tryz.zeroValue242
  t210 := Tryz.underlying183
  a210 := Tryz.isAgg183
  z210 := Tryz.sizeOf183
  v210 := Tryz.zeroValue183
  t212 := Tryz.underlying249
  a212 := Tryz.isAgg249
  z212 := Tryz.sizeOf249
  v212 := Tryz.zeroValue249
  t213 := Tryz.underlying250
  a213 := Tryz.isAgg250
  z213 := Tryz.sizeOf250
  t232 := Tryz.underlying253
  a232 := Tryz.isAgg253
  z232 := Tryz.sizeOf253
  v232 := Tryz.zeroValue253
  t233 := Tryz.underlying254
  a233 := Tryz.isAgg254
  z233 := Tryz.sizeOf254
  v233 := Tryz.zeroValue254
  g15 := by kernel_rfl
  g16 := by kernel_rfl
  g17 := by kernel_rfl
  g18 := by kernel_rfl
  g19 := by kernel_rfl
  t80 := Tryz.underlying140
  a80 := Tryz.isAgg140
  z80 := Tryz.sizeOf140
  v80 := Tryz.zeroValue140
  i0 := by kernel_rfl
  i2 := by kernel_rfl
  i3 := by kernel_rfl
  i4 := by kernel_rfl
  i5 := by kernel_rfl
  i9 := by kernel_rfl
  i20 := by kernel_rfl
  i37 := by kernel_rfl
  i46 := by kernel_rfl
  i51 := by kernel_rfl
  i53 := by kernel_rfl
  i75 := by kernel_rfl
  i80 := by kernel_rfl
  i127 := by kernel_rfl
  i143 := by kernel_rfl
  i145 := by kernel_rfl
  i167 := by kernel_rfl
  i168 := by kernel_rfl
  i171 := by kernel_rfl
  i173 := by kernel_rfl
  i210 := by kernel_rfl
  i212 := by kernel_rfl
  i232 := by kernel_rfl
  i233 := by kernel_rfl
  m15 := by kernel_rfl
  m16 := by kernel_rfl
  m17 := by kernel_rfl
  m18 := by kernel_rfl
  m19 := by kernel_rfl
  c0 := by kernel_rfl
  c2 := by kernel_rfl
  c3 := by kernel_rfl
  c4 := by kernel_rfl
  c5 := by kernel_rfl
  c9 := by kernel_rfl
  c20 := by kernel_rfl
  c37 := by kernel_rfl
  c46 := by kernel_rfl
  c51 := by kernel_rfl
  c53 := by kernel_rfl
  c75 := by kernel_rfl
  c80 := by kernel_rfl
  c127 := by kernel_rfl
  c143 := by kernel_rfl
  c145 := by kernel_rfl
  c167 := by kernel_rfl
  c168 := by kernel_rfl
  c171 := by kernel_rfl
  c173 := by kernel_rfl
  c210 := by kernel_rfl
  c212 := by kernel_rfl
  c213 := by kernel_rfl
  c232 := by kernel_rfl
  c233 := by kernel_rfl }
open Go.RowKit in
/-- strconv.toError, at the inner package's ErrSyntax: 'syntaxError(fn, s)' as an error: A *NumError IN A NEW BLOCK. (LAID: no walk: one application.) -/
theorem Tryz.strconv_toError_syntax (fn s : ByteArray) (base bits : Int) (ev : Value) (w : World) (hlim : s.size ≤ 281474976710656) (hv : w.cell? ⟨6, 0, none⟩ = some ev) (hev : ev = .nilIface ∨ ∃ te pe, ev = .iface te pe) :
    Calls Tryz.prog 91 #[.string fn, .string s, .int .i64 base, .int .i64 bits, .iface 167 (.int .i64 2)] w fun e w' => ∃ N, e = .returned (.iface 168 (.pointer (some ⟨N, 0, none⟩))) ∧ w.heap.size ≤ N ∧ w'.heap[N]? = some (.cells #[.string fn, .string s, ev] 183 (0, 0)) ∧ Below w.heap.size w w' := Any.strconv_toError_syntax Tryz.laysC245 fn s base bits ev w hlim hv hev
open Go.RowKit in
/-- strconv.toError, at the inner package's ErrRange: 'rangeError(fn, s)' as an error: A *NumError IN A NEW BLOCK. (LAID: no walk: one application.) -/
theorem Tryz.strconv_toError_range (fn s : ByteArray) (base bits : Int) (ev : Value) (w : World) (hlim : s.size ≤ 281474976710656) (hv : w.cell? ⟨7, 0, none⟩ = some ev) (hev : ev = .nilIface ∨ ∃ te pe, ev = .iface te pe) :
    Calls Tryz.prog 91 #[.string fn, .string s, .int .i64 base, .int .i64 bits, .iface 167 (.int .i64 1)] w fun e w' => ∃ N, e = .returned (.iface 168 (.pointer (some ⟨N, 0, none⟩))) ∧ w.heap.size ≤ N ∧ w'.heap[N]? = some (.cells #[.string fn, .string s, ev] 183 (0, 0)) ∧ Below w.heap.size w w' := Any.strconv_toError_range Tryz.laysC245 fn s base bits ev w hlim hv hev
def Tryz.laysM181_ren : Go.Shelf.Ren := ⟨fun | 181 => 85 | n => n, fun | 130 => 158 | 3 => 3 | 0 => 0 | 93 => 92 | 37 => 88 | 91 => 90 | 5 => 5 | n => n, fun | n => n⟩
theorem Tryz.laysM181 : Go.Proofs.LaysM.n181 Tryz.prog Tryz.laysM181_ren := {
  mixed := by kernel_rfl
  f181 := Tryz.func85.trans (congrArg some (by kernel_rfl))
  t0 := Tryz.underlying0
  a0 := Tryz.isAgg0
  z0 := Tryz.sizeOf0
  v0 := Tryz.zeroValue0
  t3 := Tryz.underlying3
  a3 := Tryz.isAgg3
  z3 := Tryz.sizeOf3
  v3 := Tryz.zeroValue3
  t37 := Tryz.underlying88
  a37 := Tryz.isAgg88
  z37 := Tryz.sizeOf88
  v37 := Tryz.zeroValue88
  t93 := Tryz.underlying92
  a93 := Tryz.isAgg92
  z93 := Tryz.sizeOf92
  v93 := Tryz.zeroValue92
  t130 := Tryz.underlying158
  a130 := Tryz.isAgg158
  z130 := Tryz.sizeOf158
  v130 := Tryz.zeroValue158
  t5 := Tryz.underlying5
  a5 := Tryz.isAgg5
  z5 := Tryz.sizeOf5
  v5 := Tryz.zeroValue5
  t91 := Tryz.underlying90
  a91 := Tryz.isAgg90
  z91 := Tryz.sizeOf90
  v91 := Tryz.zeroValue90
  i0 := by kernel_rfl
  i3 := by kernel_rfl
  i5 := by kernel_rfl
  i37 := by kernel_rfl
  i91 := by kernel_rfl
  i93 := by kernel_rfl
  i130 := by kernel_rfl }
open Go.RowKit in
/-- (*bytes.Buffer).Len: "Len returns the number of bytes of the unread portion of the buffer; b.Len() == len(b.Bytes()).": the world is as it was but for the count of draws (the statement has two reads: its order is drawn). (LAID: no walk: one application.) -/
theorem Tryz.Buffer_Len_at (T : TypeId) (R : Nat → Option Value) (B b q : Nat) (bs : List Value) (w : World) (h : LibA.IsBuffer T R 5 B b q bs w) :
    Calls Tryz.prog 85 #[.pointer (some ⟨b, q, none⟩)] w fun e w' => e = .returned (.int .i64 bs.length) ∧ ∃ n, w' = w.drewN n := Any.Buffer_Len_at Tryz.laysM181 T R B b q bs w h
def Tryz.laysM182_ren : Go.Shelf.Ren := ⟨fun | 182 => 87 | n => n, fun | 130 => 158 | 9 => 9 | 4 => 4 | 0 => 0 | 93 => 92 | 37 => 88 | 3 => 3 | 91 => 90 | 5 => 5 | n => n, fun | n => n⟩
theorem Tryz.laysM182 : Go.Proofs.LaysM.n182 Tryz.prog Tryz.laysM182_ren := {
  mixed := by kernel_rfl
  f182 := Tryz.func87.trans (congrArg some (by kernel_rfl))
  t0 := Tryz.underlying0
  a0 := Tryz.isAgg0
  z0 := Tryz.sizeOf0
  v0 := Tryz.zeroValue0
  t3 := Tryz.underlying3
  a3 := Tryz.isAgg3
  z3 := Tryz.sizeOf3
  v3 := Tryz.zeroValue3
  t4 := Tryz.underlying4
  a4 := Tryz.isAgg4
  z4 := Tryz.sizeOf4
  v4 := Tryz.zeroValue4
  t9 := Tryz.underlying9
  a9 := Tryz.isAgg9
  z9 := Tryz.sizeOf9
  v9 := Tryz.zeroValue9
  t37 := Tryz.underlying88
  a37 := Tryz.isAgg88
  z37 := Tryz.sizeOf88
  v37 := Tryz.zeroValue88
  t93 := Tryz.underlying92
  a93 := Tryz.isAgg92
  z93 := Tryz.sizeOf92
  v93 := Tryz.zeroValue92
  t130 := Tryz.underlying158
  a130 := Tryz.isAgg158
  z130 := Tryz.sizeOf158
  v130 := Tryz.zeroValue158
  t5 := Tryz.underlying5
  a5 := Tryz.isAgg5
  z5 := Tryz.sizeOf5
  v5 := Tryz.zeroValue5
  t91 := Tryz.underlying90
  a91 := Tryz.isAgg90
  z91 := Tryz.sizeOf90
  v91 := Tryz.zeroValue90
  i0 := by kernel_rfl
  i3 := by kernel_rfl
  i4 := by kernel_rfl
  i5 := by kernel_rfl
  i9 := by kernel_rfl
  i37 := by kernel_rfl
  i91 := by kernel_rfl
  i93 := by kernel_rfl
  i130 := by kernel_rfl }
open Go.RowKit in
/-- (*bytes.Buffer).String: "String returns the contents of the unread portion of the buffer as a string.": THE BYTES THAT WERE WRITTEN. The world is as it was but for the count of draws (the statement has two reads: its order is drawn). (LAID: no walk: one application.) -/
theorem Tryz.Buffer_String_at (T : TypeId) (R : Nat → Option Value) (B b q : Nat) (l : List UInt8) (w : World) (h : LibA.IsBuffer T R 5 B b q (Lib.byteCells l) w) :
    Calls Tryz.prog 87 #[.pointer (some ⟨b, q, none⟩)] w fun e w' => e = .returned (.string ⟨l.toArray⟩) ∧ ∃ n, w' = w.drewN n := Any.Buffer_String_at Tryz.laysM182 T R B b q l w h
def Tryz.laysM251_ren : Go.Shelf.Ren := ⟨fun | 251 => 101 | n => n, fun | 130 => 158 | 3 => 3 | 4 => 4 | 0 => 0 | 93 => 92 | 37 => 88 | 91 => 90 | 5 => 5 | n => n, fun | n => n⟩
theorem Tryz.laysM251 : Go.Proofs.LaysM.n251 Tryz.prog Tryz.laysM251_ren := {
  mixed := by kernel_rfl
  f251 := Tryz.func101.trans (congrArg some (by kernel_rfl))
  t0 := Tryz.underlying0
  a0 := Tryz.isAgg0
  z0 := Tryz.sizeOf0
  v0 := Tryz.zeroValue0
  t3 := Tryz.underlying3
  a3 := Tryz.isAgg3
  z3 := Tryz.sizeOf3
  v3 := Tryz.zeroValue3
  t4 := Tryz.underlying4
  a4 := Tryz.isAgg4
  z4 := Tryz.sizeOf4
  v4 := Tryz.zeroValue4
  t37 := Tryz.underlying88
  a37 := Tryz.isAgg88
  z37 := Tryz.sizeOf88
  v37 := Tryz.zeroValue88
  t93 := Tryz.underlying92
  a93 := Tryz.isAgg92
  z93 := Tryz.sizeOf92
  v93 := Tryz.zeroValue92
  t130 := Tryz.underlying158
  a130 := Tryz.isAgg158
  z130 := Tryz.sizeOf158
  v130 := Tryz.zeroValue158
  t5 := Tryz.underlying5
  a5 := Tryz.isAgg5
  z5 := Tryz.sizeOf5
  v5 := Tryz.zeroValue5
  t91 := Tryz.underlying90
  a91 := Tryz.isAgg90
  z91 := Tryz.sizeOf90
  v91 := Tryz.zeroValue90
  i0 := by kernel_rfl
  i3 := by kernel_rfl
  i4 := by kernel_rfl
  i5 := by kernel_rfl
  i37 := by kernel_rfl
  i91 := by kernel_rfl
  i93 := by kernel_rfl
  i130 := by kernel_rfl }
def Tryz.laysM252_ren : Go.Shelf.Ren := ⟨fun | 252 => 102 | 181 => 85 | 184 => 76 | 251 => 101 | 290 => 112 | 324 => 120 | n => n, fun | 130 => 158 | 3 => 3 | 4 => 4 | 0 => 0 | 93 => 92 | 131 => 162 | 37 => 88 | 75 => 43 | 91 => 90 | 20 => 20 | 5 => 5 | 80 => 140 | 9 => 9 | n => n, fun | 14 => 5 | n => n⟩
theorem Tryz.laysM252 : Go.Proofs.LaysM.n252 Tryz.prog Tryz.laysM252_ren := {
  mixed := by kernel_rfl
  f181 := Tryz.func85.trans (congrArg some (by kernel_rfl))
  f184 := Tryz.func76.trans (congrArg some (by kernel_rfl))
  f251 := Tryz.func101.trans (congrArg some (by kernel_rfl))
  f252 := Tryz.func102.trans (congrArg some (by kernel_rfl))
  f290 := Tryz.func112.trans (congrArg some (by kernel_rfl))
  f324 := Tryz.func120.trans (congrArg some (by kernel_rfl))
  t0 := Tryz.underlying0
  a0 := Tryz.isAgg0
  z0 := Tryz.sizeOf0
  v0 := Tryz.zeroValue0
  t3 := Tryz.underlying3
  a3 := Tryz.isAgg3
  z3 := Tryz.sizeOf3
  v3 := Tryz.zeroValue3
  t4 := Tryz.underlying4
  a4 := Tryz.isAgg4
  z4 := Tryz.sizeOf4
  v4 := Tryz.zeroValue4
  t20 := Tryz.underlying20
  a20 := Tryz.isAgg20
  z20 := Tryz.sizeOf20
  v20 := Tryz.zeroValue20
  t37 := Tryz.underlying88
  a37 := Tryz.isAgg88
  z37 := Tryz.sizeOf88
  v37 := Tryz.zeroValue88
  t75 := Tryz.underlying43
  a75 := Tryz.isAgg43
  z75 := Tryz.sizeOf43
  v75 := Tryz.zeroValue43
  t91 := Tryz.underlying90
  a91 := Tryz.isAgg90
  z91 := Tryz.sizeOf90
  v91 := Tryz.zeroValue90
  t93 := Tryz.underlying92
  a93 := Tryz.isAgg92
  z93 := Tryz.sizeOf92
  v93 := Tryz.zeroValue92
  t130 := Tryz.underlying158
  a130 := Tryz.isAgg158
  z130 := Tryz.sizeOf158
  v130 := Tryz.zeroValue158
  t131 := Tryz.underlying162
  a131 := Tryz.isAgg162
  z131 := Tryz.sizeOf162
  v131 := Tryz.zeroValue162
  g14 := by kernel_rfl
  t5 := Tryz.underlying5
  a5 := Tryz.isAgg5
  z5 := Tryz.sizeOf5
  v5 := Tryz.zeroValue5
  t9 := Tryz.underlying9
  a9 := Tryz.isAgg9
  z9 := Tryz.sizeOf9
  v9 := Tryz.zeroValue9
  t80 := Tryz.underlying140
  a80 := Tryz.isAgg140
  z80 := Tryz.sizeOf140
  v80 := Tryz.zeroValue140
  i0 := by kernel_rfl
  i3 := by kernel_rfl
  i4 := by kernel_rfl
  i5 := by kernel_rfl
  i9 := by kernel_rfl
  i20 := by kernel_rfl
  i37 := by kernel_rfl
  i75 := by kernel_rfl
  i80 := by kernel_rfl
  i91 := by kernel_rfl
  i93 := by kernel_rfl
  i130 := by kernel_rfl
  i131 := by kernel_rfl
  m14 := by kernel_rfl }
open Go.RowKit in
/-- tryGrowByReslice: EITHER there is room: the place to write at is the old length, and the buffer holds the old bytes and n more of whatever lay there; OR there is none: nothing turns, and 'Lib.NoRoom' is what grow asks. (LAID: no walk: one application.) -/
theorem Tryz.Buffer_tryGrow_at (T : TypeId) (R : Nat → Option Value) (B b q n : Nat) (bs : List Value) (w : World) (h : LibA.IsBuffer T R 5 B b q bs w) :
    Calls Tryz.prog 101 #[.pointer (some ⟨b, q, none⟩), .int .i64 n] w fun e w' =>
      (e = .returned (.tuple #[.int .i64 bs.length, .bool true]) ∧ ∃ xs, xs.length = n ∧ LibA.IsBuffer T R 5 B b q (bs ++ xs) w' ∧ Below B w w' ∧ Lib.OthersKept 5 (some b) w w' ∧ w.grownBy w' (some b)) ∨
      (e = .returned (.tuple #[.int .i64 0, .bool false]) ∧ w' = w ∧ LibA.NoRoom b q n w) := Any.Buffer_tryGrow_at Tryz.laysM251 T R B b q n bs w h
open Go.RowKit in
/-- (*bytes.Buffer).grow: "grow grows the buffer to guarantee space for n more bytes. It returns the index where bytes should be written.": WHERE THERE IS NO ROOM; UNDER Go's OWN LIMIT (the new length takes at most 2^47 bytes): the old length; the buffer holds the old bytes and n more of whatever. (LAID: no walk: one application.) -/
theorem Tryz.Buffer_grow_at (T : TypeId) (R : Nat → Option Value) (B b q n : Nat) (bs : List Value) (w : World) (h : LibA.IsBuffer T R 5 B b q bs w) (hnr : LibA.NoRoom b q n w) (hBw : B ≤ w.heap.size) (h1 : ∀ v ∈ bs, v.oneCell' = true) (hlim : bs.length + n ≤ 140737488355328) :
    Calls Tryz.prog 102 #[.pointer (some ⟨b, q, none⟩), .int .i64 n] w fun e w' => e = .returned (.int .i64 bs.length) ∧ ∃ xs, xs.length = n ∧ LibA.IsBuffer T R 5 B b q (bs ++ xs) w' ∧ Below B w w' ∧ Lib.OthersKept 5 (some b) w w' ∧ w.grownBy w' (some b) := Any.Buffer_grow_at Tryz.laysM252 T R B b q n bs w h hnr hBw h1 hlim
end Go.Proofs
