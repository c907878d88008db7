/- Parts of the proof of the statement that this folder hands in: lemmas and contracts (Ts). -/
import Derived.Shelf.Small.Bits
import Derived.Shelf.Strconv.ParseBool
import Derived.Shelf.Strconv.Itoa0
import Derived.Shelf.Strconv.ParseIntEmpty
import Derived.Shelf.LaysM
import Derived.Shelf.Strconv.Clone
import Derived.Shelf.Strconv.SyntaxError
import Derived.Shelf.LaysC
import Derived.Shelf.Strconv.ToError
import Derived.Shelf.Strconv.ParseBoolErrInner
import Derived.Shelf.Strconv.ParseBoolErr
import Derived.Shelf.Strconv.ErrVar
import Derived.Shelf.Strconv.Lower
import Derived.Shelf.Strconv.ParseUint10
import Derived.Shelf.Strconv.ParseUint10Empty
import Derived.Shelf.Strconv.ParseUint10Any
import Derived.Shelf.Strconv.ParseInt10
import Derived.Shelf.Strconv.RangeError
import Derived.Shelf.Strconv.ToErrorRange
import Derived.Shelf.Strconv.ParseUintEmpty
import Derived.Shelf.Strconv.ParseUint10b64
import Derived.Shelf.Strconv.ParseUint10b32
import Derived.Shelf.Strconv.ParseUint10b16
import Derived.Shelf.Strconv.ParseUint10b8
import Derived.Shelf.Strconv.ParseUint10At
import Derived.Shelf.Strconv.ParseInt10At64
import Derived.Shelf.Strconv.ParseInt10At32
import Derived.Shelf.Strconv.ParseInt10At16
import Derived.Shelf.Strconv.ParseInt10At8
import Derived.Shelf.Strconv.ParseInt10All
import Derived.Shelf.Strconv.ParseIntPublic10
import Derived.Shelf.Strconv.ErrVarParseInt
import Derived.Ground.GgsProg
import Derived.Shelf.GgSortFunc.Insertion
import Derived.Shelf.GgSortFunc.Small
import Derived.Shelf.GgSortFunc.InsertionK
import Derived.Shelf.GgSortFunc.SmallK
import Derived.Shelf.GgSortFunc.Tiny
import Derived.Shelf.GgSortFunc.Compose
import Derived.Shelf.GgSortFunc.LotD
import Derived.Shelf.Bits.Mul64
import Derived.Shelf.SlSortFunc.Xorshift
import Derived.Shelf.SlSortFuncK.ComposeK
import Derived.Shelf.SlSortFuncK.SiftDownK
import Derived.Shelf.SlSortFuncK.HeapSortK
import Derived.Shelf.SlSortFuncK.PartialInsertionK
import Derived.Shelf.SlSortFuncK.LotDK
import Derived.Shelf.SlSortFuncK.PivotK
import Derived.Shelf.SlSortFuncK.PartitionK
import Derived.Shelf.SlSortFuncK.PdqK
import Derived.Shelf.SlSortFuncK.WholeK
import Derived.Test.YtcfgjmdfpnfkjaaGreatDoorProg
set_option linter.unusedSimpArgs false
/-
  DERIVED: THE SHELF's CONTRACTS AT THIS DUMP, IN PLAIN WORDS (tools/lay-plain.mjs out of 'TryzShelf.lean', which tools/lay-shelf.mjs wrote): THE SAME DECLARATIONS UNDER THE SAME NAMES: 'import', 'namespace', 'open', 'def', 'theorem' AND NOTHING ELSE: no command of the shelf's: FOR A HAND-IN. Each laying: the table of numbers ('.._ren') and one theorem, a field a fact of the dump's own or the kernel's comparison; each contract: ONE APPLICATION.
-/
namespace Go.Proofs
open Go.Shelf
def Tryz.lays129_ren : Go.Shelf.Ren := ⟨fun | 129 => 73 | n => n, fun | 53 => 28 | 3 => 3 | 4 => 4 | 46 => 106 | 5 => 5 | 9 => 9 | n => n, fun | n => n⟩
theorem Tryz.lays129 : Go.Proofs.Lays.n129 Tryz.prog Tryz.lays129_ren := {
  mixed := by kernel_rfl
  f129 := Tryz.func73.trans (congrArg some (by kernel_rfl))
  t3 := Tryz.underlying3
  a3 := Tryz.isAgg3
  z3 := Tryz.sizeOf3
  v3 := Tryz.zeroValue3
  t4 := Tryz.underlying4
  a4 := Tryz.isAgg4
  z4 := Tryz.sizeOf4
  v4 := Tryz.zeroValue4
  t5 := Tryz.underlying5
  a5 := Tryz.isAgg5
  z5 := Tryz.sizeOf5
  v5 := Tryz.zeroValue5
  t9 := Tryz.underlying9
  a9 := Tryz.isAgg9
  z9 := Tryz.sizeOf9
  v9 := Tryz.zeroValue9
  t46 := Tryz.underlying106
  a46 := Tryz.isAgg106
  z46 := Tryz.sizeOf106
  v46 := Tryz.zeroValue106
  t53 := Tryz.underlying28
  a53 := Tryz.isAgg28
  z53 := Tryz.sizeOf28
  v53 := Tryz.zeroValue28 }
/-- bits.Len64: "Len64 returns the minimum number of bits required to represent x; the result is 0 for x == 0.": IT RETURNS 'Lib.bitLen x'; the world is as it was. ('h0', 'h1': x is a uint64.) (LAID: no walk: one application.) -/
theorem Tryz.bits_Len64 (x : Int) (w : World) (h0 : 0 ≤ x) (h1 : x ≤ 18446744073709551615) :
    Calls Tryz.prog 73 #[.int .u64 x] w fun e w' => e = .returned (.int .i64 (Lib.bitLen x.toNat)) ∧ w' = w := Any.bits_Len64 Tryz.lays129 x w h0 h1
def Tryz.laysC245_ren : Go.Shelf.Ren := ⟨fun | 245 => 29 | 279 => 39 | 280 => 40 | 281 => 41 | 282 => 42 | 316 => 59 | 171 => 60 | 205 => 34 | 243 => 87 | 246 => 109 | 283 => 124 | 284 => 125 | 285 => 126 | 286 => 127 | 129 => 73 | 317 => 132 | 318 => 116 | 319 => 133 | 320 => 134 | 337 => 137 | 338 => 138 | n => n, fun | 9 => 9 | 3 => 3 | 75 => 41 | 167 => 103 | 4 => 4 | 168 => 107 | 210 => 136 | 37 => 133 | 0 => 0 | 127 => 159 | 145 => 116 | 143 => 114 | 2 => 2 | 171 => 214 | 53 => 28 | 5 => 5 | 173 => 216 | 212 => 225 | 51 => 146 | 20 => 20 | 213 => 226 | 46 => 106 | 232 => 233 | 233 => 234 | 80 => 235 | n => n, fun | 15 => 1 | 16 => 2 | 17 => 10 | 18 => 12 | 19 => 13 | n => n⟩
theorem Tryz.laysC245 : Go.Proofs.LaysC.n245 Tryz.prog Tryz.laysC245_ren := {
  mixed := by kernel_rfl
  f129 := Tryz.func73.trans (congrArg some (by kernel_rfl))
  f171 := Tryz.func60.trans (congrArg some (by kernel_rfl))
  f205 := Tryz.func34.trans (congrArg some (by kernel_rfl))
  f243 := Tryz.func87.trans (congrArg some (by kernel_rfl))
  f245 := Tryz.func29.trans (congrArg some (by kernel_rfl))
  f246 := Tryz.func109.trans (congrArg some (by kernel_rfl))
  f279 := Tryz.func39.trans (congrArg some (by kernel_rfl))
  f280 := Tryz.func40.trans (congrArg some (by kernel_rfl))
  f281 := Tryz.func41.trans (congrArg some (by kernel_rfl))
  f282 := Tryz.func42.trans (congrArg some (by kernel_rfl))
  f283 := Tryz.func124.trans (congrArg some (by kernel_rfl))
  f284 := Tryz.func125.trans (congrArg some (by kernel_rfl))
  f285 := Tryz.func126.trans (congrArg some (by kernel_rfl))
  f286 := Tryz.func127.trans (congrArg some (by kernel_rfl))
  f316 := Tryz.func59.trans (congrArg some (by kernel_rfl))
  f317 := Tryz.func132.trans (congrArg some (by kernel_rfl))
  f318 := Tryz.func116.trans (congrArg some (by kernel_rfl))
  f319 := Tryz.func133.trans (congrArg some (by kernel_rfl))
  f320 := Tryz.func134.trans (congrArg some (by kernel_rfl))
  f337 := Tryz.func137.trans (congrArg some (by kernel_rfl))
  f338 := Tryz.func138.trans (congrArg some (by kernel_rfl))
  t0 := Tryz.underlying0
  a0 := Tryz.isAgg0
  z0 := Tryz.sizeOf0
  v0 := Tryz.zeroValue0
  t2 := Tryz.underlying2
  a2 := Tryz.isAgg2
  z2 := Tryz.sizeOf2
  v2 := Tryz.zeroValue2
  t3 := Tryz.underlying3
  a3 := Tryz.isAgg3
  z3 := Tryz.sizeOf3
  v3 := Tryz.zeroValue3
  t4 := Tryz.underlying4
  a4 := Tryz.isAgg4
  z4 := Tryz.sizeOf4
  v4 := Tryz.zeroValue4
  t5 := Tryz.underlying5
  a5 := Tryz.isAgg5
  z5 := Tryz.sizeOf5
  v5 := Tryz.zeroValue5
  t9 := Tryz.underlying9
  a9 := Tryz.isAgg9
  z9 := Tryz.sizeOf9
  v9 := Tryz.zeroValue9
  t20 := Tryz.underlying20
  a20 := Tryz.isAgg20
  z20 := Tryz.sizeOf20
  v20 := Tryz.zeroValue20
  t37 := Tryz.underlying133
  a37 := Tryz.isAgg133
  z37 := Tryz.sizeOf133
  v37 := Tryz.zeroValue133
  t46 := Tryz.underlying106
  a46 := Tryz.isAgg106
  z46 := Tryz.sizeOf106
  v46 := Tryz.zeroValue106
  t51 := Tryz.underlying146
  a51 := Tryz.isAgg146
  z51 := Tryz.sizeOf146
  v51 := Tryz.zeroValue146
  t53 := Tryz.underlying28
  a53 := Tryz.isAgg28
  z53 := Tryz.sizeOf28
  v53 := Tryz.zeroValue28
  t75 := Tryz.underlying41
  a75 := Tryz.isAgg41
  z75 := Tryz.sizeOf41
  v75 := Tryz.zeroValue41
  t127 := Tryz.underlying159
  a127 := Tryz.isAgg159
  z127 := Tryz.sizeOf159
  v127 := Tryz.zeroValue159
  t143 := Tryz.underlying114
  a143 := Tryz.isAgg114
  z143 := Tryz.sizeOf114
  v143 := Tryz.zeroValue114
  t145 := Tryz.underlying116
  a145 := Tryz.isAgg116
  z145 := Tryz.sizeOf116
  v145 := Tryz.zeroValue116
  t167 := Tryz.underlying103
  a167 := Tryz.isAgg103
  z167 := Tryz.sizeOf103
  v167 := Tryz.zeroValue103
  t168 := Tryz.underlying107
  a168 := Tryz.isAgg107
  z168 := Tryz.sizeOf107
  v168 := Tryz.zeroValue107
  t171 := Tryz.underlying214
  a171 := Tryz.isAgg214
  z171 := Tryz.sizeOf214
  v171 := Tryz.zeroValue214
  t173 := Tryz.underlying216
  a173 := Tryz.isAgg216
  z173 := Tryz.sizeOf216
  v173 := Tryz.zeroValue216
  t210 := Tryz.underlying136
  a210 := Tryz.isAgg136
  z210 := Tryz.sizeOf136
  v210 := Tryz.zeroValue136
  t212 := Tryz.underlying225
  a212 := Tryz.isAgg225
  z212 := Tryz.sizeOf225
  v212 := Tryz.zeroValue225
  t213 := Tryz.underlying226
  a213 := Tryz.isAgg226
  z213 := Tryz.sizeOf226
  t232 := Tryz.underlying233
  a232 := Tryz.isAgg233
  z232 := Tryz.sizeOf233
  v232 := Tryz.zeroValue233
  t233 := Tryz.underlying234
  a233 := Tryz.isAgg234
  z233 := Tryz.sizeOf234
  v233 := Tryz.zeroValue234
  g15 := by kernel_rfl
  g16 := by kernel_rfl
  g17 := by kernel_rfl
  g18 := by kernel_rfl
  g19 := by kernel_rfl
  t80 := Tryz.underlying235
  a80 := Tryz.isAgg235
  z80 := Tryz.sizeOf235
  v80 := Tryz.zeroValue235
  i0 := by kernel_rfl
  i2 := by kernel_rfl
  i3 := by kernel_rfl
  i4 := by kernel_rfl
  i5 := by kernel_rfl
  i9 := by kernel_rfl
  i20 := by kernel_rfl
  i37 := by kernel_rfl
  i46 := by kernel_rfl
  i51 := by kernel_rfl
  i53 := by kernel_rfl
  i75 := by kernel_rfl
  i80 := by kernel_rfl
  i127 := by kernel_rfl
  i143 := by kernel_rfl
  i145 := by kernel_rfl
  i167 := by kernel_rfl
  i168 := by kernel_rfl
  i171 := by kernel_rfl
  i173 := by kernel_rfl
  i210 := by kernel_rfl
  i212 := by kernel_rfl
  i232 := by kernel_rfl
  i233 := by kernel_rfl
  m15 := by kernel_rfl
  m16 := by kernel_rfl
  m17 := by kernel_rfl
  m18 := by kernel_rfl
  m19 := by kernel_rfl
  c0 := by kernel_rfl
  c2 := by kernel_rfl
  c3 := by kernel_rfl
  c4 := by kernel_rfl
  c5 := by kernel_rfl
  c9 := by kernel_rfl
  c20 := by kernel_rfl
  c37 := by kernel_rfl
  c46 := by kernel_rfl
  c51 := by kernel_rfl
  c53 := by kernel_rfl
  c75 := by kernel_rfl
  c80 := by kernel_rfl
  c127 := by kernel_rfl
  c143 := by kernel_rfl
  c145 := by kernel_rfl
  c167 := by kernel_rfl
  c168 := by kernel_rfl
  c171 := by kernel_rfl
  c173 := by kernel_rfl
  c210 := by kernel_rfl
  c212 := by kernel_rfl
  c213 := by kernel_rfl
  c232 := by kernel_rfl
  c233 := by kernel_rfl }
open Go.RowKit in
/-- strconv.toError, at the inner package's ErrSyntax: 'syntaxError(fn, s)' as an error: A *NumError IN A NEW BLOCK. (LAID: no walk: one application.) -/
theorem Tryz.strconv_toError_syntax (fn s : ByteArray) (base bits : Int) (ev : Value) (w : World) (hlim : s.size ≤ 281474976710656) (hv : w.cell? ⟨1, 0, none⟩ = some ev) (hev : ev = .nilIface ∨ ∃ te pe, ev = .iface te pe) :
    Calls Tryz.prog 29 #[.string fn, .string s, .int .i64 base, .int .i64 bits, .iface 103 (.int .i64 2)] w fun e w' => ∃ N, e = .returned (.iface 107 (.pointer (some ⟨N, 0, none⟩))) ∧ w.heap.size ≤ N ∧ w'.heap[N]? = some (.cells #[.string fn, .string s, ev] 136 (0, 0)) ∧ Below w.heap.size w w' := Any.strconv_toError_syntax Tryz.laysC245 fn s base bits ev w hlim hv hev
open Go.RowKit in
/-- strconv.toError, at the inner package's ErrRange: 'rangeError(fn, s)' as an error: A *NumError IN A NEW BLOCK. (LAID: no walk: one application.) -/
theorem Tryz.strconv_toError_range (fn s : ByteArray) (base bits : Int) (ev : Value) (w : World) (hlim : s.size ≤ 281474976710656) (hv : w.cell? ⟨2, 0, none⟩ = some ev) (hev : ev = .nilIface ∨ ∃ te pe, ev = .iface te pe) :
    Calls Tryz.prog 29 #[.string fn, .string s, .int .i64 base, .int .i64 bits, .iface 103 (.int .i64 1)] w fun e w' => ∃ N, e = .returned (.iface 107 (.pointer (some ⟨N, 0, none⟩))) ∧ w.heap.size ≤ N ∧ w'.heap[N]? = some (.cells #[.string fn, .string s, ev] 136 (0, 0)) ∧ Below w.heap.size w w' := Any.strconv_toError_range Tryz.laysC245 fn s base bits ev w hlim hv hev
def Tryz.laysC174_ren : Go.Shelf.Ren := ⟨fun | 174 => 15 | 247 => 28 | 245 => 29 | 287 => 38 | 279 => 39 | 280 => 40 | 281 => 41 | 282 => 42 | 321 => 57 | 322 => 58 | 316 => 59 | 171 => 60 | 205 => 34 | 243 => 87 | 246 => 109 | 283 => 124 | 284 => 125 | 285 => 126 | 286 => 127 | 129 => 73 | 317 => 132 | 318 => 116 | 319 => 133 | 320 => 134 | 337 => 137 | 338 => 138 | n => n, fun | 9 => 9 | 3 => 3 | 2 => 2 | 75 => 41 | 85 => 42 | 4 => 4 | 167 => 103 | 5 => 5 | 53 => 28 | 175 => 104 | 46 => 106 | 168 => 107 | 37 => 133 | 0 => 0 | 210 => 136 | 21 => 21 | 127 => 159 | 145 => 116 | 143 => 114 | 171 => 214 | 173 => 216 | 212 => 225 | 51 => 146 | 20 => 20 | 213 => 226 | 232 => 233 | 233 => 234 | 80 => 235 | n => n, fun | 15 => 1 | 16 => 2 | 17 => 10 | 18 => 12 | 19 => 13 | n => n⟩
theorem Tryz.laysC174 : Go.Proofs.LaysC.n174 Tryz.prog Tryz.laysC174_ren := {
  mixed := by kernel_rfl
  f129 := Tryz.func73.trans (congrArg some (by kernel_rfl))
  f171 := Tryz.func60.trans (congrArg some (by kernel_rfl))
  f174 := Tryz.func15.trans (congrArg some (by kernel_rfl))
  f205 := Tryz.func34.trans (congrArg some (by kernel_rfl))
  f243 := Tryz.func87.trans (congrArg some (by kernel_rfl))
  f245 := Tryz.func29.trans (congrArg some (by kernel_rfl))
  f246 := Tryz.func109.trans (congrArg some (by kernel_rfl))
  f247 := Tryz.func28.trans (congrArg some (by kernel_rfl))
  f279 := Tryz.func39.trans (congrArg some (by kernel_rfl))
  f280 := Tryz.func40.trans (congrArg some (by kernel_rfl))
  f281 := Tryz.func41.trans (congrArg some (by kernel_rfl))
  f282 := Tryz.func42.trans (congrArg some (by kernel_rfl))
  f283 := Tryz.func124.trans (congrArg some (by kernel_rfl))
  f284 := Tryz.func125.trans (congrArg some (by kernel_rfl))
  f285 := Tryz.func126.trans (congrArg some (by kernel_rfl))
  f286 := Tryz.func127.trans (congrArg some (by kernel_rfl))
  f287 := Tryz.func38.trans (congrArg some (by kernel_rfl))
  f316 := Tryz.func59.trans (congrArg some (by kernel_rfl))
  f317 := Tryz.func132.trans (congrArg some (by kernel_rfl))
  f318 := Tryz.func116.trans (congrArg some (by kernel_rfl))
  f319 := Tryz.func133.trans (congrArg some (by kernel_rfl))
  f320 := Tryz.func134.trans (congrArg some (by kernel_rfl))
  f321 := Tryz.func57.trans (congrArg some (by kernel_rfl))
  f322 := Tryz.func58.trans (congrArg some (by kernel_rfl))
  f337 := Tryz.func137.trans (congrArg some (by kernel_rfl))
  f338 := Tryz.func138.trans (congrArg some (by kernel_rfl))
  t0 := Tryz.underlying0
  a0 := Tryz.isAgg0
  z0 := Tryz.sizeOf0
  v0 := Tryz.zeroValue0
  t2 := Tryz.underlying2
  a2 := Tryz.isAgg2
  z2 := Tryz.sizeOf2
  v2 := Tryz.zeroValue2
  t3 := Tryz.underlying3
  a3 := Tryz.isAgg3
  z3 := Tryz.sizeOf3
  v3 := Tryz.zeroValue3
  t4 := Tryz.underlying4
  a4 := Tryz.isAgg4
  z4 := Tryz.sizeOf4
  v4 := Tryz.zeroValue4
  t5 := Tryz.underlying5
  a5 := Tryz.isAgg5
  z5 := Tryz.sizeOf5
  v5 := Tryz.zeroValue5
  t9 := Tryz.underlying9
  a9 := Tryz.isAgg9
  z9 := Tryz.sizeOf9
  v9 := Tryz.zeroValue9
  t20 := Tryz.underlying20
  a20 := Tryz.isAgg20
  z20 := Tryz.sizeOf20
  v20 := Tryz.zeroValue20
  t21 := Tryz.underlying21
  a21 := Tryz.isAgg21
  z21 := Tryz.sizeOf21
  v21 := Tryz.zeroValue21
  t37 := Tryz.underlying133
  a37 := Tryz.isAgg133
  z37 := Tryz.sizeOf133
  v37 := Tryz.zeroValue133
  t46 := Tryz.underlying106
  a46 := Tryz.isAgg106
  z46 := Tryz.sizeOf106
  v46 := Tryz.zeroValue106
  t51 := Tryz.underlying146
  a51 := Tryz.isAgg146
  z51 := Tryz.sizeOf146
  v51 := Tryz.zeroValue146
  t53 := Tryz.underlying28
  a53 := Tryz.isAgg28
  z53 := Tryz.sizeOf28
  v53 := Tryz.zeroValue28
  t75 := Tryz.underlying41
  a75 := Tryz.isAgg41
  z75 := Tryz.sizeOf41
  v75 := Tryz.zeroValue41
  t85 := Tryz.underlying42
  a85 := Tryz.isAgg42
  z85 := Tryz.sizeOf42
  v85 := Tryz.zeroValue42
  t127 := Tryz.underlying159
  a127 := Tryz.isAgg159
  z127 := Tryz.sizeOf159
  v127 := Tryz.zeroValue159
  t143 := Tryz.underlying114
  a143 := Tryz.isAgg114
  z143 := Tryz.sizeOf114
  v143 := Tryz.zeroValue114
  t145 := Tryz.underlying116
  a145 := Tryz.isAgg116
  z145 := Tryz.sizeOf116
  v145 := Tryz.zeroValue116
  t167 := Tryz.underlying103
  a167 := Tryz.isAgg103
  z167 := Tryz.sizeOf103
  v167 := Tryz.zeroValue103
  t168 := Tryz.underlying107
  a168 := Tryz.isAgg107
  z168 := Tryz.sizeOf107
  v168 := Tryz.zeroValue107
  t171 := Tryz.underlying214
  a171 := Tryz.isAgg214
  z171 := Tryz.sizeOf214
  v171 := Tryz.zeroValue214
  t173 := Tryz.underlying216
  a173 := Tryz.isAgg216
  z173 := Tryz.sizeOf216
  v173 := Tryz.zeroValue216
  t175 := Tryz.underlying104
  a175 := Tryz.isAgg104
  z175 := Tryz.sizeOf104
  v175 := Tryz.zeroValue104
  t210 := Tryz.underlying136
  a210 := Tryz.isAgg136
  z210 := Tryz.sizeOf136
  v210 := Tryz.zeroValue136
  t212 := Tryz.underlying225
  a212 := Tryz.isAgg225
  z212 := Tryz.sizeOf225
  v212 := Tryz.zeroValue225
  t213 := Tryz.underlying226
  a213 := Tryz.isAgg226
  z213 := Tryz.sizeOf226
  t232 := Tryz.underlying233
  a232 := Tryz.isAgg233
  z232 := Tryz.sizeOf233
  v232 := Tryz.zeroValue233
  t233 := Tryz.underlying234
  a233 := Tryz.isAgg234
  z233 := Tryz.sizeOf234
  v233 := Tryz.zeroValue234
  g15 := by kernel_rfl
  g16 := by kernel_rfl
  g17 := by kernel_rfl
  g18 := by kernel_rfl
  g19 := by kernel_rfl
  t80 := Tryz.underlying235
  a80 := Tryz.isAgg235
  z80 := Tryz.sizeOf235
  v80 := Tryz.zeroValue235
  i0 := by kernel_rfl
  i2 := by kernel_rfl
  i3 := by kernel_rfl
  i4 := by kernel_rfl
  i5 := by kernel_rfl
  i9 := by kernel_rfl
  i20 := by kernel_rfl
  i21 := by kernel_rfl
  i37 := by kernel_rfl
  i46 := by kernel_rfl
  i51 := by kernel_rfl
  i53 := by kernel_rfl
  i75 := by kernel_rfl
  i80 := by kernel_rfl
  i85 := by kernel_rfl
  i127 := by kernel_rfl
  i143 := by kernel_rfl
  i145 := by kernel_rfl
  i167 := by kernel_rfl
  i168 := by kernel_rfl
  i171 := by kernel_rfl
  i173 := by kernel_rfl
  i175 := by kernel_rfl
  i210 := by kernel_rfl
  i212 := by kernel_rfl
  i232 := by kernel_rfl
  i233 := by kernel_rfl
  m15 := by kernel_rfl
  m16 := by kernel_rfl
  m17 := by kernel_rfl
  m18 := by kernel_rfl
  m19 := by kernel_rfl
  c0 := by kernel_rfl
  c2 := by kernel_rfl
  c3 := by kernel_rfl
  c4 := by kernel_rfl
  c5 := by kernel_rfl
  c9 := by kernel_rfl
  c20 := by kernel_rfl
  c21 := by kernel_rfl
  c37 := by kernel_rfl
  c46 := by kernel_rfl
  c51 := by kernel_rfl
  c53 := by kernel_rfl
  c75 := by kernel_rfl
  c80 := by kernel_rfl
  c85 := by kernel_rfl
  c127 := by kernel_rfl
  c143 := by kernel_rfl
  c145 := by kernel_rfl
  c167 := by kernel_rfl
  c168 := by kernel_rfl
  c171 := by kernel_rfl
  c173 := by kernel_rfl
  c175 := by kernel_rfl
  c210 := by kernel_rfl
  c212 := by kernel_rfl
  c213 := by kernel_rfl
  c232 := by kernel_rfl
  c233 := by kernel_rfl }
open Go.RowKit in
/-- strconv.ParseInt(s, 10, 64), AT EVERY STRING THAT SPELLS AN int64 ('Lib.parseIntB 64 s.data.toList = .ok v'): v, AND NO ERROR. (LAID: no walk: one application.) -/
theorem Tryz.strconv_ParseInt_10_at64_ok (s : ByteArray) (hmax : s.size ≤ 9223372036854775806) (v : Int) (h : Lib.parseIntB 64 s.data.toList = .ok v) (w : World) :
    Calls Tryz.prog 15 #[.string s, .int .i64 10, .int .i64 64] w fun e w' => e = .returned (.tuple #[.int .i64 v, .nilIface]) ∧ (w' = w ∨ ∃ t, w' = Lib.bytesWorld w 5 t) := Any.strconv_ParseInt_10_at64_ok Tryz.laysC174 s hmax v h w
open Go.RowKit in
/-- strconv.ParseInt(s, 10, 64), AT EVERY NUMERAL THAT NO int64 HOLDS: THE GREATEST OR THE LEAST int64, BY THE SIGN ('Lib.intSat 64'), AND AN ERROR THAT IS NOT nil: a *NumError in a new block N: {Func: "ParseInt", Num: s's bytes, Err: what the variable ErrRange holds}. Of what was there nothing has turned. (LAID: no walk: one application.) -/
theorem Tryz.strconv_ParseInt_10_at64_range (s : ByteArray) (hlim : s.size ≤ 281474976710656) (h : Lib.parseIntB 64 s.data.toList = .range) (ev : Value) (w : World) (hv : w.cell? ⟨2, 0, none⟩ = some ev) (hev : ev = .nilIface ∨ ∃ te pe, ev = .iface te pe) :
    Calls Tryz.prog 15 #[.string s, .int .i64 10, .int .i64 64] w fun e w' => ∃ N, e = .returned (.tuple #[.int .i64 (Lib.intSat 64 s.data.toList), .iface 107 (.pointer (some ⟨N, 0, none⟩))]) ∧ w.heap.size ≤ N ∧ w'.heap[N]? = some (.cells #[.string ⟨#[80, 97, 114, 115, 101, 73, 110, 116]⟩, .string s, ev] 136 (0, 0)) ∧ Below w.heap.size w w' := Any.strconv_ParseInt_10_at64_range Tryz.laysC174 s hlim h ev w hv hev
def Tryz.laysGg6_ren : Go.Shelf.Ren := ⟨fun | 6 => 35 | 10 => 45 | 11 => 46 | 12 => 47 | 13 => 48 | 14 => 49 | 24 => 72 | 25 => 73 | 26 => 74 | 27 => 75 | 28 => 76 | 29 => 77 | 30 => 78 | 31 => 79 | 32 => 80 | 33 => 81 | 34 => 101 | 35 => 102 | 36 => 103 | 37 => 104 | 38 => 105 | 39 => 123 | n => n, fun | 20 => 20 | 26 => 97 | 35 => 120 | 0 => 0 | 37 => 122 | 3 => 3 | 41 => 106 | 44 => 128 | 49 => 146 | 51 => 28 | 4 => 4 | 54 => 150 | 53 => 149 | 58 => 154 | 5 => 5 | 9 => 9 | 60 => 184 | 64 => 188 | 66 => 211 | 67 => 212 | 17 => 17 | 32 => 117 | 33 => 118 | 82 => 247 | 12 => 12 | 75 => 241 | 76 => 242 | 77 => 243 | 78 => 159 | 79 => 244 | 80 => 245 | n => n, fun | n => n⟩
theorem Tryz.laysGg6 : Go.Proofs.LaysGg.n6 Tryz.prog Tryz.laysGg6_ren := {
  mixed := by kernel_rfl
  f6 := Tryz.func35.trans (congrArg some (by kernel_rfl))
  f10 := Tryz.func45.trans (congrArg some (by kernel_rfl))
  f11 := Tryz.func46.trans (congrArg some (by kernel_rfl))
  f12 := Tryz.func47.trans (congrArg some (by kernel_rfl))
  f13 := Tryz.func48.trans (congrArg some (by kernel_rfl))
  f14 := Tryz.func49.trans (congrArg some (by kernel_rfl))
  f24 := Tryz.func72.trans (congrArg some (by kernel_rfl))
  f25 := Tryz.func73.trans (congrArg some (by kernel_rfl))
  f26 := Tryz.func74.trans (congrArg some (by kernel_rfl))
  f27 := Tryz.func75.trans (congrArg some (by kernel_rfl))
  f28 := Tryz.func76.trans (congrArg some (by kernel_rfl))
  f29 := Tryz.func77.trans (congrArg some (by kernel_rfl))
  f30 := Tryz.func78.trans (congrArg some (by kernel_rfl))
  f31 := Tryz.func79.trans (congrArg some (by kernel_rfl))
  f32 := Tryz.func80.trans (congrArg some (by kernel_rfl))
  f33 := Tryz.func81.trans (congrArg some (by kernel_rfl))
  f34 := Tryz.func101.trans (congrArg some (by kernel_rfl))
  f35 := Tryz.func102.trans (congrArg some (by kernel_rfl))
  f36 := Tryz.func103.trans (congrArg some (by kernel_rfl))
  f37 := Tryz.func104.trans (congrArg some (by kernel_rfl))
  f38 := Tryz.func105.trans (congrArg some (by kernel_rfl))
  f39 := Tryz.func123.trans (congrArg some (by kernel_rfl))
  t0 := Tryz.underlying0
  a0 := Tryz.isAgg0
  z0 := Tryz.sizeOf0
  v0 := Tryz.zeroValue0
  i0 := by kernel_rfl
  t3 := Tryz.underlying3
  a3 := Tryz.isAgg3
  z3 := Tryz.sizeOf3
  v3 := Tryz.zeroValue3
  i3 := by kernel_rfl
  t4 := Tryz.underlying4
  a4 := Tryz.isAgg4
  z4 := Tryz.sizeOf4
  v4 := Tryz.zeroValue4
  i4 := by kernel_rfl
  t5 := Tryz.underlying5
  a5 := Tryz.isAgg5
  z5 := Tryz.sizeOf5
  v5 := Tryz.zeroValue5
  i5 := by kernel_rfl
  t9 := Tryz.underlying9
  a9 := Tryz.isAgg9
  z9 := Tryz.sizeOf9
  v9 := Tryz.zeroValue9
  i9 := by kernel_rfl
  t12 := Tryz.underlying12
  a12 := Tryz.isAgg12
  z12 := Tryz.sizeOf12
  v12 := Tryz.zeroValue12
  i12 := by kernel_rfl
  t17 := Tryz.underlying17
  a17 := Tryz.isAgg17
  z17 := Tryz.sizeOf17
  v17 := Tryz.zeroValue17
  i17 := by kernel_rfl
  t20 := Tryz.underlying20
  a20 := Tryz.isAgg20
  z20 := Tryz.sizeOf20
  v20 := Tryz.zeroValue20
  i20 := by kernel_rfl
  t26 := Tryz.underlying97
  a26 := Tryz.isAgg97
  z26 := Tryz.sizeOf97
  v26 := Tryz.zeroValue97
  i26 := by kernel_rfl
  t32 := Tryz.underlying117
  a32 := Tryz.isAgg117
  z32 := Tryz.sizeOf117
  v32 := Tryz.zeroValue117
  i32 := by kernel_rfl
  t33 := Tryz.underlying118
  a33 := Tryz.isAgg118
  z33 := Tryz.sizeOf118
  v33 := Tryz.zeroValue118
  i33 := by kernel_rfl
  t35 := Tryz.underlying120
  a35 := Tryz.isAgg120
  z35 := Tryz.sizeOf120
  v35 := Tryz.zeroValue120
  i35 := by kernel_rfl
  t37 := Tryz.underlying122
  a37 := Tryz.isAgg122
  z37 := Tryz.sizeOf122
  v37 := Tryz.zeroValue122
  i37 := by kernel_rfl
  t41 := Tryz.underlying106
  a41 := Tryz.isAgg106
  z41 := Tryz.sizeOf106
  v41 := Tryz.zeroValue106
  i41 := by kernel_rfl
  t44 := Tryz.underlying128
  a44 := Tryz.isAgg128
  z44 := Tryz.sizeOf128
  v44 := Tryz.zeroValue128
  i44 := by kernel_rfl
  t49 := Tryz.underlying146
  a49 := Tryz.isAgg146
  z49 := Tryz.sizeOf146
  v49 := Tryz.zeroValue146
  i49 := by kernel_rfl
  t51 := Tryz.underlying28
  a51 := Tryz.isAgg28
  z51 := Tryz.sizeOf28
  v51 := Tryz.zeroValue28
  i51 := by kernel_rfl
  t53 := Tryz.underlying149
  a53 := Tryz.isAgg149
  z53 := Tryz.sizeOf149
  v53 := Tryz.zeroValue149
  i53 := by kernel_rfl
  t54 := Tryz.underlying150
  a54 := Tryz.isAgg150
  z54 := Tryz.sizeOf150
  v54 := Tryz.zeroValue150
  i54 := by kernel_rfl
  t58 := Tryz.underlying154
  a58 := Tryz.isAgg154
  z58 := Tryz.sizeOf154
  v58 := Tryz.zeroValue154
  i58 := by kernel_rfl
  t60 := Tryz.underlying184
  a60 := Tryz.isAgg184
  z60 := Tryz.sizeOf184
  v60 := Tryz.zeroValue184
  i60 := by kernel_rfl
  t64 := Tryz.underlying188
  a64 := Tryz.isAgg188
  z64 := Tryz.sizeOf188
  v64 := Tryz.zeroValue188
  i64 := by kernel_rfl
  t66 := Tryz.underlying211
  a66 := Tryz.isAgg211
  z66 := Tryz.sizeOf211
  v66 := Tryz.zeroValue211
  i66 := by kernel_rfl
  t67 := Tryz.underlying212
  a67 := Tryz.isAgg212
  z67 := Tryz.sizeOf212
  v67 := Tryz.zeroValue212
  i67 := by kernel_rfl
  t75 := Tryz.underlying241
  a75 := Tryz.isAgg241
  z75 := Tryz.sizeOf241
  v75 := Tryz.zeroValue241
  i75 := by kernel_rfl
  t76 := Tryz.underlying242
  a76 := Tryz.isAgg242
  z76 := Tryz.sizeOf242
  v76 := Tryz.zeroValue242
  i76 := by kernel_rfl
  t77 := Tryz.underlying243
  a77 := Tryz.isAgg243
  z77 := Tryz.sizeOf243
  v77 := Tryz.zeroValue243
  i77 := by kernel_rfl
  t78 := Tryz.underlying159
  a78 := Tryz.isAgg159
  z78 := Tryz.sizeOf159
  v78 := Tryz.zeroValue159
  i78 := by kernel_rfl
  t79 := Tryz.underlying244
  a79 := Tryz.isAgg244
  z79 := Tryz.sizeOf244
  v79 := Tryz.zeroValue244
  i79 := by kernel_rfl
  t80 := Tryz.underlying245
  a80 := Tryz.isAgg245
  z80 := Tryz.sizeOf245
  v80 := Tryz.zeroValue245
  i80 := by kernel_rfl
  t82 := Tryz.underlying247
  a82 := Tryz.isAgg247
  z82 := Tryz.sizeOf247
  v82 := Tryz.zeroValue247
  i82 := by kernel_rfl }
end Go.Proofs
