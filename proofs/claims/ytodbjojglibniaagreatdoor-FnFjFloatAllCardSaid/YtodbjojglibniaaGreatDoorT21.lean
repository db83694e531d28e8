/- Walks of functions of FnFjFloatAll (S1); conditions stand ahead of each theorem. -/
import Derived.Shelf.Small.Strs
import Derived.Shelf.Strconv.Itoa0
import Derived.Shelf.Strconv.Itoa1
import Derived.Shelf.LaysM
import Derived.Shelf.Strconv.Itoa2
import Derived.Shelf.Strconv.Itoa3
import Derived.Shelf.Strconv.Clone
import Derived.Shelf.Strconv.RangeError
import Derived.Shelf.LaysC
import Derived.Shelf.Strconv.ToErrorRange
import Derived.Shelf.Strings.Search1
import Derived.Shelf.Bits.Mul64
import Derived.Test.YtodbjojglibniaaGreatDoorProg
set_option linter.unusedVariables false
namespace Go.Proofs
open Go.Shelf
def Tryz.laysC245_ren : Go.Shelf.Ren := ⟨fun | 245 => 59 | 279 => 70 | 280 => 71 | 281 => 72 | 282 => 73 | 316 => 80 | 171 => 81 | 205 => 25 | 243 => 95 | 246 => 110 | 283 => 115 | 284 => 116 | 285 => 117 | 286 => 118 | 129 => 99 | 317 => 121 | 318 => 103 | 319 => 122 | 320 => 123 | 337 => 124 | 338 => 125 | n => n, fun | 9 => 9 | 3 => 3 | 75 => 43 | 167 => 124 | 4 => 4 | 168 => 125 | 210 => 136 | 37 => 35 | 0 => 0 | 127 => 159 | 145 => 93 | 143 => 91 | 2 => 2 | 171 => 187 | 53 => 26 | 5 => 5 | 173 => 189 | 212 => 196 | 51 => 128 | 20 => 20 | 213 => 197 | 46 => 61 | 232 => 201 | 233 => 202 | 80 => 203 | n => n, fun | 15 => 5 | 16 => 6 | 17 => 16 | 18 => 17 | 19 => 18 | n => n⟩
theorem Tryz.laysC245 : Go.Proofs.LaysC.n245 Tryz.prog Tryz.laysC245_ren := {
  mixed := by kernel_rfl
  f129 := Tryz.func99.trans (congrArg some (by kernel_rfl))
  f171 := Tryz.func81.trans (congrArg some (by kernel_rfl))
  f205 := Tryz.func25.trans (congrArg some (by kernel_rfl))
  f243 := Tryz.func95.trans (congrArg some (by kernel_rfl))
  f245 := Tryz.func59.trans (congrArg some (by kernel_rfl))
  f246 := Tryz.func110.trans (congrArg some (by kernel_rfl))
  f279 := Tryz.func70.trans (congrArg some (by kernel_rfl))
  f280 := Tryz.func71.trans (congrArg some (by kernel_rfl))
  f281 := Tryz.func72.trans (congrArg some (by kernel_rfl))
  f282 := Tryz.func73.trans (congrArg some (by kernel_rfl))
  f283 := Tryz.func115.trans (congrArg some (by kernel_rfl))
  f284 := Tryz.func116.trans (congrArg some (by kernel_rfl))
  f285 := Tryz.func117.trans (congrArg some (by kernel_rfl))
  f286 := Tryz.func118.trans (congrArg some (by kernel_rfl))
  f316 := Tryz.func80.trans (congrArg some (by kernel_rfl))
  f317 := Tryz.func121.trans (congrArg some (by kernel_rfl))
  f318 := Tryz.func103.trans (congrArg some (by kernel_rfl))
  f319 := Tryz.func122.trans (congrArg some (by kernel_rfl))
  f320 := Tryz.func123.trans (congrArg some (by kernel_rfl))
  f337 := Tryz.func124.trans (congrArg some (by kernel_rfl))
  f338 := Tryz.func125.trans (congrArg some (by kernel_rfl))
  t0 := Tryz.underlying0
  a0 := Tryz.isAgg0
  z0 := Tryz.sizeOf0
  v0 := Tryz.zeroValue0
  t2 := Tryz.underlying2
  a2 := Tryz.isAgg2
  z2 := Tryz.sizeOf2
  v2 := Tryz.zeroValue2
  t3 := Tryz.underlying3
  a3 := Tryz.isAgg3
  z3 := Tryz.sizeOf3
  v3 := Tryz.zeroValue3
  t4 := Tryz.underlying4
  a4 := Tryz.isAgg4
  z4 := Tryz.sizeOf4
  v4 := Tryz.zeroValue4
  t5 := Tryz.underlying5
  a5 := Tryz.isAgg5
  z5 := Tryz.sizeOf5
  v5 := Tryz.zeroValue5
  t9 := Tryz.underlying9
  a9 := Tryz.isAgg9
  z9 := Tryz.sizeOf9
  v9 := Tryz.zeroValue9
  t20 := Tryz.underlying20
  a20 := Tryz.isAgg20
  z20 := Tryz.sizeOf20
  v20 := Tryz.zeroValue20
  t37 := Tryz.underlying35
  a37 := Tryz.isAgg35
  z37 := Tryz.sizeOf35
  v37 := Tryz.zeroValue35
  t46 := Tryz.underlying61
  a46 := Tryz.isAgg61
  z46 := Tryz.sizeOf61
  v46 := Tryz.zeroValue61
  t51 := Tryz.underlying128
  a51 := Tryz.isAgg128
  z51 := Tryz.sizeOf128
  v51 := Tryz.zeroValue128
  t53 := Tryz.underlying26
  a53 := Tryz.isAgg26
  z53 := Tryz.sizeOf26
  v53 := Tryz.zeroValue26
  t75 := Tryz.underlying43
  a75 := Tryz.isAgg43
  z75 := Tryz.sizeOf43
  v75 := Tryz.zeroValue43
  t127 := Tryz.underlying159
  a127 := Tryz.isAgg159
  z127 := Tryz.sizeOf159
  v127 := Tryz.zeroValue159
  t143 := Tryz.underlying91
  a143 := Tryz.isAgg91
  z143 := Tryz.sizeOf91
  v143 := Tryz.zeroValue91
  t145 := Tryz.underlying93
  a145 := Tryz.isAgg93
  z145 := Tryz.sizeOf93
  v145 := Tryz.zeroValue93
  t167 := Tryz.underlying124
  a167 := Tryz.isAgg124
  z167 := Tryz.sizeOf124
  v167 := Tryz.zeroValue124
  t168 := Tryz.underlying125
  a168 := Tryz.isAgg125
  z168 := Tryz.sizeOf125
  v168 := Tryz.zeroValue125
  t171 := Tryz.underlying187
  a171 := Tryz.isAgg187
  z171 := Tryz.sizeOf187
  v171 := Tryz.zeroValue187
  t173 := Tryz.underlying189
  a173 := Tryz.isAgg189
  z173 := Tryz.sizeOf189
  v173 := Tryz.zeroValue189
  t210 := Tryz.underlying136
  a210 := Tryz.isAgg136
  z210 := Tryz.sizeOf136
  v210 := Tryz.zeroValue136
  t212 := Tryz.underlying196
  a212 := Tryz.isAgg196
  z212 := Tryz.sizeOf196
  v212 := Tryz.zeroValue196
  t213 := Tryz.underlying197
  a213 := Tryz.isAgg197
  z213 := Tryz.sizeOf197
  t232 := Tryz.underlying201
  a232 := Tryz.isAgg201
  z232 := Tryz.sizeOf201
  v232 := Tryz.zeroValue201
  t233 := Tryz.underlying202
  a233 := Tryz.isAgg202
  z233 := Tryz.sizeOf202
  v233 := Tryz.zeroValue202
  g15 := by kernel_rfl
  g16 := by kernel_rfl
  g17 := by kernel_rfl
  g18 := by kernel_rfl
  g19 := by kernel_rfl
  t80 := Tryz.underlying203
  a80 := Tryz.isAgg203
  z80 := Tryz.sizeOf203
  v80 := Tryz.zeroValue203
  i0 := by kernel_rfl
  i2 := by kernel_rfl
  i3 := by kernel_rfl
  i4 := by kernel_rfl
  i5 := by kernel_rfl
  i9 := by kernel_rfl
  i20 := by kernel_rfl
  i37 := by kernel_rfl
  i46 := by kernel_rfl
  i51 := by kernel_rfl
  i53 := by kernel_rfl
  i75 := by kernel_rfl
  i80 := by kernel_rfl
  i127 := by kernel_rfl
  i143 := by kernel_rfl
  i145 := by kernel_rfl
  i167 := by kernel_rfl
  i168 := by kernel_rfl
  i171 := by kernel_rfl
  i173 := by kernel_rfl
  i210 := by kernel_rfl
  i212 := by kernel_rfl
  i232 := by kernel_rfl
  i233 := by kernel_rfl
  m15 := by kernel_rfl
  m16 := by kernel_rfl
  m17 := by kernel_rfl
  m18 := by kernel_rfl
  m19 := by kernel_rfl
  c0 := by kernel_rfl
  c2 := by kernel_rfl
  c3 := by kernel_rfl
  c4 := by kernel_rfl
  c5 := by kernel_rfl
  c9 := by kernel_rfl
  c20 := by kernel_rfl
  c37 := by kernel_rfl
  c46 := by kernel_rfl
  c51 := by kernel_rfl
  c53 := by kernel_rfl
  c75 := by kernel_rfl
  c80 := by kernel_rfl
  c127 := by kernel_rfl
  c143 := by kernel_rfl
  c145 := by kernel_rfl
  c167 := by kernel_rfl
  c168 := by kernel_rfl
  c171 := by kernel_rfl
  c173 := by kernel_rfl
  c210 := by kernel_rfl
  c212 := by kernel_rfl
  c213 := by kernel_rfl
  c232 := by kernel_rfl
  c233 := by kernel_rfl }
open Go.RowKit in
theorem Tryz.strconv_toError_range (fn s : ByteArray) (base bits : Int) (ev : Value) (w : World) (hlim : s.size ≤ 281474976710656) (hv : w.cell? ⟨6, 0, none⟩ = some ev) (hev : ev = .nilIface ∨ ∃ te pe, ev = .iface te pe) :
    Calls Tryz.prog 59 #[.string fn, .string s, .int .i64 base, .int .i64 bits, .iface 124 (.int .i64 1)] w fun e w' => ∃ N, e = .returned (.iface 125 (.pointer (some ⟨N, 0, none⟩))) ∧ w.heap.size ≤ N ∧ w'.heap[N]? = some (.cells #[.string fn, .string s, ev] 136 (0, 0)) ∧ Below w.heap.size w w' := Any.strconv_toError_range Tryz.laysC245 fn s base bits ev w hlim hv hev
end Go.Proofs
