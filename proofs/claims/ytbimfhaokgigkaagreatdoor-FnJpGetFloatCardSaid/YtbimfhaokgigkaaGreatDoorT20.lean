/- Walks of functions of FnJpGetFloat (S1); conditions stand ahead of each theorem. -/
import Derived.Shelf.Strconv.Atoi
import Derived.Shelf.Strconv.AtoiErrFast
import Derived.Shelf.Strconv.ParseIntEmpty
import Derived.Shelf.Strconv.AtoiFail
import Derived.Shelf.LaysM
import Derived.Shelf.Strconv.Clone
import Derived.Shelf.Strconv.SyntaxError
import Derived.Shelf.LaysC
import Derived.Shelf.Strconv.ToError
import Derived.Shelf.Bin.LEUint64
import Derived.Shelf.Strconv.Lower
import Derived.Shelf.Strconv.ParseUint10
import Derived.Shelf.Strconv.ParseUint10Empty
import Derived.Shelf.Strconv.ParseUint10Any
import Derived.Shelf.Strconv.ParseInt10
import Derived.Shelf.Strconv.AtoiLong
import Derived.Shelf.Strconv.AtoiInnerAll
import Derived.Shelf.Strconv.RangeError
import Derived.Shelf.Strconv.ToErrorRange
import Derived.Shelf.Strconv.AtoiAll
import Derived.Shelf.Bits.Mul64
import Derived.Shelf.Bytes.SlIndexAt
import Derived.Shelf.Bytes.SlSearch0
import Derived.Shelf.Bytes.IndexByte
import Derived.Test.YtbimfhaokgigkaaGreatDoorProg
namespace Go.Proofs
open Go.Shelf
def Tryz.laysC245_ren : Go.Shelf.Ren := ⟨fun | 245 => 62 | 279 => 73 | 280 => 74 | 281 => 75 | 282 => 76 | 316 => 84 | 171 => 85 | 205 => 21 | 243 => 103 | 246 => 125 | 283 => 131 | 284 => 132 | 285 => 133 | 286 => 134 | 129 => 114 | 317 => 137 | 318 => 118 | 319 => 138 | 320 => 139 | 337 => 140 | 338 => 141 | n => n, fun | 9 => 9 | 3 => 3 | 75 => 40 | 167 => 121 | 4 => 4 | 168 => 122 | 210 => 136 | 37 => 43 | 0 => 0 | 127 => 166 | 145 => 76 | 143 => 74 | 2 => 2 | 171 => 203 | 53 => 69 | 5 => 5 | 173 => 205 | 212 => 212 | 51 => 106 | 20 => 20 | 213 => 213 | 46 => 95 | 232 => 216 | 233 => 108 | 80 => 217 | n => n, fun | 15 => 12 | 16 => 13 | 17 => 24 | 18 => 25 | 19 => 26 | n => n⟩
theorem Tryz.laysC245 : Go.Proofs.LaysC.n245 Tryz.prog Tryz.laysC245_ren := {
 mixed := by kernel_rfl
 f129 := Tryz.func114.trans (congrArg some (by kernel_rfl))
 f171 := Tryz.func85.trans (congrArg some (by kernel_rfl))
 f205 := Tryz.func21.trans (congrArg some (by kernel_rfl))
 f243 := Tryz.func103.trans (congrArg some (by kernel_rfl))
 f245 := Tryz.func62.trans (congrArg some (by kernel_rfl))
 f246 := Tryz.func125.trans (congrArg some (by kernel_rfl))
 f279 := Tryz.func73.trans (congrArg some (by kernel_rfl))
 f280 := Tryz.func74.trans (congrArg some (by kernel_rfl))
 f281 := Tryz.func75.trans (congrArg some (by kernel_rfl))
 f282 := Tryz.func76.trans (congrArg some (by kernel_rfl))
 f283 := Tryz.func131.trans (congrArg some (by kernel_rfl))
 f284 := Tryz.func132.trans (congrArg some (by kernel_rfl))
 f285 := Tryz.func133.trans (congrArg some (by kernel_rfl))
 f286 := Tryz.func134.trans (congrArg some (by kernel_rfl))
 f316 := Tryz.func84.trans (congrArg some (by kernel_rfl))
 f317 := Tryz.func137.trans (congrArg some (by kernel_rfl))
 f318 := Tryz.func118.trans (congrArg some (by kernel_rfl))
 f319 := Tryz.func138.trans (congrArg some (by kernel_rfl))
 f320 := Tryz.func139.trans (congrArg some (by kernel_rfl))
 f337 := Tryz.func140.trans (congrArg some (by kernel_rfl))
 f338 := Tryz.func141.trans (congrArg some (by kernel_rfl))
 t0 := Tryz.underlying0
 a0 := Tryz.isAgg0
 z0 := Tryz.sizeOf0
 v0 := Tryz.zeroValue0
 t2 := Tryz.underlying2
 a2 := Tryz.isAgg2
 z2 := Tryz.sizeOf2
 v2 := Tryz.zeroValue2
 t3 := Tryz.underlying3
 a3 := Tryz.isAgg3
 z3 := Tryz.sizeOf3
 v3 := Tryz.zeroValue3
 t4 := Tryz.underlying4
 a4 := Tryz.isAgg4
 z4 := Tryz.sizeOf4
 v4 := Tryz.zeroValue4
 t5 := Tryz.underlying5
 a5 := Tryz.isAgg5
 z5 := Tryz.sizeOf5
 v5 := Tryz.zeroValue5
 t9 := Tryz.underlying9
 a9 := Tryz.isAgg9
 z9 := Tryz.sizeOf9
 v9 := Tryz.zeroValue9
 t20 := Tryz.underlying20
 a20 := Tryz.isAgg20
 z20 := Tryz.sizeOf20
 v20 := Tryz.zeroValue20
 t37 := Tryz.underlying43
 a37 := Tryz.isAgg43
 z37 := Tryz.sizeOf43
 v37 := Tryz.zeroValue43
 t46 := Tryz.underlying95
 a46 := Tryz.isAgg95
 z46 := Tryz.sizeOf95
 v46 := Tryz.zeroValue95
 t51 := Tryz.underlying106
 a51 := Tryz.isAgg106
 z51 := Tryz.sizeOf106
 v51 := Tryz.zeroValue106
 t53 := Tryz.underlying69
 a53 := Tryz.isAgg69
 z53 := Tryz.sizeOf69
 v53 := Tryz.zeroValue69
 t75 := Tryz.underlying40
 a75 := Tryz.isAgg40
 z75 := Tryz.sizeOf40
 v75 := Tryz.zeroValue40
 t127 := Tryz.underlying166
 a127 := Tryz.isAgg166
 z127 := Tryz.sizeOf166
 v127 := Tryz.zeroValue166
 t143 := Tryz.underlying74
 a143 := Tryz.isAgg74
 z143 := Tryz.sizeOf74
 v143 := Tryz.zeroValue74
 t145 := Tryz.underlying76
 a145 := Tryz.isAgg76
 z145 := Tryz.sizeOf76
 v145 := Tryz.zeroValue76
 t167 := Tryz.underlying121
 a167 := Tryz.isAgg121
 z167 := Tryz.sizeOf121
 v167 := Tryz.zeroValue121
 t168 := Tryz.underlying122
 a168 := Tryz.isAgg122
 z168 := Tryz.sizeOf122
 v168 := Tryz.zeroValue122
 t171 := Tryz.underlying203
 a171 := Tryz.isAgg203
 z171 := Tryz.sizeOf203
 v171 := Tryz.zeroValue203
 t173 := Tryz.underlying205
 a173 := Tryz.isAgg205
 z173 := Tryz.sizeOf205
 v173 := Tryz.zeroValue205
 t210 := Tryz.underlying136
 a210 := Tryz.isAgg136
 z210 := Tryz.sizeOf136
 v210 := Tryz.zeroValue136
 t212 := Tryz.underlying212
 a212 := Tryz.isAgg212
 z212 := Tryz.sizeOf212
 v212 := Tryz.zeroValue212
 t213 := Tryz.underlying213
 a213 := Tryz.isAgg213
 z213 := Tryz.sizeOf213
 t232 := Tryz.underlying216
 a232 := Tryz.isAgg216
 z232 := Tryz.sizeOf216
 v232 := Tryz.zeroValue216
 t233 := Tryz.underlying108
 a233 := Tryz.isAgg108
 z233 := Tryz.sizeOf108
 v233 := Tryz.zeroValue108
 g15 := by kernel_rfl
 g16 := by kernel_rfl
 g17 := by kernel_rfl
 g18 := by kernel_rfl
 g19 := by kernel_rfl
 t80 := Tryz.underlying217
 a80 := Tryz.isAgg217
 z80 := Tryz.sizeOf217
 v80 := Tryz.zeroValue217
 i0 := by kernel_rfl
 i2 := by kernel_rfl
 i3 := by kernel_rfl
 i4 := by kernel_rfl
 i5 := by kernel_rfl
 i9 := by kernel_rfl
 i20 := by kernel_rfl
 i37 := by kernel_rfl
 i46 := by kernel_rfl
 i51 := by kernel_rfl
 i53 := by kernel_rfl
 i75 := by kernel_rfl
 i80 := by kernel_rfl
 i127 := by kernel_rfl
 i143 := by kernel_rfl
 i145 := by kernel_rfl
 i167 := by kernel_rfl
 i168 := by kernel_rfl
 i171 := by kernel_rfl
 i173 := by kernel_rfl
 i210 := by kernel_rfl
 i212 := by kernel_rfl
 i232 := by kernel_rfl
 i233 := by kernel_rfl
 m15 := by kernel_rfl
 m16 := by kernel_rfl
 m17 := by kernel_rfl
 m18 := by kernel_rfl
 m19 := by kernel_rfl
 c0 := by kernel_rfl
 c2 := by kernel_rfl
 c3 := by kernel_rfl
 c4 := by kernel_rfl
 c5 := by kernel_rfl
 c9 := by kernel_rfl
 c20 := by kernel_rfl
 c37 := by kernel_rfl
 c46 := by kernel_rfl
 c51 := by kernel_rfl
 c53 := by kernel_rfl
 c75 := by kernel_rfl
 c80 := by kernel_rfl
 c127 := by kernel_rfl
 c143 := by kernel_rfl
 c145 := by kernel_rfl
 c167 := by kernel_rfl
 c168 := by kernel_rfl
 c171 := by kernel_rfl
 c173 := by kernel_rfl
 c210 := by kernel_rfl
 c212 := by kernel_rfl
 c213 := by kernel_rfl
 c232 := by kernel_rfl
 c233 := by kernel_rfl }
open Go.RowKit in
theorem Tryz.strconv_toError_range (fn s : ByteArray) (base bits : Int) (ev : Value) (w : World) (hlim : s.size ≤ 281474976710656) (hv : w.cell? ⟨13, 0, none⟩ = some ev) (hev : ev = .nilIface ∨ ∃ te pe, ev = .iface te pe) :
  Calls Tryz.prog 62 #[.string fn, .string s, .int .i64 base, .int .i64 bits, .iface 121 (.int .i64 1)] w fun e w' => ∃ N, e = .returned (.iface 122 (.pointer (some ⟨N, 0, none⟩))) ∧ w.heap.size ≤ N ∧ w'.heap[N]? = some (.cells #[.string fn, .string s, ev] 136 (0, 0)) ∧ Below w.heap.size w w' := Any.strconv_toError_range Tryz.laysC245 fn s base bits ev w hlim hv hev
def Tryz.laysBin33_ren : Go.Shelf.Ren := ⟨fun | 33 => 77 | n => n, fun | 25 => 126 | 22 => 43 | 33 => 69 | 0 => 0 | 5 => 5 | 45 => 95 | n => n, fun | n => n⟩
theorem Tryz.laysBin33 : Go.Proofs.LaysBin.n33 Tryz.prog Tryz.laysBin33_ren := {
 mixed := by kernel_rfl
 f33 := Tryz.func77.trans (congrArg some (by kernel_rfl))
 t0 := Tryz.underlying0
 a0 := Tryz.isAgg0
 z0 := Tryz.sizeOf0
 v0 := Tryz.zeroValue0
 i0 := by kernel_rfl
 t5 := Tryz.underlying5
 a5 := Tryz.isAgg5
 z5 := Tryz.sizeOf5
 v5 := Tryz.zeroValue5
 i5 := by kernel_rfl
 t22 := Tryz.underlying43
 a22 := Tryz.isAgg43
 z22 := Tryz.sizeOf43
 v22 := Tryz.zeroValue43
 i22 := by kernel_rfl
 t25 := Tryz.underlying126
 a25 := Tryz.isAgg126
 z25 := Tryz.sizeOf126
 v25 := Tryz.zeroValue126
 i25 := by kernel_rfl
 t33 := Tryz.underlying69
 a33 := Tryz.isAgg69
 z33 := Tryz.sizeOf69
 v33 := Tryz.zeroValue69
 i33 := by kernel_rfl
 t45 := Tryz.underlying95
 a45 := Tryz.isAgg95
 z45 := Tryz.sizeOf95
 v45 := Tryz.zeroValue95
 i45 := by kernel_rfl }
open Go.RowKit in
theorem Tryz.binary_LE_Uint64 (g o n c : Nat) (b0 b1 b2 b3 b4 b5 b6 b7 : UInt8) (w : World) (hn : 8 ≤ n) (c0 : w.cell? ⟨g, o, none⟩ = some (.int .u8 b0.toNat)) (c1 : w.cell? ⟨g, o + 1, none⟩ = some (.int .u8 b1.toNat)) (c2 : w.cell? ⟨g, o + 2, none⟩ = some (.int .u8 b2.toNat)) (c3 : w.cell? ⟨g, o + 3, none⟩ = some (.int .u8 b3.toNat)) (c4 : w.cell? ⟨g, o + 4, none⟩ = some (.int .u8 b4.toNat)) (c5 : w.cell? ⟨g, o + 5, none⟩ = some (.int .u8 b5.toNat)) (c6 : w.cell? ⟨g, o + 6, none⟩ = some (.int .u8 b6.toNat)) (c7 : w.cell? ⟨g, o + 7, none⟩ = some (.int .u8 b7.toNat)) :
  Calls Tryz.prog 77 #[.agg #[], .slice (some ⟨g, o, none⟩) n c] w fun e w' => e = .returned (.int .u64 (Lib.leNat [b0, b1, b2, b3, b4, b5, b6, b7])) ∧ Below w.heap.size w w' := Any.binary_LE_Uint64 Tryz.laysBin33 g o n c b0 b1 b2 b3 b4 b5 b6 b7 w hn c0 c1 c2 c3 c4 c5 c6 c7
def Tryz.lays187_ren : Go.Shelf.Ren := ⟨fun | 187 => 78 | 255 => 86 | n => n, fun | 37 => 43 | 5 => 5 | 3 => 3 | n => n, fun | n => n⟩
theorem Tryz.lays187 : Go.Proofs.Lays.n187 Tryz.prog Tryz.lays187_ren := {
 mixed := by kernel_rfl
 f187 := Tryz.func78.trans (congrArg some (by kernel_rfl))
 f255 := Tryz.func86.trans (congrArg some (by kernel_rfl))
 t3 := Tryz.underlying3
 a3 := Tryz.isAgg3
 z3 := Tryz.sizeOf3
 v3 := Tryz.zeroValue3
 t5 := Tryz.underlying5
 a5 := Tryz.isAgg5
 z5 := Tryz.sizeOf5
 v5 := Tryz.zeroValue5
 t37 := Tryz.underlying43
 a37 := Tryz.isAgg43
 z37 := Tryz.sizeOf43
 v37 := Tryz.zeroValue43 }
open Go.RowKit Go.Lib in
open Go.RowKit in
theorem Tryz.bytes_IndexByte (b o n c : Nat) (xs : List Int) (cv : Int) (w : World) (hx : xs.length = n) (hc : ∀ i, i < n → w.cell? ⟨b, o + i, none⟩ = some (.int .u8 (xs.getD i 0))) :
  Calls Tryz.prog 78 #[.slice (some ⟨b, o, none⟩) n c, .int .u8 cv] w fun e w' => e = .returned (.int .i64 (Lib.indexByte (Lib.bytesOf xs) cv.toNat.toUInt8)) ∧ w' = w := Any.bytes_IndexByte Tryz.lays187 b o n c xs cv w hx hc
open Go.RowKit in
theorem Tryz.bytes_IndexByte_at (a : Addr) (n c : Nat) (xs : List Int) (cv : Int) (w : World) (hx : xs.length = n) (hc : ∀ i, i < n → w.cell? (a.add i) = some (.int .u8 (xs.getD i 0))) :
  Calls Tryz.prog 78 #[.slice (some a) n c, .int .u8 cv] w fun e w' => e = .returned (.int .i64 (Lib.indexByte (Lib.bytesOf xs) cv.toNat.toUInt8)) ∧ w' = w := Any.bytes_IndexByte_at Tryz.lays187 a n c xs cv w hx hc
open Go.Proofs Go.RowKit Go.Lib in
open Go.RowKit in
theorem Tryz.bytes_IndexByte_nil (cv : Int) (w : World) :
  Calls Tryz.prog 78 #[.slice none 0 0, .int .u8 cv] w fun e w' => e = .returned (.int .i64 (-1)) ∧ w' = w := Any.bytes_IndexByte_nil Tryz.lays187 cv w
def Tryz.lays172_ren : Go.Shelf.Ren := ⟨fun | 172 => 68 | 244 => 80 | 245 => 62 | 247 => 89 | 279 => 73 | 280 => 74 | 281 => 75 | 282 => 76 | 287 => 108 | 316 => 84 | 171 => 85 | 205 => 21 | 321 => 112 | 322 => 113 | 243 => 103 | 246 => 125 | 283 => 131 | 284 => 132 | 285 => 133 | 286 => 134 | 129 => 114 | 317 => 137 | 318 => 118 | 319 => 138 | 320 => 139 | 337 => 140 | 338 => 141 | n => n, fun | 9 => 9 | 3 => 3 | 75 => 40 | 76 => 114 | 4 => 4 | 5 => 5 | 167 => 121 | 37 => 43 | 0 => 0 | 85 => 142 | 2 => 2 | 168 => 122 | 53 => 69 | 175 => 171 | 46 => 95 | 210 => 136 | 127 => 166 | 145 => 76 | 143 => 74 | 21 => 21 | 171 => 203 | 173 => 205 | 212 => 212 | 51 => 106 | 20 => 20 | 213 => 213 | 232 => 216 | 233 => 108 | 80 => 217 | n => n, fun | 15 => 12 | 16 => 13 | 17 => 24 | 18 => 25 | 19 => 26 | n => n⟩
theorem Tryz.lays172 : Go.Proofs.Lays.n172 Tryz.prog Tryz.lays172_ren := {
 mixed := by kernel_rfl
 f129 := Tryz.func114.trans (congrArg some (by kernel_rfl))
 f171 := Tryz.func85.trans (congrArg some (by kernel_rfl))
 f172 := Tryz.func68.trans (congrArg some (by kernel_rfl))
 f205 := Tryz.func21.trans (congrArg some (by kernel_rfl))
 f243 := Tryz.func103.trans (congrArg some (by kernel_rfl))
 f244 := Tryz.func80.trans (congrArg some (by kernel_rfl))
 f245 := Tryz.func62.trans (congrArg some (by kernel_rfl))
 f246 := Tryz.func125.trans (congrArg some (by kernel_rfl))
 f247 := Tryz.func89.trans (congrArg some (by kernel_rfl))
 f279 := Tryz.func73.trans (congrArg some (by kernel_rfl))
 f280 := Tryz.func74.trans (congrArg some (by kernel_rfl))
 f281 := Tryz.func75.trans (congrArg some (by kernel_rfl))
 f282 := Tryz.func76.trans (congrArg some (by kernel_rfl))
 f283 := Tryz.func131.trans (congrArg some (by kernel_rfl))
 f284 := Tryz.func132.trans (congrArg some (by kernel_rfl))
 f285 := Tryz.func133.trans (congrArg some (by kernel_rfl))
 f286 := Tryz.func134.trans (congrArg some (by kernel_rfl))
 f287 := Tryz.func108.trans (congrArg some (by kernel_rfl))
 f316 := Tryz.func84.trans (congrArg some (by kernel_rfl))
 f317 := Tryz.func137.trans (congrArg some (by kernel_rfl))
 f318 := Tryz.func118.trans (congrArg some (by kernel_rfl))
 f319 := Tryz.func138.trans (congrArg some (by kernel_rfl))
 f320 := Tryz.func139.trans (congrArg some (by kernel_rfl))
 f321 := Tryz.func112.trans (congrArg some (by kernel_rfl))
 f322 := Tryz.func113.trans (congrArg some (by kernel_rfl))
 f337 := Tryz.func140.trans (congrArg some (by kernel_rfl))
 f338 := Tryz.func141.trans (congrArg some (by kernel_rfl))
 t0 := Tryz.underlying0
 a0 := Tryz.isAgg0
 z0 := Tryz.sizeOf0
 v0 := Tryz.zeroValue0
 t2 := Tryz.underlying2
 a2 := Tryz.isAgg2
 z2 := Tryz.sizeOf2
 v2 := Tryz.zeroValue2
 t3 := Tryz.underlying3
 a3 := Tryz.isAgg3
 z3 := Tryz.sizeOf3
 v3 := Tryz.zeroValue3
 t4 := Tryz.underlying4
 a4 := Tryz.isAgg4
 z4 := Tryz.sizeOf4
 v4 := Tryz.zeroValue4
 t5 := Tryz.underlying5
 a5 := Tryz.isAgg5
 z5 := Tryz.sizeOf5
 v5 := Tryz.zeroValue5
 t9 := Tryz.underlying9
 a9 := Tryz.isAgg9
 z9 := Tryz.sizeOf9
 v9 := Tryz.zeroValue9
 t20 := Tryz.underlying20
 a20 := Tryz.isAgg20
 z20 := Tryz.sizeOf20
 v20 := Tryz.zeroValue20
 t21 := Tryz.underlying21
 a21 := Tryz.isAgg21
 z21 := Tryz.sizeOf21
 v21 := Tryz.zeroValue21
 t37 := Tryz.underlying43
 a37 := Tryz.isAgg43
 z37 := Tryz.sizeOf43
 v37 := Tryz.zeroValue43
 t46 := Tryz.underlying95
 a46 := Tryz.isAgg95
 z46 := Tryz.sizeOf95
 v46 := Tryz.zeroValue95
 t51 := Tryz.underlying106
 a51 := Tryz.isAgg106
 z51 := Tryz.sizeOf106
 v51 := Tryz.zeroValue106
 t53 := Tryz.underlying69
 a53 := Tryz.isAgg69
 z53 := Tryz.sizeOf69
 v53 := Tryz.zeroValue69
 t75 := Tryz.underlying40
 a75 := Tryz.isAgg40
 z75 := Tryz.sizeOf40
 v75 := Tryz.zeroValue40
 t76 := Tryz.underlying114
 a76 := Tryz.isAgg114
 z76 := Tryz.sizeOf114
 v76 := Tryz.zeroValue114
 t85 := Tryz.underlying142
 a85 := Tryz.isAgg142
 z85 := Tryz.sizeOf142
 v85 := Tryz.zeroValue142
 t127 := Tryz.underlying166
 a127 := Tryz.isAgg166
 z127 := Tryz.sizeOf166
 v127 := Tryz.zeroValue166
 t143 := Tryz.underlying74
 a143 := Tryz.isAgg74
 z143 := Tryz.sizeOf74
 v143 := Tryz.zeroValue74
 t145 := Tryz.underlying76
 a145 := Tryz.isAgg76
 z145 := Tryz.sizeOf76
 v145 := Tryz.zeroValue76
 t167 := Tryz.underlying121
 a167 := Tryz.isAgg121
 z167 := Tryz.sizeOf121
 v167 := Tryz.zeroValue121
 t168 := Tryz.underlying122
 a168 := Tryz.isAgg122
 z168 := Tryz.sizeOf122
 v168 := Tryz.zeroValue122
 t171 := Tryz.underlying203
 a171 := Tryz.isAgg203
 z171 := Tryz.sizeOf203
 v171 := Tryz.zeroValue203
 t173 := Tryz.underlying205
 a173 := Tryz.isAgg205
 z173 := Tryz.sizeOf205
 v173 := Tryz.zeroValue205
 t175 := Tryz.underlying171
 a175 := Tryz.isAgg171
 z175 := Tryz.sizeOf171
 v175 := Tryz.zeroValue171
 t210 := Tryz.underlying136
 a210 := Tryz.isAgg136
 z210 := Tryz.sizeOf136
 v210 := Tryz.zeroValue136
 t212 := Tryz.underlying212
 a212 := Tryz.isAgg212
 z212 := Tryz.sizeOf212
 v212 := Tryz.zeroValue212
 t213 := Tryz.underlying213
 a213 := Tryz.isAgg213
 z213 := Tryz.sizeOf213
 t232 := Tryz.underlying216
 a232 := Tryz.isAgg216
 z232 := Tryz.sizeOf216
 v232 := Tryz.zeroValue216
 t233 := Tryz.underlying108
 a233 := Tryz.isAgg108
 z233 := Tryz.sizeOf108
 v233 := Tryz.zeroValue108
 g15 := by kernel_rfl
 g16 := by kernel_rfl
 g17 := by kernel_rfl
 g18 := by kernel_rfl
 g19 := by kernel_rfl }
open Go.RowKit in
theorem Tryz.strconv_Atoi (s : ByteArray) (n : Int) (hl : s.size ≤ 18) (h : Lib.atoi s.data.toList = some n) (w : World) :
  Calls Tryz.prog 68 #[.string s] w fun e w' => e = .returned (.tuple #[.int .i64 n, .nilIface]) ∧ ∃ t, w' = Lib.bytesWorld w 5 t := Any.strconv_Atoi Tryz.lays172 s n hl h w
end Go.Proofs
