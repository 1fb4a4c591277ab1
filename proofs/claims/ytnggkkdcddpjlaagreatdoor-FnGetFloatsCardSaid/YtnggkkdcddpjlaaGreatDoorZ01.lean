/- Contracts of the kit's library at this program, laid in plain words by the kit's tools (strconv's toError, numDigits, formatBase10, lower, bits.Len64, bits.Mul64): each an application of the library's own theorem, no condition but its premises. What a world holds of the listed variables, and that it keeps it. -/
import Derived.Shelf.Small.Utf8
import Derived.Shelf.Small.Wraps
import Derived.Shelf.Strconv.ParseBool
import Derived.Shelf.Strconv.Itoa0
import Derived.Shelf.Strconv.Itoa1
import Derived.Shelf.LaysM
import Derived.Shelf.Strconv.Itoa2
import Derived.Shelf.Strconv.Itoa3
import Derived.Shelf.Strconv.Itoa4
import Derived.Shelf.Strconv.ParseIntEmpty
import Derived.Shelf.Strconv.Clone
import Derived.Shelf.Strconv.SyntaxError
import Derived.Shelf.LaysC
import Derived.Shelf.Strconv.ToError
import Derived.Shelf.Strconv.ParseBoolErrInner
import Derived.Shelf.Strconv.ParseBoolErr
import Derived.Shelf.Strconv.ErrVar
import Derived.Shelf.Strconv.Lower
import Derived.Shelf.Strconv.RangeError
import Derived.Shelf.Strconv.ToErrorRange
import Derived.Shelf.Bits.Mul64
import Derived.Shelf.Unicode.DecodeSlow
import Derived.Test.YtnggkkdcddpjlaaGreatDoorProg
import Derived.WalkKit
import Derived.WalkLawsBesides
import Derived.WalkSpells
import Derived.Laws.FloatArith
import Derived.Lib.LaidTab
import Derived.Lib.Hide
import Derived.Deep.QuietTactic
import Derived.BigQuiet
namespace Go.Proofs
open Go.Shelf
def Tryz.lays129_ren : Go.Shelf.Ren := ⟨fun | 129 => 201 | n => n, fun | 53 => 24 | 3 => 3 | 4 => 4 | 46 => 80 | 5 => 5 | 9 => 9 | n => n, fun | n => n⟩
theorem Tryz.lays129 : Go.Proofs.Lays.n129 Tryz.prog Tryz.lays129_ren := {
  mixed := by kernel_rfl
  f129 := Tryz.func201.trans (congrArg some (by kernel_rfl))
  t3 := Tryz.underlying3
  a3 := Tryz.isAgg3
  z3 := Tryz.sizeOf3
  v3 := Tryz.zeroValue3
  t4 := Tryz.underlying4
  a4 := Tryz.isAgg4
  z4 := Tryz.sizeOf4
  v4 := Tryz.zeroValue4
  t5 := Tryz.underlying5
  a5 := Tryz.isAgg5
  z5 := Tryz.sizeOf5
  v5 := Tryz.zeroValue5
  t9 := Tryz.underlying9
  a9 := Tryz.isAgg9
  z9 := Tryz.sizeOf9
  v9 := Tryz.zeroValue9
  t46 := Tryz.underlying80
  a46 := Tryz.isAgg80
  z46 := Tryz.sizeOf80
  v46 := Tryz.zeroValue80
  t53 := Tryz.underlying24
  a53 := Tryz.isAgg24
  z53 := Tryz.sizeOf24
  v53 := Tryz.zeroValue24 }
/-- bits.Len64: "Len64 returns the minimum number of bits required to represent x; the result is 0 for x == 0.": IT RETURNS 'Lib.bitLen x'; the world is as it was. ('h0', 'h1': x is a uint64.) (LAID: no walk: one application.) -/
theorem Tryz.bits_Len64 (x : Int) (w : World) (h0 : 0 ≤ x) (h1 : x ≤ 18446744073709551615) :
    Calls Tryz.prog 201 #[.int .u64 x] w fun e w' => e = .returned (.int .i64 (Lib.bitLen x.toNat)) ∧ w' = w := Any.bits_Len64 Tryz.lays129 x w h0 h1
def Tryz.lays318_ren : Go.Shelf.Ren := ⟨fun | 318 => 210 | n => n, fun | 3 => 3 | 4 => 4 | n => n, fun | n => n⟩
theorem Tryz.lays318 : Go.Proofs.Lays.n318 Tryz.prog Tryz.lays318_ren := {
  mixed := by kernel_rfl
  f318 := Tryz.func210.trans (congrArg some (by kernel_rfl))
  t3 := Tryz.underlying3
  a3 := Tryz.isAgg3
  z3 := Tryz.sizeOf3
  v3 := Tryz.zeroValue3
  t4 := Tryz.underlying4
  a4 := Tryz.isAgg4
  z4 := Tryz.sizeOf4
  v4 := Tryz.zeroValue4 }
open Go.Lib in
/-- internal/strconv.bool2: "bool2 converts b to an integer: 1 for true, 0 for false." The world is as it was. (LAID: no walk: one application.) -/
theorem Tryz.internal_strconv_bool2_int (b : Bool) (w : World) :
    Calls Tryz.prog 210 #[.bool b] w fun e w' => e = .returned (.int .i64 (if b then 1 else 0)) ∧ w' = w := Any.internal_strconv_bool2_int Tryz.lays318 b w
def Tryz.laysM284_ren : Go.Shelf.Ren := ⟨fun | 284 => 179 | 129 => 201 | 317 => 204 | 318 => 210 | n => n, fun | 53 => 24 | 3 => 3 | 212 => 305 | 0 => 0 | 4 => 4 | 46 => 80 | 5 => 5 | 9 => 9 | n => n, fun | 17 => 4 | n => n⟩
theorem Tryz.laysM284 : Go.Proofs.LaysM.n284 Tryz.prog Tryz.laysM284_ren := {
  mixed := by kernel_rfl
  f129 := Tryz.func201.trans (congrArg some (by kernel_rfl))
  f284 := Tryz.func179.trans (congrArg some (by kernel_rfl))
  f317 := Tryz.func204.trans (congrArg some (by kernel_rfl))
  f318 := Tryz.func210.trans (congrArg some (by kernel_rfl))
  t0 := Tryz.underlying0
  a0 := Tryz.isAgg0
  z0 := Tryz.sizeOf0
  v0 := Tryz.zeroValue0
  t3 := Tryz.underlying3
  a3 := Tryz.isAgg3
  z3 := Tryz.sizeOf3
  v3 := Tryz.zeroValue3
  t4 := Tryz.underlying4
  a4 := Tryz.isAgg4
  z4 := Tryz.sizeOf4
  v4 := Tryz.zeroValue4
  t5 := Tryz.underlying5
  a5 := Tryz.isAgg5
  z5 := Tryz.sizeOf5
  v5 := Tryz.zeroValue5
  t9 := Tryz.underlying9
  a9 := Tryz.isAgg9
  z9 := Tryz.sizeOf9
  v9 := Tryz.zeroValue9
  t46 := Tryz.underlying80
  a46 := Tryz.isAgg80
  z46 := Tryz.sizeOf80
  v46 := Tryz.zeroValue80
  t53 := Tryz.underlying24
  a53 := Tryz.isAgg24
  z53 := Tryz.sizeOf24
  v53 := Tryz.zeroValue24
  t212 := Tryz.underlying305
  a212 := Tryz.isAgg305
  z212 := Tryz.sizeOf305
  v212 := Tryz.zeroValue305
  g17 := by kernel_rfl
  i0 := by kernel_rfl
  i3 := by kernel_rfl
  i4 := by kernel_rfl
  i5 := by kernel_rfl
  i9 := by kernel_rfl
  i46 := by kernel_rfl
  i53 := by kernel_rfl
  i212 := by kernel_rfl
  m17 := by kernel_rfl }
open Go.Lib in
/-- internal/strconv.numDigits, at a d that is not 0: THE NUMBER OF d's DECIMAL DIGITS. The world is as it was. (LAID: no walk: one application.) -/
theorem Tryz.internal_strconv_numDigits (u : Nat) (h1 : 1 ≤ u) (h2 : u < 18446744073709551616) (w : World) (htab : Lib.TabIs Tryz.prog w "internal/strconv.uint64pow10" .u64 Lib.pow10Tab) :
    Calls Tryz.prog 179 #[.int .u64 u] w fun e w' => e = .returned (.int .i64 (Lib.nDigits u)) ∧ w' = w := Any.internal_strconv_numDigits Tryz.laysM284 u h1 h2 w htab
def Tryz.lays285_ren : Go.Shelf.Ren := ⟨fun | 285 => 180 | n => n, fun | 37 => 130 | 53 => 24 | 3 => 3 | 4 => 4 | 51 => 127 | 9 => 9 | 5 => 5 | 0 => 0 | n => n, fun | n => n⟩
theorem Tryz.lays285 : Go.Proofs.Lays.n285 Tryz.prog Tryz.lays285_ren := {
  mixed := by kernel_rfl
  f285 := Tryz.func180.trans (congrArg some (by kernel_rfl))
  t0 := Tryz.underlying0
  a0 := Tryz.isAgg0
  z0 := Tryz.sizeOf0
  v0 := Tryz.zeroValue0
  t3 := Tryz.underlying3
  a3 := Tryz.isAgg3
  z3 := Tryz.sizeOf3
  v3 := Tryz.zeroValue3
  t4 := Tryz.underlying4
  a4 := Tryz.isAgg4
  z4 := Tryz.sizeOf4
  v4 := Tryz.zeroValue4
  t5 := Tryz.underlying5
  a5 := Tryz.isAgg5
  z5 := Tryz.sizeOf5
  v5 := Tryz.zeroValue5
  t9 := Tryz.underlying9
  a9 := Tryz.isAgg9
  z9 := Tryz.sizeOf9
  v9 := Tryz.zeroValue9
  t37 := Tryz.underlying130
  a37 := Tryz.isAgg130
  z37 := Tryz.sizeOf130
  v37 := Tryz.zeroValue130
  t51 := Tryz.underlying127
  a51 := Tryz.isAgg127
  z51 := Tryz.sizeOf127
  v51 := Tryz.zeroValue127
  t53 := Tryz.underlying24
  a53 := Tryz.isAgg24
  z53 := Tryz.sizeOf24
  v53 := Tryz.zeroValue24 }
open Go.RowKit Go.Sort Go.Lib in
/-- internal/strconv.formatBase10: "formatBase10 formats the decimal representation of u into a. The caller is responsible for ensuring that a is big enough to hold u. If a is too big, leading zeros will be filled in as needed.": THE ROW HOLDS u's DIGITS ('FmtInv .. 0 ..': every place t holds 'dg u (len - 1 - t)'); all else is as it was but for the count of draws. (LAID: no walk: one application.) -/
theorem Tryz.internal_strconv_formatBase10 (blk off cap : Nat) (u : Nat) (d : Array UInt8) (w : World) (hH : Holds (fun (b : UInt8) => Value.int .u8 (b.toNat : Int)) w blk off d) (hu : u < 10 ^ d.size) (hu64 : u < 18446744073709551616) (hsz : d.size < 4611686018427387904) :
    Calls Tryz.prog 180 #[.slice (some ⟨blk, off, none⟩) d.size cap, .int .u64 u] w fun e w' =>
      e = .returned (.tuple #[]) ∧ ∃ (n v' : Nat) (dk : Array UInt8), w' = (putRow (fun (b : UInt8) => Value.int .u8 (b.toNat : Int)) w blk off dk).drewN n ∧ FmtInv d.size u 0 v' dk := Any.internal_strconv_formatBase10 Tryz.lays285 blk off cap u d w hH hu hu64 hsz
def Tryz.laysC245_ren : Go.Shelf.Ren := ⟨fun | 245 => 136 | 279 => 172 | 280 => 173 | 281 => 174 | 282 => 175 | 316 => 195 | 171 => 102 | 205 => 82 | 243 => 140 | 246 => 141 | 283 => 178 | 284 => 179 | 285 => 180 | 286 => 181 | 129 => 201 | 317 => 204 | 318 => 210 | 319 => 211 | 320 => 212 | 337 => 237 | 338 => 238 | n => n, fun | 9 => 9 | 3 => 3 | 75 => 73 | 167 => 257 | 4 => 4 | 168 => 258 | 210 => 287 | 37 => 130 | 0 => 0 | 127 => 316 | 145 => 209 | 143 => 207 | 2 => 2 | 171 => 264 | 53 => 24 | 5 => 5 | 173 => 267 | 212 => 305 | 51 => 127 | 20 => 20 | 213 => 306 | 46 => 80 | 232 => 292 | 233 => 360 | 80 => 121 | n => n, fun | 15 => 1 | 16 => 2 | 17 => 4 | 18 => 9 | 19 => 10 | n => n⟩
theorem Tryz.laysC245 : Go.Proofs.LaysC.n245 Tryz.prog Tryz.laysC245_ren := {
  mixed := by kernel_rfl
  f129 := Tryz.func201.trans (congrArg some (by kernel_rfl))
  f171 := Tryz.func102.trans (congrArg some (by kernel_rfl))
  f205 := Tryz.func82.trans (congrArg some (by kernel_rfl))
  f243 := Tryz.func140.trans (congrArg some (by kernel_rfl))
  f245 := Tryz.func136.trans (congrArg some (by kernel_rfl))
  f246 := Tryz.func141.trans (congrArg some (by kernel_rfl))
  f279 := Tryz.func172.trans (congrArg some (by kernel_rfl))
  f280 := Tryz.func173.trans (congrArg some (by kernel_rfl))
  f281 := Tryz.func174.trans (congrArg some (by kernel_rfl))
  f282 := Tryz.func175.trans (congrArg some (by kernel_rfl))
  f283 := Tryz.func178.trans (congrArg some (by kernel_rfl))
  f284 := Tryz.func179.trans (congrArg some (by kernel_rfl))
  f285 := Tryz.func180.trans (congrArg some (by kernel_rfl))
  f286 := Tryz.func181.trans (congrArg some (by kernel_rfl))
  f316 := Tryz.func195.trans (congrArg some (by kernel_rfl))
  f317 := Tryz.func204.trans (congrArg some (by kernel_rfl))
  f318 := Tryz.func210.trans (congrArg some (by kernel_rfl))
  f319 := Tryz.func211.trans (congrArg some (by kernel_rfl))
  f320 := Tryz.func212.trans (congrArg some (by kernel_rfl))
  f337 := Tryz.func237.trans (congrArg some (by kernel_rfl))
  f338 := Tryz.func238.trans (congrArg some (by kernel_rfl))
  t0 := Tryz.underlying0
  a0 := Tryz.isAgg0
  z0 := Tryz.sizeOf0
  v0 := Tryz.zeroValue0
  t2 := Tryz.underlying2
  a2 := Tryz.isAgg2
  z2 := Tryz.sizeOf2
  v2 := Tryz.zeroValue2
  t3 := Tryz.underlying3
  a3 := Tryz.isAgg3
  z3 := Tryz.sizeOf3
  v3 := Tryz.zeroValue3
  t4 := Tryz.underlying4
  a4 := Tryz.isAgg4
  z4 := Tryz.sizeOf4
  v4 := Tryz.zeroValue4
  t5 := Tryz.underlying5
  a5 := Tryz.isAgg5
  z5 := Tryz.sizeOf5
  v5 := Tryz.zeroValue5
  t9 := Tryz.underlying9
  a9 := Tryz.isAgg9
  z9 := Tryz.sizeOf9
  v9 := Tryz.zeroValue9
  t20 := Tryz.underlying20
  a20 := Tryz.isAgg20
  z20 := Tryz.sizeOf20
  v20 := Tryz.zeroValue20
  t37 := Tryz.underlying130
  a37 := Tryz.isAgg130
  z37 := Tryz.sizeOf130
  v37 := Tryz.zeroValue130
  t46 := Tryz.underlying80
  a46 := Tryz.isAgg80
  z46 := Tryz.sizeOf80
  v46 := Tryz.zeroValue80
  t51 := Tryz.underlying127
  a51 := Tryz.isAgg127
  z51 := Tryz.sizeOf127
  v51 := Tryz.zeroValue127
  t53 := Tryz.underlying24
  a53 := Tryz.isAgg24
  z53 := Tryz.sizeOf24
  v53 := Tryz.zeroValue24
  t75 := Tryz.underlying73
  a75 := Tryz.isAgg73
  z75 := Tryz.sizeOf73
  v75 := Tryz.zeroValue73
  t127 := Tryz.underlying316
  a127 := Tryz.isAgg316
  z127 := Tryz.sizeOf316
  v127 := Tryz.zeroValue316
  t143 := Tryz.underlying207
  a143 := Tryz.isAgg207
  z143 := Tryz.sizeOf207
  v143 := Tryz.zeroValue207
  t145 := Tryz.underlying209
  a145 := Tryz.isAgg209
  z145 := Tryz.sizeOf209
  v145 := Tryz.zeroValue209
  t167 := Tryz.underlying257
  a167 := Tryz.isAgg257
  z167 := Tryz.sizeOf257
  v167 := Tryz.zeroValue257
  t168 := Tryz.underlying258
  a168 := Tryz.isAgg258
  z168 := Tryz.sizeOf258
  v168 := Tryz.zeroValue258
  t171 := Tryz.underlying264
  a171 := Tryz.isAgg264
  z171 := Tryz.sizeOf264
  v171 := Tryz.zeroValue264
  t173 := Tryz.underlying267
  a173 := Tryz.isAgg267
  z173 := Tryz.sizeOf267
  v173 := Tryz.zeroValue267
  t210 := Tryz.underlying287
  a210 := Tryz.isAgg287
  z210 := Tryz.sizeOf287
  v210 := Tryz.zeroValue287
  t212 := Tryz.underlying305
  a212 := Tryz.isAgg305
  z212 := Tryz.sizeOf305
  v212 := Tryz.zeroValue305
  t213 := Tryz.underlying306
  a213 := Tryz.isAgg306
  z213 := Tryz.sizeOf306
  t232 := Tryz.underlying292
  a232 := Tryz.isAgg292
  z232 := Tryz.sizeOf292
  v232 := Tryz.zeroValue292
  t233 := Tryz.underlying360
  a233 := Tryz.isAgg360
  z233 := Tryz.sizeOf360
  v233 := Tryz.zeroValue360
  g15 := by kernel_rfl
  g16 := by kernel_rfl
  g17 := by kernel_rfl
  g18 := by kernel_rfl
  g19 := by kernel_rfl
  t80 := Tryz.underlying121
  a80 := Tryz.isAgg121
  z80 := Tryz.sizeOf121
  v80 := Tryz.zeroValue121
  i0 := by kernel_rfl
  i2 := by kernel_rfl
  i3 := by kernel_rfl
  i4 := by kernel_rfl
  i5 := by kernel_rfl
  i9 := by kernel_rfl
  i20 := by kernel_rfl
  i37 := by kernel_rfl
  i46 := by kernel_rfl
  i51 := by kernel_rfl
  i53 := by kernel_rfl
  i75 := by kernel_rfl
  i80 := by kernel_rfl
  i127 := by kernel_rfl
  i143 := by kernel_rfl
  i145 := by kernel_rfl
  i167 := by kernel_rfl
  i168 := by kernel_rfl
  i171 := by kernel_rfl
  i173 := by kernel_rfl
  i210 := by kernel_rfl
  i212 := by kernel_rfl
  i232 := by kernel_rfl
  i233 := by kernel_rfl
  m15 := by kernel_rfl
  m16 := by kernel_rfl
  m17 := by kernel_rfl
  m18 := by kernel_rfl
  m19 := by kernel_rfl
  c0 := by kernel_rfl
  c2 := by kernel_rfl
  c3 := by kernel_rfl
  c4 := by kernel_rfl
  c5 := by kernel_rfl
  c9 := by kernel_rfl
  c20 := by kernel_rfl
  c37 := by kernel_rfl
  c46 := by kernel_rfl
  c51 := by kernel_rfl
  c53 := by kernel_rfl
  c75 := by kernel_rfl
  c80 := by kernel_rfl
  c127 := by kernel_rfl
  c143 := by kernel_rfl
  c145 := by kernel_rfl
  c167 := by kernel_rfl
  c168 := by kernel_rfl
  c171 := by kernel_rfl
  c173 := by kernel_rfl
  c210 := by kernel_rfl
  c212 := by kernel_rfl
  c213 := by kernel_rfl
  c232 := by kernel_rfl
  c233 := by kernel_rfl }
open Go.RowKit in
/-- strconv.toError, at the inner package's ErrSyntax: 'syntaxError(fn, s)' as an error: A *NumError IN A NEW BLOCK. (LAID: no walk: one application.) -/
theorem Tryz.strconv_toError_syntax (fn s : ByteArray) (base bits : Int) (ev : Value) (w : World) (hlim : s.size ≤ 281474976710656) (hv : w.cell? ⟨1, 0, none⟩ = some ev) (hev : ev = .nilIface ∨ ∃ te pe, ev = .iface te pe) :
    Calls Tryz.prog 136 #[.string fn, .string s, .int .i64 base, .int .i64 bits, .iface 257 (.int .i64 2)] w fun e w' => ∃ N, e = .returned (.iface 258 (.pointer (some ⟨N, 0, none⟩))) ∧ w.heap.size ≤ N ∧ w'.heap[N]? = some (.cells #[.string fn, .string s, ev] 287 (0, 0)) ∧ Below w.heap.size w w' := Any.strconv_toError_syntax Tryz.laysC245 fn s base bits ev w hlim hv hev
def Tryz.lays321_ren : Go.Shelf.Ren := ⟨fun | 321 => 214 | n => n, fun | 5 => 5 | n => n, fun | n => n⟩
theorem Tryz.lays321 : Go.Proofs.Lays.n321 Tryz.prog Tryz.lays321_ren := {
  mixed := by kernel_rfl
  f321 := Tryz.func214.trans (congrArg some (by kernel_rfl))
  t5 := Tryz.underlying5
  a5 := Tryz.isAgg5
  z5 := Tryz.sizeOf5
  v5 := Tryz.zeroValue5 }
open Go.RowKit in
/-- internal/strconv.lower: 'c | ('x' - 'X')': the bit 32 set. The world is as it was. (LAID: no walk: one application.) -/
theorem Tryz.internal_strconv_lower (c : Int) (w : World) :
    Calls Tryz.prog 214 #[.int .u8 c] w fun e w' => e = .returned (.int .u8 (bits .or .u8 c 32)) ∧ w' = w := Any.internal_strconv_lower Tryz.lays321 c w
open Go.RowKit in
/-- strconv.toError, at the inner package's ErrRange: 'rangeError(fn, s)' as an error: A *NumError IN A NEW BLOCK. (LAID: no walk: one application.) -/
theorem Tryz.strconv_toError_range (fn s : ByteArray) (base bits : Int) (ev : Value) (w : World) (hlim : s.size ≤ 281474976710656) (hv : w.cell? ⟨2, 0, none⟩ = some ev) (hev : ev = .nilIface ∨ ∃ te pe, ev = .iface te pe) :
    Calls Tryz.prog 136 #[.string fn, .string s, .int .i64 base, .int .i64 bits, .iface 257 (.int .i64 1)] w fun e w' => ∃ N, e = .returned (.iface 258 (.pointer (some ⟨N, 0, none⟩))) ∧ w.heap.size ≤ N ∧ w'.heap[N]? = some (.cells #[.string fn, .string s, ev] 287 (0, 0)) ∧ Below w.heap.size w w' := Any.strconv_toError_range Tryz.laysC245 fn s base bits ev w hlim hv hev
def Tryz.lays264_ren : Go.Shelf.Ren := ⟨fun | 264 => 252 | n => n, fun | 53 => 24 | 46 => 80 | n => n, fun | n => n⟩
theorem Tryz.lays264 : Go.Proofs.Lays.n264 Tryz.prog Tryz.lays264_ren := {
  mixed := by kernel_rfl
  f264 := Tryz.func252.trans (congrArg some (by kernel_rfl))
  t46 := Tryz.underlying80
  a46 := Tryz.isAgg80
  z46 := Tryz.sizeOf80
  v46 := Tryz.zeroValue80
  t53 := Tryz.underlying24
  a53 := Tryz.isAgg24
  z53 := Tryz.sizeOf24
  v53 := Tryz.zeroValue24 }
open Go.RowKit Go.Lib in
theorem Tryz.bits_Mul64 (x y : Nat) (hx : x < 18446744073709551616) (hy : y < 18446744073709551616) (w : World) :
    Calls Tryz.prog 252 #[.int .u64 x, .int .u64 y] w fun e w' => e = .returned (.tuple #[.int .u64 ((x * y / 18446744073709551616 : Nat) : Int), .int .u64 ((x * y % 18446744073709551616 : Nat) : Int)]) ∧ w' = w := Any.bits_Mul64 Tryz.lays264 x y hx hy w
end Go.Proofs
namespace Go.Proofs.YtnggkkdcddpjlaaGreatDoor
open Go.RowKit
theorem gSyn : Tryz.prog.globalNamed "strconv.ErrSyntax" = some 1 := by kernel_rfl
theorem gRng : Tryz.prog.globalNamed "strconv.ErrRange" = some 2 := by kernel_rfl
theorem gPow : Tryz.prog.globalNamed "internal/strconv.uint64pow10" = some 4 := by kernel_rfl
/-- What a world holds of the listed variables that these walks read. -/
structure Good (w : World) : Prop where
  big : 11 ≤ w.heap.size
  syn : ∃ tp p, w.var? Tryz.prog "strconv.ErrSyntax" = some #[.iface tp p]
  rng : ∃ tp p, w.var? Tryz.prog "strconv.ErrRange" = some #[.iface tp p]
  tab : Lib.TabIs Tryz.prog w "internal/strconv.uint64pow10" .u64 Lib.pow10Tab
theorem var_of_block {w w' : World} {n : String} {g : Nat} (hg : Tryz.prog.globalNamed n = some g) (h : w'.heap[g]? = w.heap[g]?) : w'.var? Tryz.prog n = w.var? Tryz.prog n := by
  unfold World.var?
  rw [hg]
  simp only [Option.bind_some]
  rw [h]
theorem Good.keep {w w' : World} {B : Nat} (h : Good w) (hb : Below B w w') (hB : 11 ≤ B) : Good w' := by
  refine ⟨Nat.le_trans h.big hb.size, ?_, ?_, ?_⟩
  · obtain ⟨tp, p, e⟩ := h.syn
    exact ⟨tp, p, by rw [var_of_block gSyn (hb.block 1 (by omega))]; exact e⟩
  · obtain ⟨tp, p, e⟩ := h.rng
    exact ⟨tp, p, by rw [var_of_block gRng (hb.block 2 (by omega))]; exact e⟩
  · have e := h.tab
    unfold Lib.TabIs at e ⊢
    rw [var_of_block gPow (hb.block 4 (by omega))]
    exact e
theorem Good.on {w w' : World} (h : Good w) (hb : Below w.heap.size w w') : Good w' := h.keep hb h.big
theorem belowOn {a b c : World} (h : Below a.heap.size a b) (k : Below b.heap.size b c) : Below a.heap.size a c := h.trans (k.mono h.size)
theorem below_alloc (w : World) (o : Obj) : Below w.heap.size w (w.alloc o) := (Below.refl _ _).alloc (Nat.le_refl _) o
theorem below_drewN (w : World) (n : Nat) : Below w.heap.size w (w.drewN n) := ⟨rfl, rfl, rfl, Nat.le_refl _, fun _ _ => rfl⟩
end Go.Proofs.YtnggkkdcddpjlaaGreatDoor
