import Derived.Shelf.Strings.Builder1
import Derived.Shelf.Strings.Builder2
import Derived.Shelf.Strings.OnBuilder
import Derived.Shelf.Small.Utf8
import Derived.Shelf.Small.Bits
import Derived.Shelf.Small.Strs
import Derived.Shelf.Strings.BuilderF
import Derived.Shelf.Strings.BuilderK
import Derived.Shelf.Strings.BuilderRune
import Derived.Shelf.Strconv.Itoa0
import Derived.Shelf.Strconv.Itoa1
import Derived.Shelf.LaysM
import Derived.Shelf.Strconv.Itoa2
import Derived.Shelf.Strconv.ParseIntEmpty
import Derived.Shelf.Strconv.Clone
import Derived.Shelf.Strconv.SyntaxError
import Derived.Shelf.LaysC
import Derived.Shelf.Strconv.ToError
import Derived.Shelf.Strconv.Lower
import Derived.Shelf.Strconv.ParseUint10
import Derived.Shelf.Strconv.ParseUint10Empty
import Derived.Shelf.Strconv.ParseUint10Any
import Derived.Shelf.Strconv.ParseInt10
import Derived.Shelf.Strconv.RangeError
import Derived.Shelf.Strconv.ToErrorRange
import Derived.Shelf.Strconv.ParseUintEmpty
import Derived.Shelf.Strconv.ParseUint10b64
import Derived.Shelf.Strconv.ParseUint10b32
import Derived.Shelf.Strconv.ParseUint10b16
import Derived.Shelf.Strconv.ParseUint10b8
import Derived.Shelf.Strconv.ParseUint10At
import Derived.Shelf.Strconv.ParseInt10At64
import Derived.Shelf.Strconv.ParseInt10At32
import Derived.Shelf.Strconv.ParseInt10At16
import Derived.Shelf.Strconv.ParseInt10At8
import Derived.Shelf.Strconv.ParseInt10All
import Derived.Shelf.Strconv.ParseIntPublic10
import Derived.Shelf.Strconv.ErrVarParseInt
import Derived.Shelf.Strings.Search1
import Derived.Shelf.Strconv.AppendUint10
import Derived.Shelf.Strconv.AppendInt10
import Derived.Shelf.Strconv.AppendIntPublic10
import Derived.Shelf.Strings.Prefix
import Derived.Shelf.Unicode.Latin
import Derived.Shelf.Bits.Mul64
import Derived.Shelf.Unicode.DecodeSlow
import Derived.Shelf.Unicode.DecodeAny
import Derived.Shelf.Unicode.CaseLookup
import Derived.Shelf.Unicode.CaseConvert
import Derived.Shelf.Unicode.CaseTo
import Derived.Shelf.Unicode.CaseLaid
import Derived.Shelf.Strings.MapAny
import Derived.Shelf.Strings.CaseAny
import Derived.Test.YtofmickjbpkgbaaGreatDoorMshelf1
namespace Go.Proofs
open Go.Shelf
def Tryz.lays159_ren : Go.Shelf.Ren := ⟨fun | 159 => 65 | 165 => 92 | 166 => 93 | 167 => 94 | 169 => 95 | 230 => 96 | 204 => 97 | 240 => 148 | 241 => 149 | 197 => 150 | 118 => 151 | 168 => 152 | 270 => 153 | 262 => 154 | 276 => 200 | 277 => 201 | 260 => 202 | 242 => 203 | 313 => 204 | 278 => 234 | 274 => 235 | 275 => 236 | n => n, fun | 9 => 9 | 4 => 4 | 3 => 3 | 5 => 5 | 72 => 171 | 0 => 0 | 76 => 173 | 75 => 51 | 107 => 177 | 70 => 169 | 20 => 20 | 37 => 40 | 127 => 165 | 21 => 21 | 105 => 226 | 164 => 269 | 162 => 275 | 203 => 273 | 119 => 313 | 46 => 23 | 139 => 316 | 138 => 315 | 51 => 79 | 160 => 317 | 208 => 349 | 206 => 347 | 80 => 77 | n => n, fun | 13 => 12 | 3 => 21 | 4 => 22 | n => n⟩
theorem Tryz.lays159 : Go.Proofs.Lays.n159 Tryz.prog Tryz.lays159_ren := {
  mixed := by kernel_rfl
  f118 := Tryz.func151.trans (congrArg some (by kernel_rfl))
  f159 := Tryz.func65.trans (congrArg some (by kernel_rfl))
  f165 := Tryz.func92.trans (congrArg some (by kernel_rfl))
  f166 := Tryz.func93.trans (congrArg some (by kernel_rfl))
  f167 := Tryz.func94.trans (congrArg some (by kernel_rfl))
  f168 := Tryz.func152.trans (congrArg some (by kernel_rfl))
  f169 := Tryz.func95.trans (congrArg some (by kernel_rfl))
  f197 := Tryz.func150.trans (congrArg some (by kernel_rfl))
  f204 := Tryz.func97.trans (congrArg some (by kernel_rfl))
  f230 := Tryz.func96.trans (congrArg some (by kernel_rfl))
  f240 := Tryz.func148.trans (congrArg some (by kernel_rfl))
  f241 := Tryz.func149.trans (congrArg some (by kernel_rfl))
  f242 := Tryz.func203.trans (congrArg some (by kernel_rfl))
  f260 := Tryz.func202.trans (congrArg some (by kernel_rfl))
  f262 := Tryz.func154.trans (congrArg some (by kernel_rfl))
  f270 := Tryz.func153.trans (congrArg some (by kernel_rfl))
  f274 := Tryz.func235.trans (congrArg some (by kernel_rfl))
  f275 := Tryz.func236.trans (congrArg some (by kernel_rfl))
  f276 := Tryz.func200.trans (congrArg some (by kernel_rfl))
  f277 := Tryz.func201.trans (congrArg some (by kernel_rfl))
  f278 := Tryz.func234.trans (congrArg some (by kernel_rfl))
  f313 := Tryz.func204.trans (congrArg some (by kernel_rfl))
  t0 := Tryz.underlying0
  a0 := Tryz.isAgg0
  z0 := Tryz.sizeOf0
  v0 := Tryz.zeroValue0
  t3 := Tryz.underlying3
  a3 := Tryz.isAgg3
  z3 := Tryz.sizeOf3
  v3 := Tryz.zeroValue3
  t4 := Tryz.underlying4
  a4 := Tryz.isAgg4
  z4 := Tryz.sizeOf4
  v4 := Tryz.zeroValue4
  t5 := Tryz.underlying5
  a5 := Tryz.isAgg5
  z5 := Tryz.sizeOf5
  v5 := Tryz.zeroValue5
  t9 := Tryz.underlying9
  a9 := Tryz.isAgg9
  z9 := Tryz.sizeOf9
  v9 := Tryz.zeroValue9
  t20 := Tryz.underlying20
  a20 := Tryz.isAgg20
  z20 := Tryz.sizeOf20
  v20 := Tryz.zeroValue20
  t21 := Tryz.underlying21
  a21 := Tryz.isAgg21
  z21 := Tryz.sizeOf21
  v21 := Tryz.zeroValue21
  t37 := Tryz.underlying40
  a37 := Tryz.isAgg40
  z37 := Tryz.sizeOf40
  v37 := Tryz.zeroValue40
  t46 := Tryz.underlying23
  a46 := Tryz.isAgg23
  z46 := Tryz.sizeOf23
  v46 := Tryz.zeroValue23
  t51 := Tryz.underlying79
  a51 := Tryz.isAgg79
  z51 := Tryz.sizeOf79
  v51 := Tryz.zeroValue79
  t70 := Tryz.underlying169
  a70 := Tryz.isAgg169
  z70 := Tryz.sizeOf169
  v70 := Tryz.zeroValue169
  t72 := Tryz.underlying171
  a72 := Tryz.isAgg171
  z72 := Tryz.sizeOf171
  v72 := Tryz.zeroValue171
  t75 := Tryz.underlying51
  a75 := Tryz.isAgg51
  z75 := Tryz.sizeOf51
  v75 := Tryz.zeroValue51
  t76 := Tryz.underlying173
  a76 := Tryz.isAgg173
  z76 := Tryz.sizeOf173
  v76 := Tryz.zeroValue173
  t105 := Tryz.underlying226
  a105 := Tryz.isAgg226
  z105 := Tryz.sizeOf226
  v105 := Tryz.zeroValue226
  t107 := Tryz.underlying177
  a107 := Tryz.isAgg177
  z107 := Tryz.sizeOf177
  v107 := Tryz.zeroValue177
  t119 := Tryz.underlying313
  a119 := Tryz.isAgg313
  z119 := Tryz.sizeOf313
  t127 := Tryz.underlying165
  a127 := Tryz.isAgg165
  z127 := Tryz.sizeOf165
  v127 := Tryz.zeroValue165
  t138 := Tryz.underlying315
  a138 := Tryz.isAgg315
  z138 := Tryz.sizeOf315
  v138 := Tryz.zeroValue315
  t139 := Tryz.underlying316
  a139 := Tryz.isAgg316
  z139 := Tryz.sizeOf316
  v139 := Tryz.zeroValue316
  t160 := Tryz.underlying317
  a160 := Tryz.isAgg317
  z160 := Tryz.sizeOf317
  v160 := Tryz.zeroValue317
  t162 := Tryz.underlying275
  a162 := Tryz.isAgg275
  z162 := Tryz.sizeOf275
  v162 := Tryz.zeroValue275
  t164 := Tryz.underlying269
  a164 := Tryz.isAgg269
  z164 := Tryz.sizeOf269
  v164 := Tryz.zeroValue269
  t203 := Tryz.underlying273
  a203 := Tryz.isAgg273
  z203 := Tryz.sizeOf273
  v203 := Tryz.zeroValue273
  t206 := Tryz.underlying347
  a206 := Tryz.isAgg347
  z206 := Tryz.sizeOf347
  v206 := Tryz.zeroValue347
  t208 := Tryz.underlying349
  a208 := Tryz.isAgg349
  z208 := Tryz.sizeOf349
  v208 := Tryz.zeroValue349
  g3 := by kernel_rfl
  g4 := by kernel_rfl
  g13 := by kernel_rfl }
theorem Tryz.Builder_Extra_159 : Builder.Extra Tryz.prog Tryz.lays159_ren := {
  sizeBuilder := by kernel_rfl
  liesBuilder := by kernel_rfl
  t5 := Tryz.underlying5
  a5 := Tryz.isAgg5
  z5 := Tryz.sizeOf5
  v5 := Tryz.zeroValue5
  infoByte := by kernel_rfl
  cellsByte := by kernel_rfl
  sizeByte := by kernel_rfl
  neB5 := by decide }
open Go.RowKit in
theorem Tryz.strings_ToLower_ascii (s : ByteArray) (w : World) (hs : s.size ≤ 140737488355328) (hascii : ∀ (j : Nat) (b : UInt8), s.data.toList[j]? = some b → b.toNat < 128) :
    Calls Tryz.prog 65 #[.string s] w fun e w' => e = .returned (.string ⟨(Lib.toLowerA s.data.toList).toArray⟩) ∧ Below w.heap.size w w' := Any.strings_ToLower_ascii Tryz.lays159 Tryz.Builder_Extra_159 s w hs hascii
def Tryz.lays130_ren : Go.Shelf.Ren := ⟨fun | 130 => 304 | 125 => 130 | 128 => 195 | 129 => 136 | n => n, fun | 46 => 23 | 3 => 3 | 51 => 79 | 53 => 22 | 4 => 4 | 5 => 5 | 9 => 9 | n => n, fun | n => n⟩
theorem Tryz.lays130 : Go.Proofs.Lays.n130 Tryz.prog Tryz.lays130_ren := {
  mixed := by kernel_rfl
  f125 := Tryz.func130.trans (congrArg some (by kernel_rfl))
  f128 := Tryz.func195.trans (congrArg some (by kernel_rfl))
  f129 := Tryz.func136.trans (congrArg some (by kernel_rfl))
  f130 := Tryz.func304.trans (congrArg some (by kernel_rfl))
  t3 := Tryz.underlying3
  a3 := Tryz.isAgg3
  z3 := Tryz.sizeOf3
  v3 := Tryz.zeroValue3
  t4 := Tryz.underlying4
  a4 := Tryz.isAgg4
  z4 := Tryz.sizeOf4
  v4 := Tryz.zeroValue4
  t5 := Tryz.underlying5
  a5 := Tryz.isAgg5
  z5 := Tryz.sizeOf5
  v5 := Tryz.zeroValue5
  t9 := Tryz.underlying9
  a9 := Tryz.isAgg9
  z9 := Tryz.sizeOf9
  v9 := Tryz.zeroValue9
  t46 := Tryz.underlying23
  a46 := Tryz.isAgg23
  z46 := Tryz.sizeOf23
  v46 := Tryz.zeroValue23
  t51 := Tryz.underlying79
  a51 := Tryz.isAgg79
  z51 := Tryz.sizeOf79
  v51 := Tryz.zeroValue79
  t53 := Tryz.underlying22
  a53 := Tryz.isAgg22
  z53 := Tryz.sizeOf22
  v53 := Tryz.zeroValue22 }
theorem Tryz.bits_LeadingZeros (x : Int) (w : World) (h0 : 0 ≤ x) (h1 : x ≤ 18446744073709551615) :
    Calls Tryz.prog 304 #[.int .u64 x] w fun e w' => e = .returned (.int .i64 (64 - (Lib.bitLen x.toNat : Int))) ∧ w' = w := Any.bits_LeadingZeros Tryz.lays130 x w h0 h1
def Tryz.lays137_ren : Go.Shelf.Ren := ⟨fun | 137 => 69 | 217 => 101 | 266 => 156 | n => n, fun | 9 => 9 | 5 => 5 | 3 => 3 | n => n, fun | n => n⟩
theorem Tryz.lays137 : Go.Proofs.Lays.n137 Tryz.prog Tryz.lays137_ren := {
  mixed := by kernel_rfl
  f137 := Tryz.func69.trans (congrArg some (by kernel_rfl))
  f217 := Tryz.func101.trans (congrArg some (by kernel_rfl))
  f266 := Tryz.func156.trans (congrArg some (by kernel_rfl))
  t3 := Tryz.underlying3
  a3 := Tryz.isAgg3
  z3 := Tryz.sizeOf3
  v3 := Tryz.zeroValue3
  t5 := Tryz.underlying5
  a5 := Tryz.isAgg5
  z5 := Tryz.sizeOf5
  v5 := Tryz.zeroValue5
  t9 := Tryz.underlying9
  a9 := Tryz.isAgg9
  z9 := Tryz.sizeOf9
  v9 := Tryz.zeroValue9 }
open Go.RowKit in
theorem Tryz.strings_IndexByte (s : ByteArray) (c : Int) (w : World) :
    Calls Tryz.prog 69 #[.string s, .int .u8 c] w fun e w' => e = .returned (.int .i64 (Lib.indexByte s.data.toList c.toNat.toUInt8)) ∧ w' = w := Any.strings_IndexByte Tryz.lays137 s c w
def Tryz.lays283_ren : Go.Shelf.Ren := ⟨fun | 283 => 191 | n => n, fun | 3 => 3 | 9 => 9 | 4 => 4 | n => n, fun | n => n⟩
theorem Tryz.lays283 : Go.Proofs.Lays.n283 Tryz.prog Tryz.lays283_ren := {
  mixed := by kernel_rfl
  f283 := Tryz.func191.trans (congrArg some (by kernel_rfl))
  t3 := Tryz.underlying3
  a3 := Tryz.isAgg3
  z3 := Tryz.sizeOf3
  v3 := Tryz.zeroValue3
  t4 := Tryz.underlying4
  a4 := Tryz.isAgg4
  z4 := Tryz.sizeOf4
  v4 := Tryz.zeroValue4
  t9 := Tryz.underlying9
  a9 := Tryz.isAgg9
  z9 := Tryz.sizeOf9
  v9 := Tryz.zeroValue9 }
open Go.Lib in
theorem Tryz.internal_strconv_small (i : Nat) (h : i < 100) (w : World) :
    Calls Tryz.prog 191 #[.int .i64 i] w fun e w' => e = .returned (.string ⟨(Lib.decDigits i).toArray⟩) ∧ w' = w := Any.internal_strconv_small Tryz.lays283 i h w
def Tryz.laysM284_ren : Go.Shelf.Ren := ⟨fun | 284 => 192 | 129 => 136 | 317 => 230 | 318 => 140 | n => n, fun | 53 => 22 | 3 => 3 | 212 => 305 | 0 => 0 | 4 => 4 | 46 => 23 | 5 => 5 | 9 => 9 | n => n, fun | 17 => 19 | n => n⟩
theorem Tryz.laysM284 : Go.Proofs.LaysM.n284 Tryz.prog Tryz.laysM284_ren := {
  mixed := by kernel_rfl
  f129 := Tryz.func136.trans (congrArg some (by kernel_rfl))
  f284 := Tryz.func192.trans (congrArg some (by kernel_rfl))
  f317 := Tryz.func230.trans (congrArg some (by kernel_rfl))
  f318 := Tryz.func140.trans (congrArg some (by kernel_rfl))
  t0 := Tryz.underlying0
  a0 := Tryz.isAgg0
  z0 := Tryz.sizeOf0
  v0 := Tryz.zeroValue0
  t3 := Tryz.underlying3
  a3 := Tryz.isAgg3
  z3 := Tryz.sizeOf3
  v3 := Tryz.zeroValue3
  t4 := Tryz.underlying4
  a4 := Tryz.isAgg4
  z4 := Tryz.sizeOf4
  v4 := Tryz.zeroValue4
  t5 := Tryz.underlying5
  a5 := Tryz.isAgg5
  z5 := Tryz.sizeOf5
  v5 := Tryz.zeroValue5
  t9 := Tryz.underlying9
  a9 := Tryz.isAgg9
  z9 := Tryz.sizeOf9
  v9 := Tryz.zeroValue9
  t46 := Tryz.underlying23
  a46 := Tryz.isAgg23
  z46 := Tryz.sizeOf23
  v46 := Tryz.zeroValue23
  t53 := Tryz.underlying22
  a53 := Tryz.isAgg22
  z53 := Tryz.sizeOf22
  v53 := Tryz.zeroValue22
  t212 := Tryz.underlying305
  a212 := Tryz.isAgg305
  z212 := Tryz.sizeOf305
  v212 := Tryz.zeroValue305
  g17 := by kernel_rfl
  i0 := by kernel_rfl
  i3 := by kernel_rfl
  i4 := by kernel_rfl
  i5 := by kernel_rfl
  i9 := by kernel_rfl
  i46 := by kernel_rfl
  i53 := by kernel_rfl
  i212 := by kernel_rfl
  m17 := by kernel_rfl }
open Go.Lib in
theorem Tryz.internal_strconv_numDigits (u : Nat) (h1 : 1 ≤ u) (h2 : u < 18446744073709551616) (w : World) (htab : Lib.TabIs Tryz.prog w "internal/strconv.uint64pow10" .u64 Lib.pow10Tab) :
    Calls Tryz.prog 192 #[.int .u64 u] w fun e w' => e = .returned (.int .i64 (Lib.nDigits u)) ∧ w' = w := Any.internal_strconv_numDigits Tryz.laysM284 u h1 h2 w htab
def Tryz.lays285_ren : Go.Shelf.Ren := ⟨fun | 285 => 193 | n => n, fun | 37 => 40 | 53 => 22 | 3 => 3 | 4 => 4 | 51 => 79 | 9 => 9 | 5 => 5 | 0 => 0 | n => n, fun | n => n⟩
theorem Tryz.lays285 : Go.Proofs.Lays.n285 Tryz.prog Tryz.lays285_ren := {
  mixed := by kernel_rfl
  f285 := Tryz.func193.trans (congrArg some (by kernel_rfl))
  t0 := Tryz.underlying0
  a0 := Tryz.isAgg0
  z0 := Tryz.sizeOf0
  v0 := Tryz.zeroValue0
  t3 := Tryz.underlying3
  a3 := Tryz.isAgg3
  z3 := Tryz.sizeOf3
  v3 := Tryz.zeroValue3
  t4 := Tryz.underlying4
  a4 := Tryz.isAgg4
  z4 := Tryz.sizeOf4
  v4 := Tryz.zeroValue4
  t5 := Tryz.underlying5
  a5 := Tryz.isAgg5
  z5 := Tryz.sizeOf5
  v5 := Tryz.zeroValue5
  t9 := Tryz.underlying9
  a9 := Tryz.isAgg9
  z9 := Tryz.sizeOf9
  v9 := Tryz.zeroValue9
  t37 := Tryz.underlying40
  a37 := Tryz.isAgg40
  z37 := Tryz.sizeOf40
  v37 := Tryz.zeroValue40
  t51 := Tryz.underlying79
  a51 := Tryz.isAgg79
  z51 := Tryz.sizeOf79
  v51 := Tryz.zeroValue79
  t53 := Tryz.underlying22
  a53 := Tryz.isAgg22
  z53 := Tryz.sizeOf22
  v53 := Tryz.zeroValue22 }
open Go.RowKit Go.Sort Go.Lib in
theorem Tryz.internal_strconv_formatBase10 (blk off cap : Nat) (u : Nat) (d : Array UInt8) (w : World) (hH : Holds (fun (b : UInt8) => Value.int .u8 (b.toNat : Int)) w blk off d) (hu : u < 10 ^ d.size) (hu64 : u < 18446744073709551616) (hsz : d.size < 4611686018427387904) :
    Calls Tryz.prog 193 #[.slice (some ⟨blk, off, none⟩) d.size cap, .int .u64 u] w fun e w' =>
      e = .returned (.tuple #[]) ∧ ∃ (n v' : Nat) (dk : Array UInt8), w' = (putRow (fun (b : UInt8) => Value.int .u8 (b.toNat : Int)) w blk off dk).drewN n ∧ FmtInv d.size u 0 v' dk := Any.internal_strconv_formatBase10 Tryz.lays285 blk off cap u d w hH hu hu64 hsz
def Tryz.laysC174_ren : Go.Shelf.Ren := ⟨fun | 174 => 70 | 247 => 102 | 245 => 37 | 287 => 100 | 279 => 48 | 280 => 49 | 281 => 50 | 282 => 51 | 321 => 134 | 322 => 135 | 316 => 61 | 171 => 63 | 205 => 62 | 243 => 91 | 246 => 147 | 283 => 191 | 284 => 192 | 285 => 193 | 286 => 194 | 129 => 136 | 317 => 230 | 318 => 140 | 319 => 231 | 320 => 123 | 337 => 182 | 338 => 183 | n => n, fun | 9 => 9 | 3 => 3 | 2 => 2 | 75 => 51 | 85 => 134 | 4 => 4 | 167 => 106 | 5 => 5 | 53 => 22 | 175 => 130 | 46 => 23 | 168 => 107 | 37 => 40 | 0 => 0 | 210 => 123 | 21 => 21 | 127 => 165 | 145 => 168 | 143 => 166 | 171 => 258 | 173 => 260 | 212 => 305 | 51 => 79 | 20 => 20 | 213 => 306 | 232 => 294 | 233 => 295 | 80 => 77 | n => n, fun | 15 => 2 | 16 => 3 | 17 => 19 | 18 => 15 | 19 => 16 | n => n⟩
theorem Tryz.laysC174 : Go.Proofs.LaysC.n174 Tryz.prog Tryz.laysC174_ren := {
  mixed := by kernel_rfl
  f129 := Tryz.func136.trans (congrArg some (by kernel_rfl))
  f171 := Tryz.func63.trans (congrArg some (by kernel_rfl))
  f174 := Tryz.func70.trans (congrArg some (by kernel_rfl))
  f205 := Tryz.func62.trans (congrArg some (by kernel_rfl))
  f243 := Tryz.func91.trans (congrArg some (by kernel_rfl))
  f245 := Tryz.func37.trans (congrArg some (by kernel_rfl))
  f246 := Tryz.func147.trans (congrArg some (by kernel_rfl))
  f247 := Tryz.func102.trans (congrArg some (by kernel_rfl))
  f279 := Tryz.func48.trans (congrArg some (by kernel_rfl))
  f280 := Tryz.func49.trans (congrArg some (by kernel_rfl))
  f281 := Tryz.func50.trans (congrArg some (by kernel_rfl))
  f282 := Tryz.func51.trans (congrArg some (by kernel_rfl))
  f283 := Tryz.func191.trans (congrArg some (by kernel_rfl))
  f284 := Tryz.func192.trans (congrArg some (by kernel_rfl))
  f285 := Tryz.func193.trans (congrArg some (by kernel_rfl))
  f286 := Tryz.func194.trans (congrArg some (by kernel_rfl))
  f287 := Tryz.func100.trans (congrArg some (by kernel_rfl))
  f316 := Tryz.func61.trans (congrArg some (by kernel_rfl))
  f317 := Tryz.func230.trans (congrArg some (by kernel_rfl))
  f318 := Tryz.func140.trans (congrArg some (by kernel_rfl))
  f319 := Tryz.func231.trans (congrArg some (by kernel_rfl))
  f320 := Tryz.func123.trans (congrArg some (by kernel_rfl))
  f321 := Tryz.func134.trans (congrArg some (by kernel_rfl))
  f322 := Tryz.func135.trans (congrArg some (by kernel_rfl))
  f337 := Tryz.func182.trans (congrArg some (by kernel_rfl))
  f338 := Tryz.func183.trans (congrArg some (by kernel_rfl))
  t0 := Tryz.underlying0
  a0 := Tryz.isAgg0
  z0 := Tryz.sizeOf0
  v0 := Tryz.zeroValue0
  t2 := Tryz.underlying2
  a2 := Tryz.isAgg2
  z2 := Tryz.sizeOf2
  v2 := Tryz.zeroValue2
  t3 := Tryz.underlying3
  a3 := Tryz.isAgg3
  z3 := Tryz.sizeOf3
  v3 := Tryz.zeroValue3
  t4 := Tryz.underlying4
  a4 := Tryz.isAgg4
  z4 := Tryz.sizeOf4
  v4 := Tryz.zeroValue4
  t5 := Tryz.underlying5
  a5 := Tryz.isAgg5
  z5 := Tryz.sizeOf5
  v5 := Tryz.zeroValue5
  t9 := Tryz.underlying9
  a9 := Tryz.isAgg9
  z9 := Tryz.sizeOf9
  v9 := Tryz.zeroValue9
  t20 := Tryz.underlying20
  a20 := Tryz.isAgg20
  z20 := Tryz.sizeOf20
  v20 := Tryz.zeroValue20
  t21 := Tryz.underlying21
  a21 := Tryz.isAgg21
  z21 := Tryz.sizeOf21
  v21 := Tryz.zeroValue21
  t37 := Tryz.underlying40
  a37 := Tryz.isAgg40
  z37 := Tryz.sizeOf40
  v37 := Tryz.zeroValue40
  t46 := Tryz.underlying23
  a46 := Tryz.isAgg23
  z46 := Tryz.sizeOf23
  v46 := Tryz.zeroValue23
  t51 := Tryz.underlying79
  a51 := Tryz.isAgg79
  z51 := Tryz.sizeOf79
  v51 := Tryz.zeroValue79
  t53 := Tryz.underlying22
  a53 := Tryz.isAgg22
  z53 := Tryz.sizeOf22
  v53 := Tryz.zeroValue22
  t75 := Tryz.underlying51
  a75 := Tryz.isAgg51
  z75 := Tryz.sizeOf51
  v75 := Tryz.zeroValue51
  t85 := Tryz.underlying134
  a85 := Tryz.isAgg134
  z85 := Tryz.sizeOf134
  v85 := Tryz.zeroValue134
  t127 := Tryz.underlying165
  a127 := Tryz.isAgg165
  z127 := Tryz.sizeOf165
  v127 := Tryz.zeroValue165
  t143 := Tryz.underlying166
  a143 := Tryz.isAgg166
  z143 := Tryz.sizeOf166
  v143 := Tryz.zeroValue166
  t145 := Tryz.underlying168
  a145 := Tryz.isAgg168
  z145 := Tryz.sizeOf168
  v145 := Tryz.zeroValue168
  t167 := Tryz.underlying106
  a167 := Tryz.isAgg106
  z167 := Tryz.sizeOf106
  v167 := Tryz.zeroValue106
  t168 := Tryz.underlying107
  a168 := Tryz.isAgg107
  z168 := Tryz.sizeOf107
  v168 := Tryz.zeroValue107
  t171 := Tryz.underlying258
  a171 := Tryz.isAgg258
  z171 := Tryz.sizeOf258
  v171 := Tryz.zeroValue258
  t173 := Tryz.underlying260
  a173 := Tryz.isAgg260
  z173 := Tryz.sizeOf260
  v173 := Tryz.zeroValue260
  t175 := Tryz.underlying130
  a175 := Tryz.isAgg130
  z175 := Tryz.sizeOf130
  v175 := Tryz.zeroValue130
  t210 := Tryz.underlying123
  a210 := Tryz.isAgg123
  z210 := Tryz.sizeOf123
  v210 := Tryz.zeroValue123
  t212 := Tryz.underlying305
  a212 := Tryz.isAgg305
  z212 := Tryz.sizeOf305
  v212 := Tryz.zeroValue305
  t213 := Tryz.underlying306
  a213 := Tryz.isAgg306
  z213 := Tryz.sizeOf306
  t232 := Tryz.underlying294
  a232 := Tryz.isAgg294
  z232 := Tryz.sizeOf294
  v232 := Tryz.zeroValue294
  t233 := Tryz.underlying295
  a233 := Tryz.isAgg295
  z233 := Tryz.sizeOf295
  v233 := Tryz.zeroValue295
  g15 := by kernel_rfl
  g16 := by kernel_rfl
  g17 := by kernel_rfl
  g18 := by kernel_rfl
  g19 := by kernel_rfl
  t80 := Tryz.underlying77
  a80 := Tryz.isAgg77
  z80 := Tryz.sizeOf77
  v80 := Tryz.zeroValue77
  i0 := by kernel_rfl
  i2 := by kernel_rfl
  i3 := by kernel_rfl
  i4 := by kernel_rfl
  i5 := by kernel_rfl
  i9 := by kernel_rfl
  i20 := by kernel_rfl
  i21 := by kernel_rfl
  i37 := by kernel_rfl
  i46 := by kernel_rfl
  i51 := by kernel_rfl
  i53 := by kernel_rfl
  i75 := by kernel_rfl
  i80 := by kernel_rfl
  i85 := by kernel_rfl
  i127 := by kernel_rfl
  i143 := by kernel_rfl
  i145 := by kernel_rfl
  i167 := by kernel_rfl
  i168 := by kernel_rfl
  i171 := by kernel_rfl
  i173 := by kernel_rfl
  i175 := by kernel_rfl
  i210 := by kernel_rfl
  i212 := by kernel_rfl
  i232 := by kernel_rfl
  i233 := by kernel_rfl
  m15 := by kernel_rfl
  m16 := by kernel_rfl
  m17 := by kernel_rfl
  m18 := by kernel_rfl
  m19 := by kernel_rfl
  c0 := by kernel_rfl
  c2 := by kernel_rfl
  c3 := by kernel_rfl
  c4 := by kernel_rfl
  c5 := by kernel_rfl
  c9 := by kernel_rfl
  c20 := by kernel_rfl
  c21 := by kernel_rfl
  c37 := by kernel_rfl
  c46 := by kernel_rfl
  c51 := by kernel_rfl
  c53 := by kernel_rfl
  c75 := by kernel_rfl
  c80 := by kernel_rfl
  c85 := by kernel_rfl
  c127 := by kernel_rfl
  c143 := by kernel_rfl
  c145 := by kernel_rfl
  c167 := by kernel_rfl
  c168 := by kernel_rfl
  c171 := by kernel_rfl
  c173 := by kernel_rfl
  c175 := by kernel_rfl
  c210 := by kernel_rfl
  c212 := by kernel_rfl
  c213 := by kernel_rfl
  c232 := by kernel_rfl
  c233 := by kernel_rfl }
open Go.RowKit in
theorem Tryz.strconv_ParseInt_10_at32_ok (s : ByteArray) (hmax : s.size ≤ 9223372036854775806) (v : Int) (h : Lib.parseIntB 32 s.data.toList = .ok v) (w : World) :
    Calls Tryz.prog 70 #[.string s, .int .i64 10, .int .i64 32] w fun e w' => e = .returned (.tuple #[.int .i64 v, .nilIface]) ∧ (w' = w ∨ ∃ t, w' = Lib.bytesWorld w 5 t) := Any.strconv_ParseInt_10_at32_ok Tryz.laysC174 s hmax v h w
def Tryz.lays99_ren : Go.Shelf.Ren := ⟨fun | 99 => 67 | 206 => 99 | n => n, fun | 9 => 9 | 4 => 4 | 3 => 3 | n => n, fun | n => n⟩
theorem Tryz.lays99 : Go.Proofs.Lays.n99 Tryz.prog Tryz.lays99_ren := {
  mixed := by kernel_rfl
  f99 := Tryz.func67.trans (congrArg some (by kernel_rfl))
  f206 := Tryz.func99.trans (congrArg some (by kernel_rfl))
  t3 := Tryz.underlying3
  a3 := Tryz.isAgg3
  z3 := Tryz.sizeOf3
  v3 := Tryz.zeroValue3
  t4 := Tryz.underlying4
  a4 := Tryz.isAgg4
  z4 := Tryz.sizeOf4
  v4 := Tryz.zeroValue4
  t9 := Tryz.underlying9
  a9 := Tryz.isAgg9
  z9 := Tryz.sizeOf9
  v9 := Tryz.zeroValue9 }
open Go.RowKit Go.Lib in
theorem Tryz.strings_HasPrefix (s p : ByteArray) (w : World) :
    Calls Tryz.prog 67 #[.string s, .string p] w fun e w' => e = .returned (.bool (Lib.hasPrefix s.data.toList p.data.toList)) ∧ w' = w := Any.strings_HasPrefix Tryz.lays99 s p w
end Go.Proofs
