/- Part 3 of the proof's texts, made small by a program. -/
import Derived.Test.YtlcfillobkdnmaaGreatDoorTc2
import Derived.Shelf.Small.Bits
import Derived.Shelf.Small.Wraps
import Derived.Shelf.Strconv.ParseBool
import Derived.Shelf.Strconv.Itoa0
import Derived.Shelf.Strconv.Itoa1
import Derived.Shelf.LaysM
import Derived.Shelf.Strconv.Itoa2
import Derived.Shelf.Strconv.Itoa3
import Derived.Shelf.Strconv.Itoa4
import Derived.Shelf.Strconv.ParseIntEmpty
import Derived.Shelf.Strconv.Clone
import Derived.Shelf.Strconv.SyntaxError
import Derived.Shelf.LaysC
import Derived.Shelf.Strconv.ToError
import Derived.Shelf.Strconv.Lower
import Derived.Shelf.Strconv.ParseUint10Any
import Derived.Shelf.Strconv.ParseInt10
import Derived.Shelf.Strconv.ParseUint10At
import Derived.Shelf.Strconv.ParseInt10At64
import Derived.Shelf.Strconv.ParseIntPublic10
import Derived.Ground.GgsProg
import Derived.Shelf.GgSortFunc.Insertion
import Derived.Shelf.GgSortFunc.Small
import Derived.Shelf.GgSortFunc.Tiny
import Derived.Shelf.GgSortFunc.Compose
import Derived.Shelf.GgSortFunc.LotD
import Derived.Shelf.GgSortFunc.Pivot
import Derived.Shelf.GgSortFunc.Partition
import Derived.Shelf.GgSortFunc.Pdq
import Derived.Shelf.GgSortFunc.Whole
import Derived.Shelf.Strings.Prefix
import Derived.Shelf.Bits.Mul64
import Derived.Test.YtlcfillobkdnmaaGreatDoorProg
import Derived.Lib.ItoaLen
import GoSem.Core.Float
import Derived.MapKept
import Derived.Laws.Pointers
import Derived.WalkSpells
set_option linter.unusedVariables false
set_option linter.unusedSimpArgs false
set_option maxHeartbeats 4000000
namespace Go.Proofs
open Go.Shelf
def Tryz.lays121_ren : Go.Shelf.Ren := ⟨fun | 121 => 147 | 214 => 182 | n => n, fun | 4 => 4 | 9 => 9 | n => n, fun | n => n⟩
theorem Tryz.lays121 : Go.Proofs.Lays.n121 Tryz.prog Tryz.lays121_ren := {
 mixed := by kernel_rfl
 f121 := Tryz.func147.trans (congrArg some (by kernel_rfl))
 f214 := Tryz.func182.trans (congrArg some (by kernel_rfl))
 t4 := Tryz.underlying4
 a4 := Tryz.isAgg4
 z4 := Tryz.sizeOf4
 v4 := Tryz.zeroValue4
 t9 := Tryz.underlying9
 a9 := Tryz.isAgg9
 z9 := Tryz.sizeOf9
 v9 := Tryz.zeroValue9 }
open Go.RowKit in
theorem Tryz.strconv_FormatBool (b : Bool) (w : World) :
  Calls Tryz.prog 147 #[.bool b] w fun e w' => e = .returned (.string ⟨(Lib.formatBool b).toArray⟩) ∧ w' = w := Any.strconv_FormatBool Tryz.lays121 b w
def Tryz.lays175_ren : Go.Shelf.Ren := ⟨fun | 175 => 181 | 248 => 218 | 245 => 216 | 279 => 237 | 280 => 238 | 281 => 239 | 282 => 240 | 316 => 254 | 171 => 255 | 205 => 169 | 243 => 278 | 246 => 183 | 283 => 219 | 284 => 220 | 285 => 221 | 286 => 222 | 129 => 206 | 317 => 242 | 318 => 243 | 319 => 244 | 320 => 245 | 337 => 258 | 338 => 259 | n => n, fun | 9 => 9 | 4 => 4 | 75 => 77 | 87 => 219 | 3 => 3 | 167 => 262 | 168 => 263 | 210 => 294 | 37 => 142 | 0 => 0 | 127 => 322 | 145 => 228 | 143 => 226 | 2 => 2 | 171 => 246 | 53 => 235 | 5 => 5 | 173 => 248 | 212 => 270 | 51 => 145 | 20 => 20 | 213 => 271 | 46 => 206 | 232 => 323 | 233 => 324 | 80 => 65 | n => n, fun | 15 => 1 | 16 => 2 | 17 => 0 | 18 => 6 | 19 => 7 | n => n⟩
theorem Tryz.lays175 : Go.Proofs.Lays.n175 Tryz.prog Tryz.lays175_ren := {
 mixed := by kernel_rfl
 f129 := Tryz.func206.trans (congrArg some (by kernel_rfl))
 f171 := Tryz.func255.trans (congrArg some (by kernel_rfl))
 f175 := Tryz.func181.trans (congrArg some (by kernel_rfl))
 f205 := Tryz.func169.trans (congrArg some (by kernel_rfl))
 f243 := Tryz.func278.trans (congrArg some (by kernel_rfl))
 f245 := Tryz.func216.trans (congrArg some (by kernel_rfl))
 f246 := Tryz.func183.trans (congrArg some (by kernel_rfl))
 f248 := Tryz.func218.trans (congrArg some (by kernel_rfl))
 f279 := Tryz.func237.trans (congrArg some (by kernel_rfl))
 f280 := Tryz.func238.trans (congrArg some (by kernel_rfl))
 f281 := Tryz.func239.trans (congrArg some (by kernel_rfl))
 f282 := Tryz.func240.trans (congrArg some (by kernel_rfl))
 f283 := Tryz.func219.trans (congrArg some (by kernel_rfl))
 f284 := Tryz.func220.trans (congrArg some (by kernel_rfl))
 f285 := Tryz.func221.trans (congrArg some (by kernel_rfl))
 f286 := Tryz.func222.trans (congrArg some (by kernel_rfl))
 f316 := Tryz.func254.trans (congrArg some (by kernel_rfl))
 f317 := Tryz.func242.trans (congrArg some (by kernel_rfl))
 f318 := Tryz.func243.trans (congrArg some (by kernel_rfl))
 f319 := Tryz.func244.trans (congrArg some (by kernel_rfl))
 f320 := Tryz.func245.trans (congrArg some (by kernel_rfl))
 f337 := Tryz.func258.trans (congrArg some (by kernel_rfl))
 f338 := Tryz.func259.trans (congrArg some (by kernel_rfl))
 t0 := Tryz.underlying0
 a0 := Tryz.isAgg0
 z0 := Tryz.sizeOf0
 v0 := Tryz.zeroValue0
 t2 := Tryz.underlying2
 a2 := Tryz.isAgg2
 z2 := Tryz.sizeOf2
 v2 := Tryz.zeroValue2
 t3 := Tryz.underlying3
 a3 := Tryz.isAgg3
 z3 := Tryz.sizeOf3
 v3 := Tryz.zeroValue3
 t4 := Tryz.underlying4
 a4 := Tryz.isAgg4
 z4 := Tryz.sizeOf4
 v4 := Tryz.zeroValue4
 t5 := Tryz.underlying5
 a5 := Tryz.isAgg5
 z5 := Tryz.sizeOf5
 v5 := Tryz.zeroValue5
 t9 := Tryz.underlying9
 a9 := Tryz.isAgg9
 z9 := Tryz.sizeOf9
 v9 := Tryz.zeroValue9
 t20 := Tryz.underlying20
 a20 := Tryz.isAgg20
 z20 := Tryz.sizeOf20
 v20 := Tryz.zeroValue20
 t37 := Tryz.underlying142
 a37 := Tryz.isAgg142
 z37 := Tryz.sizeOf142
 v37 := Tryz.zeroValue142
 t46 := Tryz.underlying206
 a46 := Tryz.isAgg206
 z46 := Tryz.sizeOf206
 v46 := Tryz.zeroValue206
 t51 := Tryz.underlying145
 a51 := Tryz.isAgg145
 z51 := Tryz.sizeOf145
 v51 := Tryz.zeroValue145
 t53 := Tryz.underlying235
 a53 := Tryz.isAgg235
 z53 := Tryz.sizeOf235
 v53 := Tryz.zeroValue235
 t75 := Tryz.underlying77
 a75 := Tryz.isAgg77
 z75 := Tryz.sizeOf77
 v75 := Tryz.zeroValue77
 t87 := Tryz.underlying219
 a87 := Tryz.isAgg219
 z87 := Tryz.sizeOf219
 v87 := Tryz.zeroValue219
 t127 := Tryz.underlying322
 a127 := Tryz.isAgg322
 z127 := Tryz.sizeOf322
 v127 := Tryz.zeroValue322
 t143 := Tryz.underlying226
 a143 := Tryz.isAgg226
 z143 := Tryz.sizeOf226
 v143 := Tryz.zeroValue226
 t145 := Tryz.underlying228
 a145 := Tryz.isAgg228
 z145 := Tryz.sizeOf228
 v145 := Tryz.zeroValue228
 t167 := Tryz.underlying262
 a167 := Tryz.isAgg262
 z167 := Tryz.sizeOf262
 v167 := Tryz.zeroValue262
 t168 := Tryz.underlying263
 a168 := Tryz.isAgg263
 z168 := Tryz.sizeOf263
 v168 := Tryz.zeroValue263
 t171 := Tryz.underlying246
 a171 := Tryz.isAgg246
 z171 := Tryz.sizeOf246
 v171 := Tryz.zeroValue246
 t173 := Tryz.underlying248
 a173 := Tryz.isAgg248
 z173 := Tryz.sizeOf248
 v173 := Tryz.zeroValue248
 t210 := Tryz.underlying294
 a210 := Tryz.isAgg294
 z210 := Tryz.sizeOf294
 v210 := Tryz.zeroValue294
 t212 := Tryz.underlying270
 a212 := Tryz.isAgg270
 z212 := Tryz.sizeOf270
 v212 := Tryz.zeroValue270
 t213 := Tryz.underlying271
 a213 := Tryz.isAgg271
 z213 := Tryz.sizeOf271
 t232 := Tryz.underlying323
 a232 := Tryz.isAgg323
 z232 := Tryz.sizeOf323
 v232 := Tryz.zeroValue323
 t233 := Tryz.underlying324
 a233 := Tryz.isAgg324
 z233 := Tryz.sizeOf324
 v233 := Tryz.zeroValue324
 g15 := by kernel_rfl
 g16 := by kernel_rfl
 g17 := by kernel_rfl
 g18 := by kernel_rfl
 g19 := by kernel_rfl }
theorem Tryz.strconv_ParseBool (s : ByteArray) (b : Bool) (h : Lib.parseBool s.data.toList = some b) (w : World) :
  Calls Tryz.prog 181 #[.string s] w fun e w' => e = .returned (.tuple #[.bool b, .nilIface]) ∧ w' = w := Any.strconv_ParseBool Tryz.lays175 s b h w
def Tryz.lays129_ren : Go.Shelf.Ren := ⟨fun | 129 => 206 | n => n, fun | 53 => 235 | 3 => 3 | 4 => 4 | 46 => 206 | 5 => 5 | 9 => 9 | n => n, fun | n => n⟩
theorem Tryz.lays129 : Go.Proofs.Lays.n129 Tryz.prog Tryz.lays129_ren := {
 mixed := by kernel_rfl
 f129 := Tryz.func206.trans (congrArg some (by kernel_rfl))
 t3 := Tryz.underlying3
 a3 := Tryz.isAgg3
 z3 := Tryz.sizeOf3
 v3 := Tryz.zeroValue3
 t4 := Tryz.underlying4
 a4 := Tryz.isAgg4
 z4 := Tryz.sizeOf4
 v4 := Tryz.zeroValue4
 t5 := Tryz.underlying5
 a5 := Tryz.isAgg5
 z5 := Tryz.sizeOf5
 v5 := Tryz.zeroValue5
 t9 := Tryz.underlying9
 a9 := Tryz.isAgg9
 z9 := Tryz.sizeOf9
 v9 := Tryz.zeroValue9
 t46 := Tryz.underlying206
 a46 := Tryz.isAgg206
 z46 := Tryz.sizeOf206
 v46 := Tryz.zeroValue206
 t53 := Tryz.underlying235
 a53 := Tryz.isAgg235
 z53 := Tryz.sizeOf235
 v53 := Tryz.zeroValue235 }
theorem Tryz.bits_Len64 (x : Int) (w : World) (h0 : 0 ≤ x) (h1 : x ≤ 18446744073709551615) :
  Calls Tryz.prog 206 #[.int .u64 x] w fun e w' => e = .returned (.int .i64 (Lib.bitLen x.toNat)) ∧ w' = w := Any.bits_Len64 Tryz.lays129 x w h0 h1
def Tryz.laysM284_ren : Go.Shelf.Ren := ⟨fun | 284 => 220 | 129 => 206 | 317 => 242 | 318 => 243 | n => n, fun | 53 => 235 | 3 => 3 | 212 => 270 | 0 => 0 | 4 => 4 | 46 => 206 | 5 => 5 | 9 => 9 | n => n, fun | 17 => 0 | n => n⟩
theorem Tryz.laysM284 : Go.Proofs.LaysM.n284 Tryz.prog Tryz.laysM284_ren := {
 mixed := by kernel_rfl
 f129 := Tryz.func206.trans (congrArg some (by kernel_rfl))
 f284 := Tryz.func220.trans (congrArg some (by kernel_rfl))
 f317 := Tryz.func242.trans (congrArg some (by kernel_rfl))
 f318 := Tryz.func243.trans (congrArg some (by kernel_rfl))
 t0 := Tryz.underlying0
 a0 := Tryz.isAgg0
 z0 := Tryz.sizeOf0
 v0 := Tryz.zeroValue0
 t3 := Tryz.underlying3
 a3 := Tryz.isAgg3
 z3 := Tryz.sizeOf3
 v3 := Tryz.zeroValue3
 t4 := Tryz.underlying4
 a4 := Tryz.isAgg4
 z4 := Tryz.sizeOf4
 v4 := Tryz.zeroValue4
 t5 := Tryz.underlying5
 a5 := Tryz.isAgg5
 z5 := Tryz.sizeOf5
 v5 := Tryz.zeroValue5
 t9 := Tryz.underlying9
 a9 := Tryz.isAgg9
 z9 := Tryz.sizeOf9
 v9 := Tryz.zeroValue9
 t46 := Tryz.underlying206
 a46 := Tryz.isAgg206
 z46 := Tryz.sizeOf206
 v46 := Tryz.zeroValue206
 t53 := Tryz.underlying235
 a53 := Tryz.isAgg235
 z53 := Tryz.sizeOf235
 v53 := Tryz.zeroValue235
 t212 := Tryz.underlying270
 a212 := Tryz.isAgg270
 z212 := Tryz.sizeOf270
 v212 := Tryz.zeroValue270
 g17 := by kernel_rfl
 i0 := by kernel_rfl
 i3 := by kernel_rfl
 i4 := by kernel_rfl
 i5 := by kernel_rfl
 i9 := by kernel_rfl
 i46 := by kernel_rfl
 i53 := by kernel_rfl
 i212 := by kernel_rfl
 m17 := by kernel_rfl }
open Go.Lib in
theorem Tryz.internal_strconv_numDigits (u : Nat) (h1 : 1 ≤ u) (h2 : u < 18446744073709551616) (w : World) (htab : Lib.TabIs Tryz.prog w "internal/strconv.uint64pow10" .u64 Lib.pow10Tab) :
  Calls Tryz.prog 220 #[.int .u64 u] w fun e w' => e = .returned (.int .i64 (Lib.nDigits u)) ∧ w' = w := Any.internal_strconv_numDigits Tryz.laysM284 u h1 h2 w htab
def Tryz.lays285_ren : Go.Shelf.Ren := ⟨fun | 285 => 221 | n => n, fun | 37 => 142 | 53 => 235 | 3 => 3 | 4 => 4 | 51 => 145 | 9 => 9 | 5 => 5 | 0 => 0 | n => n, fun | n => n⟩
theorem Tryz.lays285 : Go.Proofs.Lays.n285 Tryz.prog Tryz.lays285_ren := {
 mixed := by kernel_rfl
 f285 := Tryz.func221.trans (congrArg some (by kernel_rfl))
 t0 := Tryz.underlying0
 a0 := Tryz.isAgg0
 z0 := Tryz.sizeOf0
 v0 := Tryz.zeroValue0
 t3 := Tryz.underlying3
 a3 := Tryz.isAgg3
 z3 := Tryz.sizeOf3
 v3 := Tryz.zeroValue3
 t4 := Tryz.underlying4
 a4 := Tryz.isAgg4
 z4 := Tryz.sizeOf4
 v4 := Tryz.zeroValue4
 t5 := Tryz.underlying5
 a5 := Tryz.isAgg5
 z5 := Tryz.sizeOf5
 v5 := Tryz.zeroValue5
 t9 := Tryz.underlying9
 a9 := Tryz.isAgg9
 z9 := Tryz.sizeOf9
 v9 := Tryz.zeroValue9
 t37 := Tryz.underlying142
 a37 := Tryz.isAgg142
 z37 := Tryz.sizeOf142
 v37 := Tryz.zeroValue142
 t51 := Tryz.underlying145
 a51 := Tryz.isAgg145
 z51 := Tryz.sizeOf145
 v51 := Tryz.zeroValue145
 t53 := Tryz.underlying235
 a53 := Tryz.isAgg235
 z53 := Tryz.sizeOf235
 v53 := Tryz.zeroValue235 }
open Go.RowKit Go.Sort Go.Lib in
theorem Tryz.internal_strconv_formatBase10 (blk off cap : Nat) (u : Nat) (d : Array UInt8) (w : World) (hH : Holds (fun (b : UInt8) => Value.int .u8 (b.toNat : Int)) w blk off d) (hu : u < 10 ^ d.size) (hu64 : u < 18446744073709551616) (hsz : d.size < 4611686018427387904) :
  Calls Tryz.prog 221 #[.slice (some ⟨blk, off, none⟩) d.size cap, .int .u64 u] w fun e w' =>
   e = .returned (.tuple #[]) ∧ ∃ (n v' : Nat) (dk : Array UInt8), w' = (putRow (fun (b : UInt8) => Value.int .u8 (b.toNat : Int)) w blk off dk).drewN n ∧ FmtInv d.size u 0 v' dk := Any.internal_strconv_formatBase10 Tryz.lays285 blk off cap u d w hH hu hu64 hsz
def Tryz.laysM173_ren : Go.Shelf.Ren := ⟨fun | 173 => 148 | 246 => 183 | 283 => 219 | 284 => 220 | 285 => 221 | 286 => 222 | 129 => 206 | 317 => 242 | 318 => 243 | 319 => 244 | 320 => 245 | 337 => 258 | 338 => 259 | n => n, fun | 2 => 2 | 3 => 3 | 9 => 9 | 4 => 4 | 171 => 246 | 0 => 0 | 53 => 235 | 37 => 142 | 5 => 5 | 173 => 248 | 212 => 270 | 51 => 145 | 20 => 20 | 213 => 271 | 46 => 206 | 232 => 323 | 233 => 324 | n => n, fun | 17 => 0 | 18 => 6 | 19 => 7 | n => n⟩
theorem Tryz.laysM173 : Go.Proofs.LaysM.n173 Tryz.prog Tryz.laysM173_ren := {
 mixed := by kernel_rfl
 f129 := Tryz.func206.trans (congrArg some (by kernel_rfl))
 f173 := Tryz.func148.trans (congrArg some (by kernel_rfl))
 f246 := Tryz.func183.trans (congrArg some (by kernel_rfl))
 f283 := Tryz.func219.trans (congrArg some (by kernel_rfl))
 f284 := Tryz.func220.trans (congrArg some (by kernel_rfl))
 f285 := Tryz.func221.trans (congrArg some (by kernel_rfl))
 f286 := Tryz.func222.trans (congrArg some (by kernel_rfl))
 f317 := Tryz.func242.trans (congrArg some (by kernel_rfl))
 f318 := Tryz.func243.trans (congrArg some (by kernel_rfl))
 f319 := Tryz.func244.trans (congrArg some (by kernel_rfl))
 f320 := Tryz.func245.trans (congrArg some (by kernel_rfl))
 f337 := Tryz.func258.trans (congrArg some (by kernel_rfl))
 f338 := Tryz.func259.trans (congrArg some (by kernel_rfl))
 t0 := Tryz.underlying0
 a0 := Tryz.isAgg0
 z0 := Tryz.sizeOf0
 v0 := Tryz.zeroValue0
 t2 := Tryz.underlying2
 a2 := Tryz.isAgg2
 z2 := Tryz.sizeOf2
 v2 := Tryz.zeroValue2
 t3 := Tryz.underlying3
 a3 := Tryz.isAgg3
 z3 := Tryz.sizeOf3
 v3 := Tryz.zeroValue3
 t4 := Tryz.underlying4
 a4 := Tryz.isAgg4
 z4 := Tryz.sizeOf4
 v4 := Tryz.zeroValue4
 t5 := Tryz.underlying5
 a5 := Tryz.isAgg5
 z5 := Tryz.sizeOf5
 v5 := Tryz.zeroValue5
 t9 := Tryz.underlying9
 a9 := Tryz.isAgg9
 z9 := Tryz.sizeOf9
 v9 := Tryz.zeroValue9
 t20 := Tryz.underlying20
 a20 := Tryz.isAgg20
 z20 := Tryz.sizeOf20
 v20 := Tryz.zeroValue20
 t37 := Tryz.underlying142
 a37 := Tryz.isAgg142
 z37 := Tryz.sizeOf142
 v37 := Tryz.zeroValue142
 t46 := Tryz.underlying206
 a46 := Tryz.isAgg206
 z46 := Tryz.sizeOf206
 v46 := Tryz.zeroValue206
 t51 := Tryz.underlying145
 a51 := Tryz.isAgg145
 z51 := Tryz.sizeOf145
 v51 := Tryz.zeroValue145
 t53 := Tryz.underlying235
 a53 := Tryz.isAgg235
 z53 := Tryz.sizeOf235
 v53 := Tryz.zeroValue235
 t171 := Tryz.underlying246
 a171 := Tryz.isAgg246
 z171 := Tryz.sizeOf246
 v171 := Tryz.zeroValue246
 t173 := Tryz.underlying248
 a173 := Tryz.isAgg248
 z173 := Tryz.sizeOf248
 v173 := Tryz.zeroValue248
 t212 := Tryz.underlying270
 a212 := Tryz.isAgg270
 z212 := Tryz.sizeOf270
 v212 := Tryz.zeroValue270
 t213 := Tryz.underlying271
 a213 := Tryz.isAgg271
 z213 := Tryz.sizeOf271
 t232 := Tryz.underlying323
 a232 := Tryz.isAgg323
 z232 := Tryz.sizeOf323
 v232 := Tryz.zeroValue323
 t233 := Tryz.underlying324
 a233 := Tryz.isAgg324
 z233 := Tryz.sizeOf324
 v233 := Tryz.zeroValue324
 g17 := by kernel_rfl
 g18 := by kernel_rfl
 g19 := by kernel_rfl
 i0 := by kernel_rfl
 i2 := by kernel_rfl
 i3 := by kernel_rfl
 i4 := by kernel_rfl
 i5 := by kernel_rfl
 i9 := by kernel_rfl
 i20 := by kernel_rfl
 i37 := by kernel_rfl
 i46 := by kernel_rfl
 i51 := by kernel_rfl
 i53 := by kernel_rfl
 i171 := by kernel_rfl
 i173 := by kernel_rfl
 i212 := by kernel_rfl
 i232 := by kernel_rfl
 i233 := by kernel_rfl
 m17 := by kernel_rfl
 m18 := by kernel_rfl
 m19 := by kernel_rfl }
open Go.RowKit Go.Sort Go.Lib in
theorem Tryz.strconv_FormatInt_10 (n : Int) (h0 : -9223372036854775808 ≤ n) (h1 : n ≤ 9223372036854775807) (w : World) (htab : Lib.TabIs Tryz.prog w "internal/strconv.uint64pow10" .u64 Lib.pow10Tab) :
  Calls Tryz.prog 148 #[.int .i64 n, .int .i64 10] w fun e w' => e = .returned (.string ⟨(Lib.itoa n).toArray⟩) ∧ ∃ k os, w' = grow (w.drewN k) os := Any.strconv_FormatInt_10 Tryz.laysM173 n h0 h1 w htab
def Tryz.laysC174_ren : Go.Shelf.Ren := ⟨fun | 174 => 180 | 247 => 217 | 245 => 216 | 287 => 241 | 279 => 237 | 280 => 238 | 281 => 239 | 282 => 240 | 321 => 256 | 322 => 257 | 316 => 254 | 171 => 255 | 205 => 169 | 243 => 278 | 246 => 183 | 283 => 219 | 284 => 220 | 285 => 221 | 286 => 222 | 129 => 206 | 317 => 242 | 318 => 243 | 319 => 244 | 320 => 245 | 337 => 258 | 338 => 259 | n => n, fun | 9 => 9 | 3 => 3 | 2 => 2 | 75 => 77 | 85 => 217 | 4 => 4 | 167 => 262 | 5 => 5 | 53 => 235 | 175 => 266 | 46 => 206 | 168 => 263 | 37 => 142 | 0 => 0 | 210 => 294 | 21 => 21 | 127 => 322 | 145 => 228 | 143 => 226 | 171 => 246 | 173 => 248 | 212 => 270 | 51 => 145 | 20 => 20 | 213 => 271 | 232 => 323 | 233 => 324 | 80 => 65 | n => n, fun | 15 => 1 | 16 => 2 | 17 => 0 | 18 => 6 | 19 => 7 | n => n⟩
theorem Tryz.laysC174 : Go.Proofs.LaysC.n174 Tryz.prog Tryz.laysC174_ren := {
 mixed := by kernel_rfl
 f129 := Tryz.func206.trans (congrArg some (by kernel_rfl))
 f171 := Tryz.func255.trans (congrArg some (by kernel_rfl))
 f174 := Tryz.func180.trans (congrArg some (by kernel_rfl))
 f205 := Tryz.func169.trans (congrArg some (by kernel_rfl))
 f243 := Tryz.func278.trans (congrArg some (by kernel_rfl))
 f245 := Tryz.func216.trans (congrArg some (by kernel_rfl))
 f246 := Tryz.func183.trans (congrArg some (by kernel_rfl))
 f247 := Tryz.func217.trans (congrArg some (by kernel_rfl))
 f279 := Tryz.func237.trans (congrArg some (by kernel_rfl))
 f280 := Tryz.func238.trans (congrArg some (by kernel_rfl))
 f281 := Tryz.func239.trans (congrArg some (by kernel_rfl))
 f282 := Tryz.func240.trans (congrArg some (by kernel_rfl))
 f283 := Tryz.func219.trans (congrArg some (by kernel_rfl))
 f284 := Tryz.func220.trans (congrArg some (by kernel_rfl))
 f285 := Tryz.func221.trans (congrArg some (by kernel_rfl))
 f286 := Tryz.func222.trans (congrArg some (by kernel_rfl))
 f287 := Tryz.func241.trans (congrArg some (by kernel_rfl))
 f316 := Tryz.func254.trans (congrArg some (by kernel_rfl))
 f317 := Tryz.func242.trans (congrArg some (by kernel_rfl))
 f318 := Tryz.func243.trans (congrArg some (by kernel_rfl))
 f319 := Tryz.func244.trans (congrArg some (by kernel_rfl))
 f320 := Tryz.func245.trans (congrArg some (by kernel_rfl))
 f321 := Tryz.func256.trans (congrArg some (by kernel_rfl))
 f322 := Tryz.func257.trans (congrArg some (by kernel_rfl))
 f337 := Tryz.func258.trans (congrArg some (by kernel_rfl))
 f338 := Tryz.func259.trans (congrArg some (by kernel_rfl))
 t0 := Tryz.underlying0
 a0 := Tryz.isAgg0
 z0 := Tryz.sizeOf0
 v0 := Tryz.zeroValue0
 t2 := Tryz.underlying2
 a2 := Tryz.isAgg2
 z2 := Tryz.sizeOf2
 v2 := Tryz.zeroValue2
 t3 := Tryz.underlying3
 a3 := Tryz.isAgg3
 z3 := Tryz.sizeOf3
 v3 := Tryz.zeroValue3
 t4 := Tryz.underlying4
 a4 := Tryz.isAgg4
 z4 := Tryz.sizeOf4
 v4 := Tryz.zeroValue4
 t5 := Tryz.underlying5
 a5 := Tryz.isAgg5
 z5 := Tryz.sizeOf5
 v5 := Tryz.zeroValue5
 t9 := Tryz.underlying9
 a9 := Tryz.isAgg9
 z9 := Tryz.sizeOf9
 v9 := Tryz.zeroValue9
 t20 := Tryz.underlying20
 a20 := Tryz.isAgg20
 z20 := Tryz.sizeOf20
 v20 := Tryz.zeroValue20
 t21 := Tryz.underlying21
 a21 := Tryz.isAgg21
 z21 := Tryz.sizeOf21
 v21 := Tryz.zeroValue21
 t37 := Tryz.underlying142
 a37 := Tryz.isAgg142
 z37 := Tryz.sizeOf142
 v37 := Tryz.zeroValue142
 t46 := Tryz.underlying206
 a46 := Tryz.isAgg206
 z46 := Tryz.sizeOf206
 v46 := Tryz.zeroValue206
 t51 := Tryz.underlying145
 a51 := Tryz.isAgg145
 z51 := Tryz.sizeOf145
 v51 := Tryz.zeroValue145
 t53 := Tryz.underlying235
 a53 := Tryz.isAgg235
 z53 := Tryz.sizeOf235
 v53 := Tryz.zeroValue235
 t75 := Tryz.underlying77
 a75 := Tryz.isAgg77
 z75 := Tryz.sizeOf77
 v75 := Tryz.zeroValue77
 t85 := Tryz.underlying217
 a85 := Tryz.isAgg217
 z85 := Tryz.sizeOf217
 v85 := Tryz.zeroValue217
 t127 := Tryz.underlying322
 a127 := Tryz.isAgg322
 z127 := Tryz.sizeOf322
 v127 := Tryz.zeroValue322
 t143 := Tryz.underlying226
 a143 := Tryz.isAgg226
 z143 := Tryz.sizeOf226
 v143 := Tryz.zeroValue226
 t145 := Tryz.underlying228
 a145 := Tryz.isAgg228
 z145 := Tryz.sizeOf228
 v145 := Tryz.zeroValue228
 t167 := Tryz.underlying262
 a167 := Tryz.isAgg262
 z167 := Tryz.sizeOf262
 v167 := Tryz.zeroValue262
 t168 := Tryz.underlying263
 a168 := Tryz.isAgg263
 z168 := Tryz.sizeOf263
 v168 := Tryz.zeroValue263
 t171 := Tryz.underlying246
 a171 := Tryz.isAgg246
 z171 := Tryz.sizeOf246
 v171 := Tryz.zeroValue246
 t173 := Tryz.underlying248
 a173 := Tryz.isAgg248
 z173 := Tryz.sizeOf248
 v173 := Tryz.zeroValue248
 t175 := Tryz.underlying266
 a175 := Tryz.isAgg266
 z175 := Tryz.sizeOf266
 v175 := Tryz.zeroValue266
 t210 := Tryz.underlying294
 a210 := Tryz.isAgg294
 z210 := Tryz.sizeOf294
 v210 := Tryz.zeroValue294
 t212 := Tryz.underlying270
 a212 := Tryz.isAgg270
 z212 := Tryz.sizeOf270
 v212 := Tryz.zeroValue270
 t213 := Tryz.underlying271
 a213 := Tryz.isAgg271
 z213 := Tryz.sizeOf271
 t232 := Tryz.underlying323
 a232 := Tryz.isAgg323
 z232 := Tryz.sizeOf323
 v232 := Tryz.zeroValue323
 t233 := Tryz.underlying324
 a233 := Tryz.isAgg324
 z233 := Tryz.sizeOf324
 v233 := Tryz.zeroValue324
 g15 := by kernel_rfl
 g16 := by kernel_rfl
 g17 := by kernel_rfl
 g18 := by kernel_rfl
 g19 := by kernel_rfl
 t80 := Tryz.underlying65
 a80 := Tryz.isAgg65
 z80 := Tryz.sizeOf65
 v80 := Tryz.zeroValue65
 i0 := by kernel_rfl
 i2 := by kernel_rfl
 i3 := by kernel_rfl
 i4 := by kernel_rfl
 i5 := by kernel_rfl
 i9 := by kernel_rfl
 i20 := by kernel_rfl
 i21 := by kernel_rfl
 i37 := by kernel_rfl
 i46 := by kernel_rfl
 i51 := by kernel_rfl
 i53 := by kernel_rfl
 i75 := by kernel_rfl
 i80 := by kernel_rfl
 i85 := by kernel_rfl
 i127 := by kernel_rfl
 i143 := by kernel_rfl
 i145 := by kernel_rfl
 i167 := by kernel_rfl
 i168 := by kernel_rfl
 i171 := by kernel_rfl
 i173 := by kernel_rfl
 i175 := by kernel_rfl
 i210 := by kernel_rfl
 i212 := by kernel_rfl
 i232 := by kernel_rfl
 i233 := by kernel_rfl
 m15 := by kernel_rfl
 m16 := by kernel_rfl
 m17 := by kernel_rfl
 m18 := by kernel_rfl
 m19 := by kernel_rfl
 c0 := by kernel_rfl
 c2 := by kernel_rfl
 c3 := by kernel_rfl
 c4 := by kernel_rfl
 c5 := by kernel_rfl
 c9 := by kernel_rfl
 c20 := by kernel_rfl
 c21 := by kernel_rfl
 c37 := by kernel_rfl
 c46 := by kernel_rfl
 c51 := by kernel_rfl
 c53 := by kernel_rfl
 c75 := by kernel_rfl
 c80 := by kernel_rfl
 c85 := by kernel_rfl
 c127 := by kernel_rfl
 c143 := by kernel_rfl
 c145 := by kernel_rfl
 c167 := by kernel_rfl
 c168 := by kernel_rfl
 c171 := by kernel_rfl
 c173 := by kernel_rfl
 c175 := by kernel_rfl
 c210 := by kernel_rfl
 c212 := by kernel_rfl
 c213 := by kernel_rfl
 c232 := by kernel_rfl
 c233 := by kernel_rfl }
open Go.RowKit in
theorem Tryz.strconv_ParseInt_10_at64_ok (s : ByteArray) (hmax : s.size ≤ 9223372036854775806) (v : Int) (h : Lib.parseIntB 64 s.data.toList = .ok v) (w : World) :
  Calls Tryz.prog 180 #[.string s, .int .i64 10, .int .i64 64] w fun e w' => e = .returned (.tuple #[.int .i64 v, .nilIface]) ∧ (w' = w ∨ ∃ t, w' = Lib.bytesWorld w 5 t) := Any.strconv_ParseInt_10_at64_ok Tryz.laysC174 s hmax v h w
def Tryz.laysGg6_ren : Go.Shelf.Ren := ⟨fun | 6 => 130 | 10 => 173 | 11 => 174 | 12 => 175 | 13 => 176 | 14 => 177 | 24 => 205 | 25 => 206 | 26 => 207 | 27 => 208 | 28 => 209 | 29 => 210 | 30 => 211 | 31 => 212 | 32 => 213 | 33 => 214 | 34 => 231 | 35 => 232 | 36 => 233 | 37 => 234 | 38 => 235 | 39 => 251 | n => n, fun | 20 => 20 | 26 => 141 | 35 => 200 | 0 => 0 | 37 => 202 | 3 => 3 | 41 => 206 | 44 => 209 | 49 => 145 | 51 => 235 | 4 => 4 | 54 => 238 | 53 => 237 | 58 => 242 | 5 => 5 | 9 => 9 | 60 => 254 | 64 => 258 | 66 => 285 | 67 => 286 | 17 => 17 | 32 => 197 | 33 => 198 | 82 => 379 | 12 => 12 | 75 => 373 | 76 => 374 | 77 => 375 | 78 => 322 | 79 => 376 | 80 => 377 | n => n, fun | n => n⟩
theorem Tryz.laysGg6 : Go.Proofs.LaysGg.n6 Tryz.prog Tryz.laysGg6_ren := {
 mixed := by kernel_rfl
 f6 := Tryz.func130.trans (congrArg some (by kernel_rfl))
 f10 := Tryz.func173.trans (congrArg some (by kernel_rfl))
 f11 := Tryz.func174.trans (congrArg some (by kernel_rfl))
 f12 := Tryz.func175.trans (congrArg some (by kernel_rfl))
 f13 := Tryz.func176.trans (congrArg some (by kernel_rfl))
 f14 := Tryz.func177.trans (congrArg some (by kernel_rfl))
 f24 := Tryz.func205.trans (congrArg some (by kernel_rfl))
 f25 := Tryz.func206.trans (congrArg some (by kernel_rfl))
 f26 := Tryz.func207.trans (congrArg some (by kernel_rfl))
 f27 := Tryz.func208.trans (congrArg some (by kernel_rfl))
 f28 := Tryz.func209.trans (congrArg some (by kernel_rfl))
 f29 := Tryz.func210.trans (congrArg some (by kernel_rfl))
 f30 := Tryz.func211.trans (congrArg some (by kernel_rfl))
 f31 := Tryz.func212.trans (congrArg some (by kernel_rfl))
 f32 := Tryz.func213.trans (congrArg some (by kernel_rfl))
 f33 := Tryz.func214.trans (congrArg some (by kernel_rfl))
 f34 := Tryz.func231.trans (congrArg some (by kernel_rfl))
 f35 := Tryz.func232.trans (congrArg some (by kernel_rfl))
 f36 := Tryz.func233.trans (congrArg some (by kernel_rfl))
 f37 := Tryz.func234.trans (congrArg some (by kernel_rfl))
 f38 := Tryz.func235.trans (congrArg some (by kernel_rfl))
 f39 := Tryz.func251.trans (congrArg some (by kernel_rfl))
 t0 := Tryz.underlying0
 a0 := Tryz.isAgg0
 z0 := Tryz.sizeOf0
 v0 := Tryz.zeroValue0
 i0 := by kernel_rfl
 t3 := Tryz.underlying3
 a3 := Tryz.isAgg3
 z3 := Tryz.sizeOf3
 v3 := Tryz.zeroValue3
 i3 := by kernel_rfl
 t4 := Tryz.underlying4
 a4 := Tryz.isAgg4
 z4 := Tryz.sizeOf4
 v4 := Tryz.zeroValue4
 i4 := by kernel_rfl
 t5 := Tryz.underlying5
 a5 := Tryz.isAgg5
 z5 := Tryz.sizeOf5
 v5 := Tryz.zeroValue5
 i5 := by kernel_rfl
 t9 := Tryz.underlying9
 a9 := Tryz.isAgg9
 z9 := Tryz.sizeOf9
 v9 := Tryz.zeroValue9
 i9 := by kernel_rfl
 t12 := Tryz.underlying12
 a12 := Tryz.isAgg12
 z12 := Tryz.sizeOf12
 v12 := Tryz.zeroValue12
 i12 := by kernel_rfl
 t17 := Tryz.underlying17
 a17 := Tryz.isAgg17
 z17 := Tryz.sizeOf17
 v17 := Tryz.zeroValue17
 i17 := by kernel_rfl
 t20 := Tryz.underlying20
 a20 := Tryz.isAgg20
 z20 := Tryz.sizeOf20
 v20 := Tryz.zeroValue20
 i20 := by kernel_rfl
 t26 := Tryz.underlying141
 a26 := Tryz.isAgg141
 z26 := Tryz.sizeOf141
 v26 := Tryz.zeroValue141
 i26 := by kernel_rfl
 t32 := Tryz.underlying197
 a32 := Tryz.isAgg197
 z32 := Tryz.sizeOf197
 v32 := Tryz.zeroValue197
 i32 := by kernel_rfl
 t33 := Tryz.underlying198
 a33 := Tryz.isAgg198
 z33 := Tryz.sizeOf198
 v33 := Tryz.zeroValue198
 i33 := by kernel_rfl
 t35 := Tryz.underlying200
 a35 := Tryz.isAgg200
 z35 := Tryz.sizeOf200
 v35 := Tryz.zeroValue200
 i35 := by kernel_rfl
 t37 := Tryz.underlying202
 a37 := Tryz.isAgg202
 z37 := Tryz.sizeOf202
 v37 := Tryz.zeroValue202
 i37 := by kernel_rfl
 t41 := Tryz.underlying206
 a41 := Tryz.isAgg206
 z41 := Tryz.sizeOf206
 v41 := Tryz.zeroValue206
 i41 := by kernel_rfl
 t44 := Tryz.underlying209
 a44 := Tryz.isAgg209
 z44 := Tryz.sizeOf209
 v44 := Tryz.zeroValue209
 i44 := by kernel_rfl
 t49 := Tryz.underlying145
 a49 := Tryz.isAgg145
 z49 := Tryz.sizeOf145
 v49 := Tryz.zeroValue145
 i49 := by kernel_rfl
 t51 := Tryz.underlying235
 a51 := Tryz.isAgg235
 z51 := Tryz.sizeOf235
 v51 := Tryz.zeroValue235
 i51 := by kernel_rfl
 t53 := Tryz.underlying237
 a53 := Tryz.isAgg237
 z53 := Tryz.sizeOf237
 v53 := Tryz.zeroValue237
 i53 := by kernel_rfl
 t54 := Tryz.underlying238
 a54 := Tryz.isAgg238
 z54 := Tryz.sizeOf238
 v54 := Tryz.zeroValue238
 i54 := by kernel_rfl
 t58 := Tryz.underlying242
 a58 := Tryz.isAgg242
 z58 := Tryz.sizeOf242
 v58 := Tryz.zeroValue242
 i58 := by kernel_rfl
 t60 := Tryz.underlying254
 a60 := Tryz.isAgg254
 z60 := Tryz.sizeOf254
 v60 := Tryz.zeroValue254
 i60 := by kernel_rfl
 t64 := Tryz.underlying258
 a64 := Tryz.isAgg258
 z64 := Tryz.sizeOf258
 v64 := Tryz.zeroValue258
 i64 := by kernel_rfl
 t66 := Tryz.underlying285
 a66 := Tryz.isAgg285
 z66 := Tryz.sizeOf285
 v66 := Tryz.zeroValue285
 i66 := by kernel_rfl
 t67 := Tryz.underlying286
 a67 := Tryz.isAgg286
 z67 := Tryz.sizeOf286
 v67 := Tryz.zeroValue286
 i67 := by kernel_rfl
 t75 := Tryz.underlying373
 a75 := Tryz.isAgg373
 z75 := Tryz.sizeOf373
 v75 := Tryz.zeroValue373
 i75 := by kernel_rfl
 t76 := Tryz.underlying374
 a76 := Tryz.isAgg374
 z76 := Tryz.sizeOf374
 v76 := Tryz.zeroValue374
 i76 := by kernel_rfl
 t77 := Tryz.underlying375
 a77 := Tryz.isAgg375
 z77 := Tryz.sizeOf375
 v77 := Tryz.zeroValue375
 i77 := by kernel_rfl
 t78 := Tryz.underlying322
 a78 := Tryz.isAgg322
 z78 := Tryz.sizeOf322
 v78 := Tryz.zeroValue322
 i78 := by kernel_rfl
 t79 := Tryz.underlying376
 a79 := Tryz.isAgg376
 z79 := Tryz.sizeOf376
 v79 := Tryz.zeroValue376
 i79 := by kernel_rfl
 t80 := Tryz.underlying377
 a80 := Tryz.isAgg377
 z80 := Tryz.sizeOf377
 v80 := Tryz.zeroValue377
 i80 := by kernel_rfl
 t82 := Tryz.underlying379
 a82 := Tryz.isAgg379
 z82 := Tryz.sizeOf379
 v82 := Tryz.zeroValue379
 i82 := by kernel_rfl }
def Tryz.lays102_ren : Go.Shelf.Ren := ⟨fun | 102 => 152 | 209 => 184 | 207 => 223 | n => n, fun | 9 => 9 | 4 => 4 | 3 => 3 | n => n, fun | n => n⟩
theorem Tryz.lays102 : Go.Proofs.Lays.n102 Tryz.prog Tryz.lays102_ren := {
 mixed := by kernel_rfl
 f102 := Tryz.func152.trans (congrArg some (by kernel_rfl))
 f207 := Tryz.func223.trans (congrArg some (by kernel_rfl))
 f209 := Tryz.func184.trans (congrArg some (by kernel_rfl))
 t3 := Tryz.underlying3
 a3 := Tryz.isAgg3
 z3 := Tryz.sizeOf3
 v3 := Tryz.zeroValue3
 t4 := Tryz.underlying4
 a4 := Tryz.isAgg4
 z4 := Tryz.sizeOf4
 v4 := Tryz.zeroValue4
 t9 := Tryz.underlying9
 a9 := Tryz.isAgg9
 z9 := Tryz.sizeOf9
 v9 := Tryz.zeroValue9 }
open Go.RowKit Go.Lib in
theorem Tryz.strings_TrimSuffix (s p : ByteArray) (w : World) (hs : s.size ≤ 9223372036854775807) :
  Calls Tryz.prog 152 #[.string s, .string p] w fun e w' => e = .returned (.string ⟨(Lib.trimSuffix s.data.toList p.data.toList).toArray⟩) ∧ w' = w := Any.strings_TrimSuffix Tryz.lays102 s p w hs
def Tryz.lays264_ren : Go.Shelf.Ren := ⟨fun | 264 => 318 | n => n, fun | 53 => 235 | 46 => 206 | n => n, fun | n => n⟩
theorem Tryz.lays264 : Go.Proofs.Lays.n264 Tryz.prog Tryz.lays264_ren := {
 mixed := by kernel_rfl
 f264 := Tryz.func318.trans (congrArg some (by kernel_rfl))
 t46 := Tryz.underlying206
 a46 := Tryz.isAgg206
 z46 := Tryz.sizeOf206
 v46 := Tryz.zeroValue206
 t53 := Tryz.underlying235
 a53 := Tryz.isAgg235
 z53 := Tryz.sizeOf235
 v53 := Tryz.zeroValue235 }
open Go.RowKit Go.Lib in
theorem Tryz.bits_Mul64 (x y : Nat) (hx : x < 18446744073709551616) (hy : y < 18446744073709551616) (w : World) :
  Calls Tryz.prog 318 #[.int .u64 x, .int .u64 y] w fun e w' => e = .returned (.tuple #[.int .u64 ((x * y / 18446744073709551616 : Nat) : Int), .int .u64 ((x * y % 18446744073709551616 : Nat) : Int)]) ∧ w' = w := Any.bits_Mul64 Tryz.lays264 x y hx hy w
end Go.Proofs

namespace Go.Jw
open Go Go.RowKit Go.Proofs Go.Sort
theorem chg_grow (w : World) (k : Nat) (os : Array Obj) : Chg [] w (grow (w.drewN k) os) :=
  ⟨rfl, rfl, rfl, by simp [grow], fun j hj _ => by
    show ((w.drewN k).heap ++ os)[j]? = w.heap[j]?
    exact Array.getElem?_append_left hj⟩
theorem pJ {P : Program} {f : FuncId} {args : Array Value} {D : List DA} {v : Value} (hf : Fun P f) (h : ∀ (w : World) (ok : Nat → Prop), (∀ d ∈ D, d.p w ok) → Calls P f args w fun e w' => e = .returned v ∧ Chg [] w w') : CtV P f args D v := by
 refine ⟨hf, fun w ok hok hM hn hD => Calls.mono (h w ok hD) ?_⟩
 rintro e w' ⟨rfl, hc⟩
 exact ⟨v, [], [], rfl, ⟨rfl, rfl, rfl⟩, hc, by simp, by simp [foots], by simp [foots], by simp⟩
def DA.tab : DA := ⟨fun w ok => ∃ g T fz, Tryz.prog.globalNamed "internal/strconv.uint64pow10" = some g ∧ ok g ∧ w.heap[g]? = some (.cells (Lib.pow10Tab.map fun z => Value.int .u64 z).toArray T fz), by
 rintro w w' ok ok' h1 h2 ⟨g, T, fz, hg, hok, h⟩
 exact ⟨g, T, fz, hg, h1 _ hok, (h2 _ hok).trans h⟩⟩
theorem tab_is {w : World} {ok : Nat → Prop} (h : DA.tab.p w ok) : Lib.TabIs Tryz.prog w "internal/strconv.uint64pow10" .u64 Lib.pow10Tab := by
 obtain ⟨g, T, fz, hg, _, hh⟩ := h
 show World.var? Tryz.prog w "internal/strconv.uint64pow10" = _
 unfold World.var?
 rw [hg]
 simp [hh]
theorem fun148 : Fun Tryz.prog 148 := ⟨_, Tryz.func148, by kernel_rfl, rfl⟩
theorem fun147 : Fun Tryz.prog 147 := ⟨_, Tryz.func147, by kernel_rfl, rfl⟩
theorem c148 (n : Int) (h0 : -9223372036854775808 ≤ n) (h1 : n ≤ 9223372036854775807) : CtV Tryz.prog 148 #[.int .i64 n, .int .i64 10] [.tab] (.string ⟨(Lib.itoa n).toArray⟩) :=
 pJ fun148 fun w ok h => (Tryz.strconv_FormatInt_10 n h0 h1 w (tab_is (h _ List.mem_cons_self))).mono (by
  rintro e w' ⟨rfl, k, os, rfl⟩
  exact ⟨rfl, chg_grow w k os⟩)
theorem c147 (b : Bool) : CtV Tryz.prog 147 #[.bool b] [] (.string ⟨(Lib.formatBool b).toArray⟩) :=
 pJ fun147 fun w ok h => (Tryz.strconv_FormatBool b w).mono (by
  rintro e w' ⟨rfl, rfl⟩
  exact ⟨rfl, Chg.refl _ _⟩)
end Go.Jw

namespace Go.Jw
open Go Go.RowKit Go.Proofs
set_option maxRecDepth 8000
open Go.Proofs
instance : Inhabited Y := ⟨.mk 0 ⟨#[]⟩ ⟨#[]⟩ []⟩
def scal (tag v : ByteArray) : Y := .mk 8 tag v []
abbrev tBool : ByteArray := ⟨#[33, 33, 98, 111, 111, 108]⟩
abbrev tInt : ByteArray := ⟨#[33, 33, 105, 110, 116]⟩
abbrev tFloat : ByteArray := ⟨#[33, 33, 102, 108, 111, 97, 116]⟩
abbrev tStr : ByteArray := ⟨#[33, 33, 115, 116, 114]⟩
abbrev tNull : ByteArray := ⟨#[33, 33, 110, 117, 108, 108]⟩
abbrev tSeq : ByteArray := ⟨#[33, 33, 115, 101, 113]⟩
abbrev tMap : ByteArray := ⟨#[33, 33, 109, 97, 112]⟩
abbrev sNull : ByteArray := ⟨#[110, 117, 108, 108]⟩
def frac : Nat → ByteArray
  | 0 => ⟨#[46, 48]⟩
  | 1 => ⟨#[46, 50, 53]⟩
  | 2 => ⟨#[46, 53]⟩
  | _ => ⟨#[46, 55, 53]⟩
abbrev itoaB (n : Int) : ByteArray := ⟨(Lib.itoa n).toArray⟩
def quartS (neg : Bool) (N : Nat) : ByteArray := (if neg then ⟨#[45]⟩ else ⟨#[]⟩) ++ itoaB ((N / 4 : Nat) : Int) ++ frac (N % 4)
def quartV (n : Int) : ByteArray := quartS (decide (n < 0)) n.natAbs
theorem quart_neg {n : Int} {N : Nat} (h : n < 0) (hN : -n = N) : ⟨#[45]⟩ ++ itoaB ((N / 4 : Nat) : Int) ++ frac (N % 4) = quartV n := by
 have : n.natAbs = N := by omega
 simp only [quartV, quartS, this, h, decide_true, if_true]
theorem quart_pos (N : Nat) : ⟨#[]⟩ ++ itoaB ((N / 4 : Nat) : Int) ++ frac (N % 4) = quartV (N : Int) := by
 have : ¬ ((N : Int) < 0) := by omega
 simp [quartV, quartS, this]
theorem frac_at (N : Nat) : ([.string ⟨#[46, 48]⟩, .string ⟨#[46, 50, 53]⟩, .string ⟨#[46, 53]⟩, .string ⟨#[46, 55, 53]⟩] : List Value)[0 + N % 4 * 1]? = some (.string (frac (N % 4))) := by
  have h : N % 4 < 4 := Nat.mod_lt _ (by decide)
  generalize N % 4 = r at h
  match r, h with
  | 0, _ => rfl
  | 1, _ => rfl
  | 2, _ => rfl
  | 3, _ => rfl
theorem qG (N : Nat) : (frac (N % 4)).size ≤ 3 := by
 unfold frac
 split <;> decide
theorem vP (n : Int) (h0 : -9223372036854775808 ≤ n) (h1 : n ≤ 9223372036854775807) : (itoaB n).size ≤ 21 := Lib.itoa_length_le n h0 h1
theorem pK {a b : ByteArray} {p q : Nat} (h1 : a.size ≤ p) (h2 : b.size ≤ q) (h : p + q ≤ 9223372036854775807) : a.size + b.size ≤ 9223372036854775807 := by omega
theorem sz_app {a b : ByteArray} {p q : Nat} (h1 : a.size ≤ p) (h2 : b.size ≤ q) : (a ++ b).size ≤ p + q := by rw [ByteArray.size_append]; omega
theorem quart_size {n : Int} (h0 : -1000000000 < n) (h1 : n < 1000000000) : (quartV n).size ≤ 30 := by
 unfold quartV quartS
 have h2 := vP ((n.natAbs / 4 : Nat) : Int) (by omega) (by omega)
 have h3 := qG n.natAbs
 rw [ByteArray.size_append, ByteArray.size_append]
 have h4 : (if decide (n < 0) = true then (⟨#[45]⟩ : ByteArray) else ⟨#[]⟩).size ≤ 1 := by split <;> decide
 omega
theorem max_of {n m : Nat} (h : n ≤ m) (hm : m ≤ 1000000) : n ≤ maxLen := by unfold maxLen; omega
inductive NumOk : V → Prop where
  | mk {q m : Int} {s : ByteArray} {ks : List ByteArray} {ts : List V} : (q = 2 ∨ q = 6 → -1000000000 < m ∧ m < 1000000000) → (∀ x ∈ ts, NumOk x) → NumOk (.mk q m s ks ts)
theorem NumOk.num {t : V} (h : NumOk t) (hq : t.kind = 2 ∨ t.kind = 6) : -1000000000 < t.num ∧ t.num < 1000000000 := by cases h; rename_i h _; exact h hq
theorem NumOk.item {t : V} (h : NumOk t) : ∀ x ∈ t.items, NumOk x := by cases h; assumption
theorem IsPlain.num : ∀ {d : Nat} {t : V}, IsPlain d t → NumOk t
  | 0, .mk q m s ks ts, h => by
    obtain ⟨h1, h2, h3⟩ := h
    simp only [V.keys, V.items, V.kind, V.num] at h1 h2 h3
    subst h2
    exact .mk (fun _ => by omega) (by simp)
  | d + 1, .mk q m s ks ts, h => by
    rcases h with ⟨h1, h2, h3⟩ | ⟨⟨_, _, h1⟩, h2, h3⟩
    · simp only [V.keys, V.items, V.kind, V.num] at h1 h2 h3
      subst h2
      exact .mk (fun _ => by omega) (by simp)
    · simp only [V.kind] at h1
      exact .mk (fun _ => by omega) (fun x hx => IsPlain.num (h3 x hx))
def prY (p : ByteArray × Y) : List Y := [scal tStr p.1, p.2]
def ordY (back : Bool) (l : List (ByteArray × Y)) : List (ByteArray × Y) := if back then l.reverse else l
noncomputable def nodeV (back : Bool) : V → Y := V.fix (α := Y) (fun t f => if t.kind = 1 then scal tBool ⟨(Lib.formatBool (decide (t.num = 1))).toArray⟩ else if t.kind = 2 then scal tInt (itoaB t.num) else if t.kind = 6 then scal tFloat (quartV t.num) else if t.kind = 3 then scal tStr t.text
  else if t.kind = 4 then .mk 2 tSeq ⟨#[]⟩ (t.items.map f) else if t.kind = 5 then .mk 4 tMap ⟨#[]⟩ ((ordY back (t.keys.zip (t.items.map f))).flatMap prY) else scal tNull sNull)
theorem vS (back : Bool) (t : V) : nodeV back t = if t.kind = 1 then scal tBool ⟨(Lib.formatBool (decide (t.num = 1))).toArray⟩ else if t.kind = 2 then scal tInt (itoaB t.num) else if t.kind = 6 then scal tFloat (quartV t.num) else if t.kind = 3 then scal tStr t.text
  else if t.kind = 4 then .mk 2 tSeq ⟨#[]⟩ (t.items.map (nodeV back)) else if t.kind = 5 then .mk 4 tMap ⟨#[]⟩ ((ordY back (t.keys.zip (t.items.map (nodeV back)))).flatMap prY) else scal tNull sNull :=
 V.fix_eq (G := fun t f => if t.kind = 1 then scal tBool ⟨(Lib.formatBool (decide (t.num = 1))).toArray⟩ else if t.kind = 2 then scal tInt (itoaB t.num) else if t.kind = 6 then scal tFloat (quartV t.num) else if t.kind = 3 then scal tStr t.text
  else if t.kind = 4 then .mk 2 tSeq ⟨#[]⟩ (t.items.map f) else if t.kind = 5 then .mk 4 tMap ⟨#[]⟩ ((ordY back (t.keys.zip (t.items.map f))).flatMap prY) else scal tNull sNull) (fun t g g' h => by
  have : t.items.map g = t.items.map g' := List.map_congr_left fun x hx => h x (xA hx)
  simp only [this]) t
noncomputable def pairsAt (back : Bool) (t : V) (i : Nat) : List Y := ((ordY back (t.keys.zip (t.items.map (nodeV back)))).take i).flatMap prY
theorem pairs_step {back : Bool} {t : V} {i K : Nat} (h1 : K < t.keys.length) (h2 : K < t.items.length) (he : t.keys.length = t.items.length) (hK : (back = true ∧ K = t.keys.length - 1 - i ∧ i < t.keys.length) ∨ (back = false ∧ K = i)) :
    pairsAt back t i ++ [scal tStr t.keys[K]] ++ [nodeV back t.items[K]] = pairsAt back t (i + 1) := by
  have hl : (ordY back (t.keys.zip (t.items.map (nodeV back))))[i]? = some (t.keys[K], nodeV back t.items[K]) := by
    rcases hK with ⟨rfl, hK, hi⟩ | ⟨rfl, rfl⟩
    · simp only [ordY, if_true]
      rw [List.getElem?_reverse (by simp; omega)]
      have : (t.keys.zip (t.items.map (nodeV true))).length - 1 - i = K := by simp; omega
      rw [this, List.getElem?_eq_getElem (by simp; omega)]
      simp
    · rw [show ordY false (t.keys.zip (t.items.map (nodeV false))) = t.keys.zip (t.items.map (nodeV false)) from rfl, List.getElem?_eq_getElem (by simp; omega)]
      simp
  unfold pairsAt
  rw [List.take_add_one, hl, List.flatMap_append]
  simp [prY]
theorem pairs_all {back : Bool} {t : V} {i : Nat} (h : t.keys.length ≤ i) : pairsAt back t i = (ordY back (t.keys.zip (t.items.map (nodeV back)))).flatMap prY := by
 unfold pairsAt
 rw [List.take_of_length_le]
 unfold ordY
 split <;> simp <;> omega

theorem c146 (tag s : ByteArray) (ht : tag.size ≤ maxLen) (hs : s.size ≤ maxLen) : CtR Tryz.prog 146 #[.string tag, .string s] [] (RN (scal tag s)) := by
 refine Ct.of_run (args := [.string tag, .string s]) Tryz.func146 (by kernel_rfl) rfl Tryz.ntmps146 rfl (fun c => ?_)
 refine zD (zB ?_)
 refine zA (zE rfl rfl ?_)
 refine zC (zD ?_)
 refine zB (sT ?_)
 refine zA (xR rfl rfl (sN ..) ?_)
 refine zA (xL rfl rfl rfl (fun b8 => ?_))
 refine zA (zE rfl rfl ?_)
 refine zC (qE ?_)
 exact vX 0 0 rfl rfl (by intro b h; cases h) ht hs (zI Tryz.results146 rfl ⟨rfl, b8, rfl, rfl⟩ nS (sub1 0 rfl))
theorem c149 (n : Int) (h0 : -1000000000 < n) (h1 : n < 1000000000) : CtV Tryz.prog 149 #[.int .i64 n] [.tab] (.string (quartV n)) := by
 refine Ct.of_run (args := [.int .i64 n]) Tryz.func149 (by kernel_rfl) rfl Tryz.ntmps149 rfl (fun c => ?_)
 obtain ⟨r, hr⟩ : ∃ r, r = quartV n := ⟨_, rfl⟩
 rw [← hr]
 refine zD (zB ?_)
 refine zA (zE rfl rfl ?_)
 refine zC (zD ?_)
 refine zB (zA ?_)
 refine zE rfl rfl (zC ?_)
 refine zD (zD ?_)
 refine zB (zA ?_)
 refine zF rfl rfl (zA ?_)
 refine vY rfl rfl rfl (zC ?_)
 refine zS rfl (fun h5 => ?_) (fun h5 => ?_)
 ·obtain ⟨N, hN⟩ : ∃ N : Nat, -n = N := ⟨n.natAbs, by omega⟩
  refine zB (zA ?_)
  refine zF rfl rfl (zA ?_)
  refine sJ rfl rfl hN (by omega) (by omega) (sT ?_)
  refine zC (zD ?_)
  refine kE [(0, _), (3, _)] rfl (run_joinC (fun (s9 : ByteArray) => s9 = r) (fun (s9 : ByteArray) => [(2, .string s9)]) ?_ ?_)
  ·intro K hK
   refine xX xE (yJ ?_)
   refine tP 0 rfl wanted0 (yO rfl) (tP 1 rfl wanted0 (yO rfl) ?_)
   refine tP 6 rfl wanted0 (yO rfl) (yZ ?_)
   refine tM 2 rfl wanted0 (st_quoF (s := ((N / 4 : Nat) : Int)) rfl rfl (by decide) rfl (by omega) (by omega)) (tM 7 rfl wanted0 (st_remF (s := ((N % 4 : Nat) : Int)) rfl rfl (by decide) rfl) ?_)
   refine sH (rs := [3, 5]) (by decide +kernel) (by simp) ?_
   intro j hj
   simp only [List.mem_cons, List.not_mem_nil, or_false] at hj
   rcases hj with rfl | rfl
   ·refine yC (I2 := [[7], [6, 0], []]) rfl wanted0 (by decide +kernel) (fun Kd hKd => ?_)
    refine zV rfl rfl rfl (c148 _ (by omega) (by omega)) (sub1 0 rfl) (hKd _ _ _ (hC (hC (zL (yD)))) ?_)
    refine yZ (tM 4 rfl wanted0 (rP rfl rfl (pK (p := 1) (q := 21) (by decide) (vP _ (by omega) (by omega)) (by decide))) ?_)
    refine yA 5 (by decide +kernel) ?_
    refine yC (I2 := [[4], [7], [6, 0], []]) rfl wanted0 (by decide +kernel) (fun Kd hKd => ?_)
    refine tX sl22 rfl rfl rfl rfl rfl rfl rfl rfl rfl (fun b13 => ?_)
    refine hKd _ _ _ (hC (hC (hC (zL (yD))))) (yZ ?_)
    refine tM 8 rfl wanted0 (uB sl22 rfl rfl (Nat.mod_lt _ (by decide))) (tM 9 rfl wanted0 (sG sc9 rfl (v := .string (frac (N % 4))) (fun _ h => by rw [vG]; exact cellM h (i := 0) rfl (frac_at N))) ?_)
    refine tM 10 rfl wanted0 (rP rfl rfl (pK (p := 1 + 21) (q := 3) (sz_app (by decide) (vP _ (by omega) (by omega))) (qG _) (by decide))) (yJ ?_)
    refine tP 11 rfl wanted0 (xZ rfl) (xF (by decide +kernel) ?_)
    refine kE [(2, _), (0, _), (3, _)] rfl ?_
    exact kQ (hK _ (by rw [hr]; first | exact quart_neg h5 hN | exact quart_pos N)) (eC rfl (eC rfl (eC rfl (eN _))))
   refine yC (I2 := [[7, 2], [6, 1, 0], []]) rfl wanted0 (by decide +kernel) (fun Kd hKd => ?_)
   refine tX sl22 rfl rfl rfl rfl rfl rfl rfl rfl rfl (fun b13 => ?_)
   refine hKd _ _ _ (hC (hC (zL (yD)))) (yZ ?_)
   refine tM 8 rfl wanted0 (uB sl22 rfl rfl (Nat.mod_lt _ (by decide))) (tM 9 rfl wanted0 (sG sc9 rfl (v := .string (frac (N % 4))) (fun _ h => by rw [vG]; exact cellM h (i := 0) rfl (frac_at N))) ?_)
   refine yA 3 (by decide +kernel) ?_
   refine yC (I2 := [[9, 8], [7], [6, 0], []]) rfl wanted0 (by decide +kernel) (fun Kd hKd => ?_)
   refine zV rfl rfl rfl (c148 _ (by omega) (by omega)) (sub1 0 rfl) (hKd _ _ _ (hC (hC (hC (zL (yD))))) ?_)
   refine yZ (tM 4 rfl wanted0 (rP rfl rfl (pK (p := 1) (q := 21) (by decide) (vP _ (by omega) (by omega)) (by decide))) ?_)
   refine tM 10 rfl wanted0 (rP rfl rfl (pK (p := 1 + 21) (q := 3) (sz_app (by decide) (vP _ (by omega) (by omega))) (qG _) (by decide))) (yJ ?_)
   refine tP 11 rfl wanted0 (xZ rfl) (xF (by decide +kernel) ?_)
   refine kE [(2, _), (0, _), (3, _)] rfl ?_
   exact kQ (hK _ (by rw [hr]; first | exact quart_neg h5 hN | exact quart_pos N)) (eC rfl (eC rfl (eC rfl (eN _))))
  intro s9 hI
  replace hI : s9 = r := hI
  change Run _ _ _ _ _ [(2, .string s9), (0, _), (3, _)] (_) (_)
  subst hI
  exact zI Tryz.results149 rfl ⟨rfl, rfl, rfl⟩ nS (fun _ h => by cases h)
 obtain ⟨N, rfl⟩ : ∃ N : Nat, n = N := ⟨n.toNat, by omega⟩
 refine zJ (zD ?_)
 refine kE [(3, _), (0, _)] rfl (run_joinC (fun (s9 : ByteArray) => s9 = r) (fun (s9 : ByteArray) => [(2, .string s9)]) ?_ ?_)
 ·intro K hK
  refine xX xE (yJ ?_)
  refine tP 0 rfl wanted0 (yO rfl) (tP 1 rfl wanted0 (yO rfl) ?_)
  refine tP 6 rfl wanted0 (yO rfl) (yZ ?_)
  refine tM 2 rfl wanted0 (st_quoF (s := ((N / 4 : Nat) : Int)) rfl rfl (by decide) rfl (by omega) (by omega)) (tM 7 rfl wanted0 (st_remF (s := ((N % 4 : Nat) : Int)) rfl rfl (by decide) rfl) ?_)
  refine sH (rs := [3, 5]) (by decide +kernel) (by simp) ?_
  intro j hj
  simp only [List.mem_cons, List.not_mem_nil, or_false] at hj
  rcases hj with rfl | rfl
  ·refine yC (I2 := [[7], [6, 0], []]) rfl wanted0 (by decide +kernel) (fun Kd hKd => ?_)
   refine zV rfl rfl rfl (c148 _ (by omega) (by omega)) (sub1 0 rfl) (hKd _ _ _ (hC (hC (zL (yD)))) ?_)
   refine yZ (tM 4 rfl wanted0 (rP rfl rfl (pK (p := 1) (q := 21) (by decide) (vP _ (by omega) (by omega)) (by decide))) ?_)
   refine yA 5 (by decide +kernel) ?_
   refine yC (I2 := [[4], [7], [6, 0], []]) rfl wanted0 (by decide +kernel) (fun Kd hKd => ?_)
   refine tX sl22 rfl rfl rfl rfl rfl rfl rfl rfl rfl (fun b13 => ?_)
   refine hKd _ _ _ (hC (hC (hC (zL (yD))))) (yZ ?_)
   refine tM 8 rfl wanted0 (uB sl22 rfl rfl (Nat.mod_lt _ (by decide))) (tM 9 rfl wanted0 (sG sc9 rfl (v := .string (frac (N % 4))) (fun _ h => by rw [vG]; exact cellM h (i := 0) rfl (frac_at N))) ?_)
   refine tM 10 rfl wanted0 (rP rfl rfl (pK (p := 1 + 21) (q := 3) (sz_app (by decide) (vP _ (by omega) (by omega))) (qG _) (by decide))) (yJ ?_)
   refine tP 11 rfl wanted0 (xZ rfl) (xF (by decide +kernel) ?_)
   refine kE [(2, _), (3, _), (0, _)] rfl ?_
   exact kQ (hK _ (by rw [hr]; first | exact quart_neg h5 hN | exact quart_pos N)) (eC rfl (eC rfl (eC rfl (eN _))))
  refine yC (I2 := [[7, 2], [6, 1, 0], []]) rfl wanted0 (by decide +kernel) (fun Kd hKd => ?_)
  refine tX sl22 rfl rfl rfl rfl rfl rfl rfl rfl rfl (fun b13 => ?_)
  refine hKd _ _ _ (hC (hC (zL (yD)))) (yZ ?_)
  refine tM 8 rfl wanted0 (uB sl22 rfl rfl (Nat.mod_lt _ (by decide))) (tM 9 rfl wanted0 (sG sc9 rfl (v := .string (frac (N % 4))) (fun _ h => by rw [vG]; exact cellM h (i := 0) rfl (frac_at N))) ?_)
  refine yA 3 (by decide +kernel) ?_
  refine yC (I2 := [[9, 8], [7], [6, 0], []]) rfl wanted0 (by decide +kernel) (fun Kd hKd => ?_)
  refine zV rfl rfl rfl (c148 _ (by omega) (by omega)) (sub1 0 rfl) (hKd _ _ _ (hC (hC (hC (zL (yD))))) ?_)
  refine yZ (tM 4 rfl wanted0 (rP rfl rfl (pK (p := 1) (q := 21) (by decide) (vP _ (by omega) (by omega)) (by decide))) ?_)
  refine tM 10 rfl wanted0 (rP rfl rfl (pK (p := 1 + 21) (q := 3) (sz_app (by decide) (vP _ (by omega) (by omega))) (qG _) (by decide))) (yJ ?_)
  refine tP 11 rfl wanted0 (xZ rfl) (xF (by decide +kernel) ?_)
  refine kE [(2, _), (3, _), (0, _)] rfl ?_
  exact kQ (hK _ (by rw [hr]; first | exact quart_neg h5 hN | exact quart_pos N)) (eC rfl (eC rfl (eC rfl (eN _))))
 intro s9 hI
 replace hI : s9 = r := hI
 change Run _ _ _ _ _ [(2, .string s9), (3, _), (0, _)] (_) (_)
 subst hI
 exact zI Tryz.results149 rfl ⟨rfl, rfl, rfl⟩ nS (fun _ h => by cases h)
theorem c104 (t : V) : ∀ (hw : Wf t) (hn : NumOk t) (back : Bool) (x : Value), CtR Tryz.prog 104 #[x, .bool back] [.val x t, .tab] (RN (nodeV back t)) := by
 refine V.indS (p := fun t => ∀ (hw : Wf t) (hn : NumOk t) (back : Bool) (x : Value), CtR Tryz.prog 104 #[x, .bool back] [.val x t, .tab] (RN (nodeV back t))) ?_ t
 intro t IH hw hn back x
 refine Ct.of_run (args := [x, .bool back]) Tryz.func104 (by kernel_rfl) rfl Tryz.ntmps104 rfl (fun c => ?_)
 refine wC 0 rfl (fun A1 c1 A2 c2 hx hs hk1 hk2 hi1 hi2 => ?_)
 subst hx
 unfold maxLen at hi2 hk2
 refine tR 0 rfl (fun hksz => ?_)
 have hkl := hw.kl
 have hil := hw.il
 have hq5 := hw.eq
 refine zD (zB ?_)
 refine zA (xL rfl rfl rfl (fun b2 => ?_))
 refine zA (zE rfl rfl ?_)
 refine zC (zD ?_)
 refine zD (zB ?_)
 refine zA (zH uI rfl rfl ?_)
 refine zA (zT 0 sc2 rfl rfl rfl rfl ?_)
 refine zC (zN ?_)
 refine zD (zB ?_)
 refine zA (zX rfl rfl rfl ?_)
 refine zA (zE rfl rfl ?_)
 refine zC (zS rfl (fun h13 => ?_) (fun h13 => ?_))
 ·refine zD (zB ?_)
  refine zA (zH tK rfl rfl ?_)
  refine zA (zT 0 sc2 rfl rfl rfl rfl ?_)
  refine zA (zX rfl rfl rfl ?_)
  refine zA (zV rfl rfl rfl (c147 _) sub0 ?_)
  refine zA ?_
  refine zW rfl rfl rfl (c146 _ _ (by decide) (by cases h : decide (t.num = 1) <;> decide)) sub0 (fun u19 D19 hv19 => ?_)
  obtain ⟨b19, rfl, rfl⟩ := hv19
  refine zA (zE rfl rfl ?_)
  refine zC (kE [(4, _)] rfl ?_)
  exact zI Tryz.results104 rfl ⟨rfl, b19, rfl, by rw [vS]; simp [*, scal]⟩ nS (sub1 0 rfl)
 refine zD (zB ?_)
 refine zA (zX rfl rfl rfl ?_)
 refine zA (zE rfl rfl ?_)
 refine zC (zS rfl (fun h20 => ?_) (fun h20 => ?_))
 ·refine zD (zB ?_)
  refine zA (zH tK rfl rfl ?_)
  refine zA (zT 0 sc2 rfl rfl rfl rfl ?_)
  refine zA ?_
  have hnum := hn.num (.inl h20)
  refine zV rfl rfl rfl (c148 _ (by omega) (by omega)) (sub1 3 rfl) (zA ?_)
  refine zW rfl rfl rfl (c146 _ _ (by decide) (max_of (vP _ (by omega) (by omega)) (by decide))) sub0 (fun u25 D25 hv25 => ?_)
  obtain ⟨b25, rfl, rfl⟩ := hv25
  refine zA (zE rfl rfl ?_)
  refine zC (kE [(4, _)] rfl ?_)
  exact zI Tryz.results104 rfl ⟨rfl, b25, rfl, by rw [vS]; simp [*, scal]⟩ nS (sub1 0 rfl)
 refine zD (zB ?_)
 refine zA (zX rfl rfl rfl ?_)
 refine zA (zE rfl rfl ?_)
 refine zC (zS rfl (fun h26 => ?_) (fun h26 => ?_))
 ·refine zD (zB ?_)
  refine zA (zH tK rfl rfl ?_)
  refine zA (zT 0 sc2 rfl rfl rfl rfl ?_)
  refine zA ?_
  have hnum := hn.num (.inr h26)
  refine zV rfl rfl rfl (c149 _ (by omega) (by omega)) (sub1 3 rfl) (zA ?_)
  refine zW rfl rfl rfl (c146 _ _ (by decide) (max_of (quart_size (by omega) (by omega)) (by decide))) sub0 (fun u31 D31 hv31 => ?_)
  obtain ⟨b31, rfl, rfl⟩ := hv31
  refine zA (zE rfl rfl ?_)
  refine zC (kE [(4, _)] rfl ?_)
  exact zI Tryz.results104 rfl ⟨rfl, b31, rfl, by rw [vS]; simp [*, scal]⟩ nS (sub1 0 rfl)
 refine zD (zB ?_)
 refine zA (zX rfl rfl rfl ?_)
 refine zA (zE rfl rfl ?_)
 refine zC (kE [(32, _), (12, _), (2, _), (1, _)] rfl ?_)
 refine zS rfl (fun h32 => ?_) (fun h32 => ?_)
 ·refine zD (zB ?_)
  refine zA (zH pF rfl rfl ?_)
  refine zA (zT 0 sc9 rfl rfl rfl rfl ?_)
  refine zA ?_
  refine zW rfl rfl rfl (c146 _ _ (by decide) (hs)) sub0 (fun u36 D36 hv36 => ?_)
  obtain ⟨b36, rfl, rfl⟩ := hv36
  refine zA (zE rfl rfl ?_)
  refine zC ?_
  exact zI Tryz.results104 rfl ⟨rfl, b36, rfl, by rw [vS]; simp [*, scal]⟩ nS (sub1 0 rfl)
 refine zD (zB ?_)
 refine zA (zX rfl rfl rfl ?_)
 refine zA (zE rfl rfl ?_)
 refine zC (zS rfl (fun h37 => ?_) (fun h37 => ?_))
 ·refine zD (zB ?_)
  refine zA (xR rfl rfl (bu150_0_2 ..) ?_)
  refine zA (xL rfl rfl rfl (fun b40 => ?_))
  refine zA (zE rfl rfl ?_)
  refine zC (zD ?_)
  refine zD (zB ?_)
  refine zA (zH xV rfl rfl ?_)
  refine zA (zT 1 sc23 rfl rfl rfl rfl ?_)
  refine zA (yU sl23 rfl rfl ?_)
  refine zA (zF rfl rfl ?_)
  refine zC (zN ?_)
  refine kE [(44, _), (43, _), (42, _), (5, _), (1, _)] rfl (vE 102 1 ?_)
  refine qF ?_
  refine xU 1 (fun (⟨i, A, ca, xs⟩ : Nat × Option Addr × Nat × List Value) => i ≤ t.items.length) (fun (⟨i, A, ca, xs⟩ : Nat × Option Addr × Nat × List Value) => [(44, .int .i64 ((i : Nat) : Int))]) (fun (⟨i, A, ca, xs⟩ : Nat × Option Addr × Nat × List Value) => HA.row A i ca 102 1 xs :: HA.blk b40 (ycells 2 tSeq ⟨#[]⟩ A i ca) 150 :: HA.blk b2 [.int .i64 t.kind, .int .i64 t.num, .string t.text, .slice A1 t.keys.length c1, .slice A2 t.items.length c2] 25 :: []) (fun (⟨i, A, ca, xs⟩ : Nat × Option Addr × Nat × List Value) => .ptrs xs ((t.items.take i).map (nodeV back)) :: .strs (.slice A1 t.keys.length c1) t.keys :: .vals (.slice A2 t.items.length c2) t.items :: .val (.agg #[.int .i64 t.kind, .int .i64 t.num, .string t.text, .slice A1 t.keys.length c1, .slice A2 t.items.length c2]) t :: .tab :: []) (fun (⟨i, A, ca, xs⟩ : Nat × Option Addr × Nat × List Value) => t.items.length - i) (0, none, 0, []) (by show 0 ≤ _; omega) (eC rfl (eN _)) rfl rfl ?_ (eC rfl (eC rfl (eC rfl (eC rfl (eN _)))))
  intro ⟨i, A, ca, xs⟩ hI K hK
  replace hI : i ≤ t.items.length := hI
  change Run _ _ _ _ _ [(44, .int .i64 ((i : Nat) : Int)), (43, _), (42, _), (5, _), (1, _)] (HA.row A i ca 102 1 xs :: HA.blk b40 (ycells 2 tSeq ⟨#[]⟩ A i ca) 150 :: HA.blk b2 [.int .i64 t.kind, .int .i64 t.num, .string t.text, .slice A1 t.keys.length c1, .slice A2 t.items.length c2] 25 :: []) (.ptrs xs ((t.items.take i).map (nodeV back)) :: .strs (.slice A1 t.keys.length c1) t.keys :: .vals (.slice A2 t.items.length c2) t.items :: .val (.agg #[.int .i64 t.kind, .int .i64 t.num, .string t.text, .slice A1 t.keys.length c1, .slice A2 t.items.length c2]) t :: .tab :: [])
  refine zD (zB ?_)
  refine zA (xT rfl rfl rfl ?_)
  refine zC (zD ?_)
  refine zS rfl (fun h45 => ?_) (fun h45 => ?_)
  ·refine zJ (zD ?_)
   refine zN (zD ?_)
   refine zB (zA ?_)
   refine vF 2 sl23 rfl rfl rfl rfl (by omega) (zA ?_)
   refine vC 2 ag25 rfl rfl rfl (List.getElem?_eq_getElem h45) (fun A3 c3 A4 c4 => ?_)
   refine zA (yM ze25 rfl (fun b7 => ?_))
   change RunOps _ _ _ _ _ _ _ _ (HA.blk _ [_, _, _, _, _] _ :: _) _
   refine zA (zR 0 (M' := [HA.blk _ [_, _, _, _, _] _, _, _, _]) rfl rfl rfl rfl si25 rfl rfl rfl ?_)
   refine zC (xX xE ?_)
   refine yJ (tP 0 rfl wanted0 (yO rfl) ?_)
   refine tP 1 rfl wanted0 (yO rfl) (tP 2 rfl wanted0 (wG rfl) ?_)
   refine tP 3 rfl wanted0 (yN wO rfl) (tP 6 rfl wanted0 (yO rfl) ?_)
   refine yZ (tM 4 rfl wanted0 (xW 2 sc148 rfl rfl rfl) ?_)
   refine tM 5 rfl wanted0 (uE 0 rfl ag25 rfl) (yA 7 (by decide +kernel) ?_)
   refine yC (I2 := [[4], [3, 2, 1, 0], []]) rfl wanted0 (by decide +kernel) (fun Kd hKd => ?_)
   refine zW rfl rfl rfl (IH _ (xA (List.getElem_mem h45)) (hw.item _ (List.getElem_mem h45)) (hn.item _ (List.getElem_mem h45)) back _) (sub2 0 5 rfl rfl) (fun u55 D55 hv55 => ?_)
   obtain ⟨b55, rfl, rfl⟩ := hv55
   refine hKd _ _ _ (hC (hC (zL (yD)))) (yA 8 (by decide +kernel) ?_)
   refine yC (I2 := [[4], [3, 2, 1, 0], []]) rfl wanted0 (by decide +kernel) (fun Kd hKd => ?_)
   refine zZ sl148 rfl rfl rfl rfl rfl (fun b56 => ?_)
   refine hKd _ _ _ (hC (hC (zL (yD)))) (yA 9 (by decide +kernel) ?_)
   refine yC (I2 := [[], [0], []]) rfl wanted0 (by decide +kernel) (fun Kd hKd => ?_)
   refine yL 2 0 sl148 rfl rfl rfl rfl rfl rfl rfl (by unfold maxLen; omega) (by omega) (fun A57 c57 => ?_)
   refine hKd _ _ _ (zL (hC (zL (yD)))) (yJ ?_)
   refine tP 10 rfl wanted0 (wG rfl) (tP 11 rfl wanted0 (yN wO rfl) ?_)
   refine yA 12 (by decide +kernel) ?_
   refine yC (I2 := [[], [], [], []]) rfl wanted0 (by decide +kernel) (fun Kd hKd => ?_)
   refine zR 3 (M' := [_, _, _, HA.blk _ [_, _, _, _, _, _, _, _, _, _, _, _] _, _]) rfl rfl rfl rfl si148 rfl rfl rfl (hKd _ _ _ (zL (zL (zL (zL (yD))))) ?_)
   refine xF (by decide +kernel) (kE [(44, _), (43, _), (42, _), (5, _), (1, _)] rfl ?_)
   refine zQ (zB ?_)
   refine zA (xH rfl rfl (by omega) ?_)
   refine zA (zF rfl rfl ?_)
   refine zC (vO 2 0 rfl rfl ?_)
   rw [tD]
   exact kQ (hK (i + 1, _, _, _) (by show i + 1 ≤ _; omega) (by show t.items.length - (i + 1) < t.items.length - i; omega)) (eC rfl (eC rfl (eC rfl (eC rfl (eC rfl (eN _)))))) (hD := (subc 0 rfl sQ))
  refine yK rfl (zD ?_)
  refine zB (sT ?_)
  refine zC ?_
  obtain rfl : i = t.items.length := by omega
  rw [List.take_length]
  refine uQ 0 0 _ rfl rfl (by intro b h; cases h) (vX 0 0 rfl rfl (by intro b h; cases h) (by decide) (by decide) ?_)
  exact zI Tryz.results104 rfl ⟨rfl, b40, rfl, by rw [vS]; simp [*]⟩ nS (sub1 0 rfl)
 refine zD (zB ?_)
 refine zA (zX rfl rfl rfl ?_)
 refine zA (zE rfl rfl ?_)
 refine zC (zS rfl (fun h62 => ?_) (fun h62 => ?_))
 ·have hq5 := hq5 h62
  refine zD (zB ?_)
  refine zA (xR rfl rfl (bu150_0_2 ..) ?_)
  refine zA (xL rfl rfl rfl (fun b65 => ?_))
  refine zA (zE rfl rfl ?_)
  refine zC (zD ?_)
  refine zD (zB ?_)
  refine zA (zH wL rfl rfl ?_)
  refine zA (zT 1 sc22 rfl rfl rfl rfl ?_)
  refine zA (yU sl22 rfl rfl ?_)
  refine zA (zF rfl rfl ?_)
  refine zC (kE [(69, _), (68, _), (8, _), (2, _), (1, _)] rfl ?_)
  refine zN (kE [(69, _), (68, _), (8, _), (2, _), (1, _)] rfl ?_)
  refine vE 102 1 (qF ?_)
  refine xU 1 (fun (⟨i, m, A, ca, xs, ys⟩ : Nat × Nat × Option Addr × Nat × List Value × List Y) => i ≤ t.keys.length ∧ m = 2 * i ∧ ys = pairsAt back t i) (fun (⟨i, m, A, ca, xs, ys⟩ : Nat × Nat × Option Addr × Nat × List Value × List Y) => [(69, .int .i64 ((i : Nat) : Int))]) (fun (⟨i, m, A, ca, xs, ys⟩ : Nat × Nat × Option Addr × Nat × List Value × List Y) => HA.row A m ca 102 1 xs :: HA.blk b65 (ycells 4 tMap ⟨#[]⟩ A m ca) 150 :: HA.blk b2 [.int .i64 t.kind, .int .i64 t.num, .string t.text, .slice A1 t.keys.length c1, .slice A2 t.items.length c2] 25 :: []) (fun (⟨i, m, A, ca, xs, ys⟩ : Nat × Nat × Option Addr × Nat × List Value × List Y) => .ptrs xs ys :: .strs (.slice A1 t.keys.length c1) t.keys :: .vals (.slice A2 t.items.length c2) t.items :: .val (.agg #[.int .i64 t.kind, .int .i64 t.num, .string t.text, .slice A1 t.keys.length c1, .slice A2 t.items.length c2]) t :: .tab :: []) (fun (⟨i, m, A, ca, xs, ys⟩ : Nat × Nat × Option Addr × Nat × List Value × List Y) => t.keys.length - i) (0, 0, none, 0, [], []) (⟨Nat.zero_le _, rfl, rfl⟩) (eC rfl (eN _)) rfl rfl ?_ (eC rfl (eC rfl (eC rfl (eC rfl (eN _)))))
  intro ⟨i, m, A, ca, xs, ys⟩ hI K hK
  replace hI : i ≤ t.keys.length ∧ m = 2 * i ∧ ys = pairsAt back t i := hI
  change Run _ _ _ _ _ [(69, .int .i64 ((i : Nat) : Int)), (68, _), (8, _), (2, _), (1, _)] (HA.row A m ca 102 1 xs :: HA.blk b65 (ycells 4 tMap ⟨#[]⟩ A m ca) 150 :: HA.blk b2 [.int .i64 t.kind, .int .i64 t.num, .string t.text, .slice A1 t.keys.length c1, .slice A2 t.items.length c2] 25 :: []) (.ptrs xs ys :: .strs (.slice A1 t.keys.length c1) t.keys :: .vals (.slice A2 t.items.length c2) t.items :: .val (.agg #[.int .i64 t.kind, .int .i64 t.num, .string t.text, .slice A1 t.keys.length c1, .slice A2 t.items.length c2]) t :: .tab :: [])
  obtain ⟨hi, hm9, hys⟩ := hI
  refine zD (zB ?_)
  refine zA (xT rfl rfl rfl ?_)
  refine zC (zD ?_)
  refine zS rfl (fun h70 => ?_) (fun h70 => ?_)
  ·refine zJ (zD ?_)
   refine zN (zD ?_)
   refine zB (sT ?_)
   refine zC (zD ?_)
   refine zB (sT ?_)
   refine zC (zD ?_)
   refine zD (zB ?_)
   refine zA (zF rfl rfl ?_)
   refine zC (yI rfl (fun h73 => ?_) (fun h73 => ?_))
   ·refine zB (zA ?_)
    refine zH wL rfl rfl (zA ?_)
    refine zT 2 sc22 rfl rfl rfl rfl (zA ?_)
    refine yU sl22 rfl rfl (zA ?_)
    refine wE (s := ((t.keys.length - 1 : Nat) : Int)) rfl rfl rfl (by omega) (by omega) (by omega) (zA ?_)
    refine zF rfl rfl (zA ?_)
    refine wE (s := ((t.keys.length - 1 - i : Nat) : Int)) rfl rfl rfl (by omega) (by omega) (by omega) (zA ?_)
    refine zE rfl rfl (zC ?_)
    refine kE [(10, _), (69, _), (68, _), (8, _), (2, _), (1, _)] rfl (xX xE ?_)
    refine yJ (tP 0 rfl wanted0 (yO rfl) ?_)
    refine tP 1 rfl wanted0 (yO rfl) (tP 2 rfl wanted0 (wG rfl) ?_)
    refine tP 3 rfl wanted0 (yN wO rfl) (tP 5 rfl wanted0 (yN wL rfl) ?_)
    refine tP 7 rfl wanted0 (yO rfl) (tP 11 rfl wanted0 (yN xV rfl) ?_)
    refine tP 13 rfl wanted0 (yO rfl) (tP 16 rfl wanted0 (yO rfl) ?_)
    refine yZ (tM 4 rfl wanted0 (xW 1 sc148 rfl rfl rfl) ?_)
    refine tM 6 rfl wanted0 (xW 2 sc22 rfl rfl rfl) ?_
    have hJ : t.keys.length - 1 - i < t.keys.length := by omega
    have hJ2 : t.keys.length - 1 - i < t.items.length := by omega
    refine yZ (tM 8 rfl wanted0 (qQ 1 sl22 rfl rfl rfl (by omega)) ?_)
    refine tM 9 rfl wanted0 (sG sc9 rfl (fun _ h => vD h (j := 1) rfl (List.getElem?_eq_getElem hJ))) ?_
    refine tM 12 rfl wanted0 (xW 2 sc23 rfl rfl rfl) (tM 14 rfl wanted0 (sC 2 sl23 rfl rfl rfl (by omega)) ?_)
    refine qB 2 rfl (List.getElem?_eq_getElem hJ2) (fun vs95 hl95 => ?_)
    refine yZ (tM 15 rfl wanted0 (qC 0 hl95 ag25 rfl rfl) ?_)
    refine yA 10 (by decide +kernel) ?_
    refine yC (I2 := [[15], [14, 12], [4], [16, 13, 11, 3, 2, 1, 0], []]) rfl wanted0 (by decide +kernel) (fun Kd hKd => ?_)
    refine zW rfl rfl rfl (c146 _ _ (by decide) (hksz _ (List.getElem_mem hJ))) sub0 (fun u90 D90 hv90 => ?_)
    obtain ⟨b90, rfl, rfl⟩ := hv90
    refine hKd _ _ _ (hC (hC (hC (hC (zL (yD)))))) (yA 17 (by decide +kernel) ?_)
    refine yC (I2 := [[], [], [4], [3, 2, 1, 0], []]) rfl wanted0 (by decide +kernel) (fun Kd hKd => ?_)
    refine zW rfl rfl rfl (IH _ (xA (List.getElem_mem hJ2)) (hw.item _ (List.getElem_mem hJ2)) (hn.item _ (List.getElem_mem hJ2)) back _) (sub2 2 7 rfl rfl) (fun u97 D97 hv97 => ?_)
    obtain ⟨b97, rfl, rfl⟩ := hv97
    refine hKd _ _ _ (zL (zL (hC (hC (zL (yD)))))) (yA 18 (by decide +kernel) ?_)
    refine yC (I2 := [[], [], [4], [3, 2, 1, 0], []]) rfl wanted0 (by decide +kernel) (fun Kd hKd => ?_)
    refine pI sl148 rfl rfl rfl rfl rfl (fun b98 => ?_)
    refine hKd _ _ _ (zL (zL (hC (hC (zL (yD)))))) (yA 19 (by decide +kernel) ?_)
    refine yC (I2 := [[], [], [], [0], []]) rfl wanted0 (by decide +kernel) (fun Kd hKd => ?_)
    refine op_appendK (q := 2) 1 0 sl148 rfl rfl rfl rfl rfl rfl rfl (by unfold maxLen; omega) (by omega) (fun A99 c99 => ?_)
    refine hKd _ _ _ (zL (zL (zL (hC (zL (yD)))))) (yJ ?_)
    refine tP 20 rfl wanted0 (wG rfl) (tP 21 rfl wanted0 (yN wO rfl) ?_)
    refine yA 22 (by decide +kernel) ?_
    refine yC (I2 := [[], [], [], [], [], []]) rfl wanted0 (by decide +kernel) (fun Kd hKd => ?_)
    refine zR 2 (M' := [_, _, HA.blk _ [_, _, _, _, _, _, _, _, _, _, _, _] _, _]) rfl rfl rfl rfl si148 rfl rfl rfl (hKd _ _ _ (zL (zL (zL (zL (zL (zL (yD))))))) ?_)
    refine xF (by decide +kernel) (kE [(69, _), (68, _), (8, _), (2, _), (1, _)] rfl ?_)
    refine zQ (zB ?_)
    refine zA (xH rfl rfl (by omega) ?_)
    refine zA (zF rfl rfl ?_)
    refine zC ?_
    first | (refine vO 4 3 rfl rfl ?_; refine vO 0 1 rfl rfl ?_) | (refine vO 4 1 rfl rfl ?_; refine vO 0 1 rfl rfl ?_)
    rw [List.append_assoc xs]
    exact kQ (hK (i + 1, m + 2, _, _, _, ys ++ [scal tStr (t.keys[t.keys.length - 1 - i]'hJ)] ++ [nodeV back (t.items[t.keys.length - 1 - i]'hJ2)]) (⟨by omega, by omega, by rw [hys]; exact pairs_step hJ hJ2 hq5 (.inl ⟨h73, by omega, by omega⟩)⟩) (by show t.keys.length - (i + 1) < t.keys.length - i; omega)) (eC rfl (eC rfl (eC rfl (eC rfl (eC rfl (eN _)))))) (hD := (subc 0 rfl sQ))
   refine zJ (xX xE ?_)
   refine yJ (tP 0 rfl wanted0 (yO rfl) ?_)
   refine tP 1 rfl wanted0 (yO rfl) (tP 2 rfl wanted0 (wG rfl) ?_)
   refine tP 3 rfl wanted0 (yN wO rfl) (tP 5 rfl wanted0 (yN wL rfl) ?_)
   refine tP 7 rfl wanted0 (yO rfl) (tP 11 rfl wanted0 (yN xV rfl) ?_)
   refine tP 13 rfl wanted0 (yO rfl) (tP 16 rfl wanted0 (yO rfl) ?_)
   refine yZ (tM 4 rfl wanted0 (xW 1 sc148 rfl rfl rfl) ?_)
   refine tM 6 rfl wanted0 (xW 2 sc22 rfl rfl rfl) ?_
   have hJ : i < t.keys.length := by omega
   have hJ2 : i < t.items.length := by omega
   refine yZ (tM 8 rfl wanted0 (qQ 1 sl22 rfl rfl rfl (by omega)) ?_)
   refine tM 9 rfl wanted0 (sG sc9 rfl (fun _ h => vD h (j := 1) rfl (List.getElem?_eq_getElem hJ))) ?_
   refine tM 12 rfl wanted0 (xW 2 sc23 rfl rfl rfl) (tM 14 rfl wanted0 (sC 2 sl23 rfl rfl rfl (by omega)) ?_)
   refine qB 2 rfl (List.getElem?_eq_getElem hJ2) (fun vs95 hl95 => ?_)
   refine yZ (tM 15 rfl wanted0 (qC 0 hl95 ag25 rfl rfl) ?_)
   refine yA 10 (by decide +kernel) ?_
   refine yC (I2 := [[15], [14, 12], [4], [16, 13, 11, 3, 2, 1, 0], []]) rfl wanted0 (by decide +kernel) (fun Kd hKd => ?_)
   refine zW rfl rfl rfl (c146 _ _ (by decide) (hksz _ (List.getElem_mem hJ))) sub0 (fun u90 D90 hv90 => ?_)
   obtain ⟨b90, rfl, rfl⟩ := hv90
   refine hKd _ _ _ (hC (hC (hC (hC (zL (yD)))))) (yA 17 (by decide +kernel) ?_)
   refine yC (I2 := [[], [], [4], [3, 2, 1, 0], []]) rfl wanted0 (by decide +kernel) (fun Kd hKd => ?_)
   refine zW rfl rfl rfl (IH _ (xA (List.getElem_mem hJ2)) (hw.item _ (List.getElem_mem hJ2)) (hn.item _ (List.getElem_mem hJ2)) back _) (sub2 2 7 rfl rfl) (fun u97 D97 hv97 => ?_)
   obtain ⟨b97, rfl, rfl⟩ := hv97
   refine hKd _ _ _ (zL (zL (hC (hC (zL (yD)))))) (yA 18 (by decide +kernel) ?_)
   refine yC (I2 := [[], [], [4], [3, 2, 1, 0], []]) rfl wanted0 (by decide +kernel) (fun Kd hKd => ?_)
   refine pI sl148 rfl rfl rfl rfl rfl (fun b98 => ?_)
   refine hKd _ _ _ (zL (zL (hC (hC (zL (yD)))))) (yA 19 (by decide +kernel) ?_)
   refine yC (I2 := [[], [], [], [0], []]) rfl wanted0 (by decide +kernel) (fun Kd hKd => ?_)
   refine op_appendK (q := 2) 1 0 sl148 rfl rfl rfl rfl rfl rfl rfl (by unfold maxLen; omega) (by omega) (fun A99 c99 => ?_)
   refine hKd _ _ _ (zL (zL (zL (hC (zL (yD)))))) (yJ ?_)
   refine tP 20 rfl wanted0 (wG rfl) (tP 21 rfl wanted0 (yN wO rfl) ?_)
   refine yA 22 (by decide +kernel) ?_
   refine yC (I2 := [[], [], [], [], [], []]) rfl wanted0 (by decide +kernel) (fun Kd hKd => ?_)
   refine zR 2 (M' := [_, _, HA.blk _ [_, _, _, _, _, _, _, _, _, _, _, _] _, _]) rfl rfl rfl rfl si148 rfl rfl rfl (hKd _ _ _ (zL (zL (zL (zL (zL (zL (yD))))))) ?_)
   refine xF (by decide +kernel) (kE [(69, _), (68, _), (8, _), (2, _), (1, _)] rfl ?_)
   refine zQ (zB ?_)
   refine zA (xH rfl rfl (by omega) ?_)
   refine zA (zF rfl rfl ?_)
   refine zC ?_
   first | (refine vO 4 3 rfl rfl ?_; refine vO 0 1 rfl rfl ?_) | (refine vO 4 1 rfl rfl ?_; refine vO 0 1 rfl rfl ?_)
   rw [List.append_assoc xs]
   exact kQ (hK (i + 1, m + 2, _, _, _, ys ++ [scal tStr (t.keys[i]'hJ)] ++ [nodeV back (t.items[i]'hJ2)]) (⟨by omega, by omega, by rw [hys]; exact pairs_step hJ hJ2 hq5 (.inr ⟨h73, by omega⟩)⟩) (by show t.keys.length - (i + 1) < t.keys.length - i; omega)) (eC rfl (eC rfl (eC rfl (eC rfl (eC rfl (eN _)))))) (hD := (subc 0 rfl sQ))
  refine yK rfl (zD ?_)
  refine zB (sT ?_)
  refine zC ?_
  rw [hys, pairs_all (by omega)]
  refine uQ 0 0 _ rfl rfl (by intro b h; cases h) (vX 0 0 rfl rfl (by intro b h; cases h) (by decide) (by decide) ?_)
  exact zI Tryz.results104 rfl ⟨rfl, b65, rfl, by rw [vS]; simp [*]⟩ nS (sub1 0 rfl)
 refine zJ (zQ ?_)
 refine zD (zB ?_)
 refine zA ?_
 refine zW rfl rfl rfl (c146 _ _ (by decide) (by decide)) sub0 (fun u104 D104 hv104 => ?_)
 obtain ⟨b104, rfl, rfl⟩ := hv104
 refine zA (zE rfl rfl ?_)
 refine zC (kE [(4, _)] rfl ?_)
 exact zI Tryz.results104 rfl ⟨rfl, b104, rfl, by rw [vS]; simp [*, scal]⟩ nS (sub1 0 rfl)
end Go.Jw

namespace Go.Jw
open Ieee
set_option maxRecDepth 8000
theorem cut_exact (way : Toward) (neg : Bool) (a d : Nat) : way.cut neg (a * 2 ^ d) d = a := by
 rcases Nat.eq_zero_or_pos a with rfl | ha
 ·unfold Toward.cut
  have h : 0 < 1 <<< min d (Nat.log2 (0 * 2 ^ d) + 2) := by rw [Nat.one_shiftLeft]; exact Nat.two_pow_pos _
  cases way <;> simp [Nat.ne_of_gt h]
 ·have hl : d ≤ (a * 2 ^ d).log2 + 2 := by
   have : d ≤ (a * 2 ^ d).log2 := (Nat.le_log2 (Nat.ne_of_gt (Nat.mul_pos ha (Nat.two_pow_pos d)))).2 (Nat.le_mul_of_pos_left _ ha)
   omega
  have hp := Nat.two_pow_pos d
  unfold Toward.cut
  simp only [Nat.min_eq_left hl, Nat.one_shiftLeft, Nat.mul_div_cancel _ hp, Nat.mul_mod_left]
  cases way <;> simp [Nat.ne_of_gt hp]
theorem log2_mul_pow {m : Nat} (h : 0 < m) (k : Nat) : (m * 2 ^ k).log2 = m.log2 + k := by
 have hp := Nat.two_pow_pos k
 refine (Nat.log2_eq_iff (Nat.ne_of_gt (Nat.mul_pos h hp))).2 ⟨?_, ?_⟩
 ·rw [Nat.pow_add]; exact Nat.mul_le_mul_right _ (Nat.log2_self_le (Nat.ne_of_gt h))
 ·have := @Nat.lt_log2_self m
  rw [show m.log2 + k + 1 = (m.log2 + 1) + k by omega, Nat.pow_add]
  exact Nat.mul_lt_mul_of_pos_right this hp
def fill (m : Nat) : Nat := 52 - m.log2
theorem log_le {m : Nat} (h : m < 2 ^ 53) (h0 : 0 < m) : m.log2 ≤ 52 := by
 have := (Nat.log2_lt (Nat.ne_of_gt h0)).2 h
 omega
theorem fill_le (m : Nat) : fill m ≤ 52 := Nat.sub_le ..
theorem fill_lo {m : Nat} (h : m < 2 ^ 53) (h0 : 0 < m) : 2 ^ 52 ≤ m * 2 ^ fill m := by
 have h1 := Nat.log2_self_le (Nat.ne_of_gt h0)
 have h2 := log_le h h0
 have := Nat.mul_le_mul_right (2 ^ fill m) h1
 rw [← Nat.pow_add, show m.log2 + fill m = 52 by unfold fill; omega] at this
 exact this
theorem fill_hi {m : Nat} (h : m < 2 ^ 53) (h0 : 0 < m) : m * 2 ^ fill m < 2 ^ 53 := by
 have h1 := @Nat.lt_log2_self m
 have h2 := log_le h h0
 have := Nat.mul_lt_mul_of_pos_right h1 (Nat.two_pow_pos (fill m))
 rw [← Nat.pow_add, show m.log2 + 1 + fill m = 53 by unfold fill; omega] at this
 exact this
theorem fill_log {m : Nat} (h : m < 2 ^ 53) (h0 : 0 < m) : (m * 2 ^ fill m).log2 = 52 := by
 rw [log2_mul_pow h0]
 have := log_le h h0
 unfold fill; omega
abbrev near (neg : Bool) (m : Nat) (p : Int) : Nat := double.nearest neg m p
theorem near_eq (neg : Bool) {m : Nat} (h0 : 0 < m) (h : m < 2 ^ 53) (k : Nat) {p : Int} (hp : -900 ≤ p) (hq : p ≤ 900) :
    near neg (m * 2 ^ k) (p - k) = double.word neg ((p - fill m + 1074).toNat * 2 ^ 52 + m * 2 ^ fill m) := by
  have hL := log_le h h0
  have hm : m * 2 ^ k ≠ 0 := Nat.ne_of_gt (Nat.mul_pos h0 (Nat.two_pow_pos k))
  have hf : double.fractionBits = 52 := rfl
  have hl : double.leastPlace = -1074 := by decide
  have hb : double.binade = 2 ^ 52 := rfl
  have hi : double.infRung = 2047 * 2 ^ 52 := by decide
  have hlast : max (p - k + ((m * 2 ^ k).log2 : Nat) - (52 : Nat)) (-1074 : Int) = p - fill m := by
    rw [log2_mul_pow h0]
    unfold fill
    omega
  have hkept : Toward.even.cut neg ((m * 2 ^ k) <<< ((p - k) - (p - fill m)).toNat) ((p - fill m) - (p - k)).toNat = m * 2 ^ fill m := by
    rcases Nat.le_total k (fill m) with hk | hk
    · rw [show ((p - k) - (p - fill m)).toNat = fill m - k by omega, show ((p - fill m) - (p - k)).toNat = 0 by omega, Nat.shiftLeft_eq, Nat.mul_assoc, ← Nat.pow_add, show k + (fill m - k) = fill m by omega]
      have := cut_exact .even neg (m * 2 ^ fill m) 0
      rwa [Nat.pow_zero, Nat.mul_one] at this
    · rw [show ((p - k) - (p - fill m)).toNat = 0 by omega, show ((p - fill m) - (p - k)).toNat = k - fill m by omega, Nat.shiftLeft_zero,
        show m * 2 ^ k = (m * 2 ^ fill m) * 2 ^ (k - fill m) by rw [Nat.mul_assoc, ← Nat.pow_add]; congr 2; omega]
      exact cut_exact ..
  unfold near Format.nearest
  rw [if_neg hm]
  simp only [hf, hl, hb, hi, hlast, hkept]
  rw [Nat.min_eq_left]
  · congr 3
  · have h1 := fill_hi h h0
    have h2 : (p - fill m - -1074).toNat ≤ 1974 := by omega
    have h3 := Nat.mul_le_mul_right (2 ^ 52) h2
    exact Nat.le_trans (Nat.add_le_add h3 (Nat.le_of_lt h1)) (by decide)
theorem near_scale (neg : Bool) {m : Nat} (h0 : 0 < m) (h : m < 2 ^ 53) (k : Nat) {p : Int} (hp : -900 ≤ p) (hq : p ≤ 900) : near neg (m * 2 ^ k) (p - k) = near neg m p := by
 have h2 := near_eq neg h0 h 0 hp hq
 rw [near_eq neg h0 h k hp hq, ← h2]
 simp
theorem near_scale' (neg : Bool) {m M : Nat} (h0 : 0 < m) (h : m < 2 ^ 53) (k : Nat) {p P : Int} (hp : -900 ≤ p) (hq : p ≤ 900) (hM : M = m * 2 ^ k) (hP : P = p - k) : near neg M P = near neg m p := by
 subst hM; subst hP; exact near_scale neg h0 h k hp hq
theorem near_word (neg : Bool) {m : Nat} (h0 : 0 < m) (h : m < 2 ^ 53) {p : Int} (hp : -900 ≤ p) (hq : p ≤ 900) :
  near neg m p = double.word neg ((p - fill m + 1074).toNat * 2 ^ 52 + m * 2 ^ fill m) := by
 have h2 := near_eq neg h0 h 0 hp hq
 rw [← h2]
 simp
theorem rung_lt {m : Nat} (h0 : 0 < m) (h : m < 2 ^ 53) {p : Int} (hq : p ≤ 900) : (p - fill m + 1074).toNat * 2 ^ 52 + m * 2 ^ fill m < 1976 * 2 ^ 52 := by
 have h1 := fill_hi h h0
 have h2 : (p - fill m + 1074).toNat ≤ 1974 := by omega
 have := Nat.mul_le_mul_right (2 ^ 52) h2
 omega
theorem tU (neg : Bool) {m : Nat} (h0 : 0 < m) (h : m < 2 ^ 53) {p : Int} (hp : -900 ≤ p) (hq : p ≤ 900) :
  double.read (near neg m p) = .number neg (m * 2 ^ fill m) (p - fill m) := by
 have h1 := fill_lo h h0
 have h2 := fill_hi h h0
 have h3 := rung_lt h0 h hq
 have hA : 0 ≤ p - fill m + 1074 := by have := fill_le m; omega
 rw [near_word neg h0 h hp hq]
 generalize hK : m * 2 ^ fill m = K at *
 generalize hAA : (p - fill m + 1074).toNat = A at *
 have hl : double.leastPlace = -1074 := by decide
 have hb : double.binade = 2 ^ 52 := rfl
 have hi : double.infRung = 2047 * 2 ^ 52 := by decide
 have hs : double.signWeight = 2 ^ 63 := by decide
 have hneg : (double.word neg (A * 2 ^ 52 + K) / 2 ^ 63 % 2 == 1) = neg := by
  unfold Format.word
  rw [hs]
  cases neg
  ·simp only [Bool.false_eq_true, ↓reduceIte]
   rw [Nat.div_eq_of_lt (by omega)]; rfl
  ·simp only [↓reduceIte]
   rw [show (2 ^ 63 + (A * 2 ^ 52 + K)) / 2 ^ 63 = 1 by omega]; rfl
 have hr : double.word neg (A * 2 ^ 52 + K) % 2 ^ 63 = A * 2 ^ 52 + K := by
  unfold Format.word
  rw [hs]
  cases neg
  ·simp only [Bool.false_eq_true, ↓reduceIte]
   exact Nat.mod_eq_of_lt (by omega)
  ·simp only [↓reduceIte]
   omega
 unfold Format.read
 simp only [hl, hb, hi, hs, hneg, hr]
 rw [if_neg (by omega), if_pos (by omega)]
 congr 1
 ·omega
 ·rw [show (A * 2 ^ 52 + K) / 2 ^ 52 - 1 = A by omega]; omega
theorem write_number (neg : Bool) (m : Nat) (p : Int) : double.write (.number neg m p) = near neg m p := rfl
theorem neg_near {m : Nat} (h0 : 0 < m) (h : m < 2 ^ 53) {p : Int} (hp : -900 ≤ p) (hq : p ≤ 900) : near false m p ^^^ 2 ^ 63 = near true m p := by
  have h3 := rung_lt h0 h hq
  rw [near_word _ h0 h hp hq, near_word _ h0 h hp hq]
  generalize (p - fill m + 1074).toNat * 2 ^ 52 + m * 2 ^ fill m = R at *
  have hs : double.signWeight = 2 ^ 63 := by decide
  unfold Format.word
  rw [hs]
  simp only [Bool.false_eq_true, ↓reduceIte]
  have hR : R < 2 ^ 63 := by omega
  apply Nat.eq_of_testBit_eq
  intro i
  rw [Nat.testBit_xor, Nat.testBit_two_pow]
  rcases Nat.lt_trichotomy i 63 with hi | hi | hi
  · rw [Nat.testBit_two_pow_add_gt hi]
    simp [show ¬ 63 = i by omega]
  · subst hi
    rw [Nat.testBit_two_pow_add_eq, Nat.testBit_lt_two_pow hR]
    simp
  · rw [Nat.testBit_lt_two_pow (Nat.lt_trans hR (Nat.pow_lt_pow_right (by omega) hi)), Nat.testBit_lt_two_pow (Nat.lt_of_lt_of_le (by omega : 2 ^ 63 + R < 2 ^ 64) (Nat.pow_le_pow_right (by omega) hi))]
    simp [show ¬ 63 = i by omega]
theorem mul_near (s t : Bool) {a b c k : Nat} {p q : Int} (ha : 0 < a) (ha' : a < 2 ^ 53) (hb : 0 < b) (hb' : b < 2 ^ 53) (hc' : c < 2 ^ 53) (hab : a * b = c * 2 ^ k)
    (hp : -400 ≤ p) (hp' : p ≤ 400) (hq : -400 ≤ q) (hq' : q ≤ 400) (hk : k ≤ 100) : double.mul (near s a p) (near t b q) = some (near (s ^^ t) c (p + q + k)) := by
  have hc : 0 < c := by
    rcases Nat.eq_zero_or_pos c with rfl | h
    · have := Nat.mul_pos ha hb; omega
    · exact h
  unfold Format.mul
  rw [tU s ha ha' (by omega) (by omega), tU t hb hb' (by omega) (by omega)]
  show some (near (s ^^ t) _ _) = _
  congr 1
  refine near_scale' _ hc hc' (k + fill a + fill b) (by omega) (by omega) ?_ (by omega)
  rw [Nat.pow_add, Nat.pow_add]
  calc a * 2 ^ fill a * (b * 2 ^ fill b) = (a * b) * (2 ^ fill a * 2 ^ fill b) := by ac_rfl
    _ = c * (2 ^ k * 2 ^ fill a * 2 ^ fill b) := by rw [hab]; ac_rfl
theorem quot_eq (s t : Bool) {A B : Nat} (p q : Int) (hB : 0 < B) (hA : A.log2 = 52) (hl : B.log2 = 52) {X : Nat} (hX : A <<< 54 = X * B) : Datum.quotient 54 (.number s A p) (.number t B q) = some (.number (s ^^ t) (2 * X) (p - q - 54 - 1)) := by
 unfold Datum.quotient
 simp only [if_neg (Nat.ne_of_gt hB), hA, hl, Nat.add_sub_cancel]
 rw [hX, Nat.mul_div_cancel _ hB, Nat.mul_mod_left]
 rfl
theorem quot_num {a b c h x y : Nat} (hab : a * 2 ^ h = b * c) (hh : h ≤ 2) (hy : y ≤ 52) : (a * 2 ^ x) <<< 54 = (c * 2 ^ (54 + x - h - y)) * (b * 2 ^ y) := by
 rw [Nat.shiftLeft_eq]
 have e1 : a * 2 ^ x * 2 ^ 54 = a * 2 ^ h * 2 ^ (54 + x - h - y) * 2 ^ y := by
  rw [Nat.mul_assoc, Nat.mul_assoc (a * 2 ^ h), Nat.mul_assoc a, ← Nat.pow_add, ← Nat.pow_add, ← Nat.pow_add]
  congr 2; omega
 rw [e1, hab]; ac_rfl
theorem c_pos {a b c h : Nat} (ha : 0 < a) (hab : a * 2 ^ h = b * c) : 0 < c := by
 rcases Nat.eq_zero_or_pos c with rfl | hc
 ·have := Nat.mul_pos ha (Nat.two_pow_pos h); rw [hab] at this; exact absurd this (by simp)
 ·exact hc
theorem pow_two_c (c X : Nat) : 2 * (c * 2 ^ X) = c * 2 ^ (X + 1) := by
 rw [Nat.pow_succ]
 ac_rfl
theorem div_near (s t : Bool) {a b c h : Nat} {p q : Int} (ha : 0 < a) (ha' : a < 2 ^ 53) (hb : 0 < b) (hb' : b < 2 ^ 53) (hc' : c < 2 ^ 53) (hab : a * 2 ^ h = b * c) (hh : h ≤ 2)
  (hp : -400 ≤ p) (hp' : p ≤ 400) (hq : -400 ≤ q) (hq' : q ≤ 400) : double.div (near s a p) (near t b q) = some (near (s ^^ t) c (p - q - h)) := by
 have hd := quot_num (x := fill a) (y := fill b) hab hh (fill_le b)
 have hq2 := quot_eq s t (p - fill a) (q - fill b) (Nat.mul_pos hb (Nat.two_pow_pos _)) (fill_log ha' ha) (fill_log hb' hb) hd
 have h54 : double.fractionBits + 2 = 54 := rfl
 have hfa := fill_le a
 have hfb := fill_le b
 unfold Format.div
 rw [tU s ha ha' (by omega) (by omega), tU t hb hb' (by omega) (by omega), h54, hq2, Option.map_some, write_number]
 exact congrArg some (near_scale' _ (c_pos ha hab) hc' (54 + fill a - h - fill b + 1) (by omega) (by omega) (pow_two_c _ _) (by omega))
theorem signed_scale (s : Bool) (m j k : Nat) : signed s (m * 2 ^ k) j = signed s m (k + j) := by
 unfold signed
 rw [Nat.shiftLeft_eq, Nat.shiftLeft_eq, Nat.mul_assoc, ← Nat.pow_add]
theorem qS (s : Bool) (m j k : Nat) : signed s m (j + k) = signed s m j * ((2 ^ k : Nat) : Int) := by
 unfold signed
 rw [Nat.shiftLeft_eq, Nat.shiftLeft_eq, Nat.pow_add, ← Nat.mul_assoc]
 cases s
 ·simp only [Bool.false_eq_true, ↓reduceIte]; rw [Int.natCast_mul]
 ·simp only [↓reduceIte]; rw [Int.natCast_mul, Int.neg_mul]
theorem compare_mul (x y : Int) {k : Int} (hk : 0 < k) : compare (x * k) (y * k) = compare x y := by
 simp only [Int.compare_eq_ite_lt]
 have h1 : x * k < y * k ↔ x < y := ⟨fun h => Int.lt_of_mul_lt_mul_right h (Int.le_of_lt hk), fun h => Int.mul_lt_mul_of_pos_right h hk⟩
 have h2 : y * k < x * k ↔ y < x := ⟨fun h => Int.lt_of_mul_lt_mul_right h (Int.le_of_lt hk), fun h => Int.mul_lt_mul_of_pos_right h hk⟩
 simp only [h1, h2]
theorem order_near (s t : Bool) {a b : Nat} {p q B : Int} (ha : 0 < a) (ha' : a < 2 ^ 53) (hb : 0 < b) (hb' : b < 2 ^ 53)
    (hp : -900 ≤ p) (hp' : p ≤ 900) (hq : -900 ≤ q) (hq' : q ≤ 900) (hB : B ≤ p) (hB' : B ≤ q) : double.order (near s a p) (near t b q) = some (compare (signed s a (p - B).toNat) (signed t b (q - B).toNat)) := by
  unfold Format.order
  rw [tU s ha ha' hp hp', tU t hb hb' hq hq']
  unfold Datum.order
  simp only []
  congr 1
  rw [signed_scale, signed_scale]
  generalize hm : min (p - fill a) (q - fill b) = M
  have h1 : M ≤ p - fill a := by omega
  have h2 : M ≤ q - fill b := by omega
  rcases Int.le_total M B with h | h
  · rw [show fill a + (p - fill a - M).toNat = (p - B).toNat + (B - M).toNat by omega, show fill b + (q - fill b - M).toNat = (q - B).toNat + (B - M).toNat by omega, qS, qS]
    exact compare_mul _ _ (Int.natCast_pos.2 (Nat.two_pow_pos _))
  · rw [show (p - B).toNat = (fill a + (p - fill a - M).toNat) + (M - B).toNat by omega, show (q - B).toNat = (fill b + (q - fill b - M).toNat) + (M - B).toNat by omega, qS s a (fill a + (p - fill a - M).toNat) (M - B).toNat, qS t b (fill b + (q - fill b - M).toNat) (M - B).toNat]
    exact (compare_mul _ _ (Int.natCast_pos.2 (Nat.two_pow_pos _))).symm
theorem toInt_near (s : Bool) {m j : Nat} (h0 : 0 < m) (h : m < 2 ^ 53) (hj : j ≤ 2) : (double.read (near s m (-(j : Int)))).toInt .zero = some (if s then -((m / 2 ^ j : Nat) : Int) else ((m / 2 ^ j : Nat) : Int)) := by
 rw [tU s h0 h (by omega) (by omega)]
 unfold Datum.toInt Datum.integral
 have hf := fill_le m
 simp only []
 rw [show (-(j : Int) - fill m).toNat = 0 by omega, show (-(-(j : Int) - fill m)).toNat = j + fill m by omega, Nat.shiftLeft_zero]
 have hcut : Toward.zero.cut s (m * 2 ^ fill m) (j + fill m) = m / 2 ^ j := by
  unfold Toward.cut
  rw [fill_log h h0, Nat.min_eq_left (by omega), Nat.one_shiftLeft, Nat.pow_add]
  simp only [Bool.toNat_false, Nat.add_zero]
  exact Nat.mul_div_mul_right _ _ (Nat.two_pow_pos _)
 rw [hcut]
 unfold signed
 simp
theorem read_zero : double.read 0 = .number false 0 (-1074) := by decide
theorem order_zero (s : Bool) {a : Nat} {p : Int} (ha : 0 < a) (ha' : a < 2 ^ 53) (hp : -900 ≤ p) (hp' : p ≤ 900) : double.order (near s a p) 0 = some (if s then .lt else .gt) := by
 unfold Format.order
 rw [tU s ha ha' hp hp', read_zero]
 unfold Datum.order signed
 simp only [Nat.shiftLeft_eq, Nat.zero_mul, Bool.false_eq_true, ↓reduceIte]
 have := Nat.mul_pos (Nat.mul_pos ha (Nat.two_pow_pos (fill a))) (Nat.two_pow_pos (p - fill a - min (p - fill a) (-1074)).toNat)
 cases s
 ·simp only [Bool.false_eq_true, ↓reduceIte, Int.compare_eq_ite_lt]
  rw [if_neg (by omega), if_pos (by omega)]
 ·simp only [↓reduceIte, Int.compare_eq_ite_lt]
  rw [if_pos (by omega)]
end Go.Jw

namespace Go.Jw
open Ieee
def qw (n : Int) : Nat := near (decide (n < 0)) n.natAbs (-2)
theorem qw_parse (s : Bool) {m a n : Nat} (hn : 0 < n) (hn' : n < 2 ^ 53) (hm : m < 2 ^ 53) (hb : 10 ^ a < 2 ^ 53) (h : m * 4 = 10 ^ a * n) : double.div (near s m 0) (near false (10 ^ a) 0) = some (near s n (-2)) := by
 have hp : 0 < 10 ^ a := Nat.pow_pos (by omega)
 have h0 : 0 < m := by
  rcases Nat.eq_zero_or_pos m with rfl | h0
  ·have := Nat.mul_pos hp hn; omega
  ·exact h0
 have := div_near (p := 0) (q := 0) (h := 2) s false h0 hm hp hb hn' h (by omega) (by omega) (by omega) (by omega) (by omega)
 simpa using this
section
variable {n : Int} (h0 : n ≠ 0) (h1 : -1000000000 < n) (h2 : n < 1000000000)
 include h0 h1 h2
theorem qabs : 0 < n.natAbs ∧ n.natAbs < 2 ^ 53 ∧ n.natAbs < 1000000000 := by omega
theorem qw_big (t : Bool) : double.order (qw n) (near t 1000000000000 0) = some (if t then .gt else .lt) := by
 obtain ⟨a1, a2, a3⟩ := qabs h0 h1 h2
 unfold qw
 rw [order_near (B := -2) _ t a1 a2 (by omega) (by omega) (by omega) (by omega) (by omega) (by omega) (by omega) (by omega)]
 congr 1
 rw [show ((-2 : Int) - -2).toNat = 0 from rfl, show ((0 : Int) - -2).toNat = 2 from rfl]
 unfold signed
 simp only [Nat.shiftLeft_eq]
 cases t <;> by_cases hs : n < 0 <;> simp only [hs, decide_true, decide_false, Bool.false_eq_true, ↓reduceIte, Int.compare_eq_ite_lt] <;> (repeat' split) <;> first | rfl | omega
theorem qw_mul4 : double.mul (qw n) (near false 4 0) = some (near (decide (n < 0)) n.natAbs 0) := by
 obtain ⟨a1, a2, a3⟩ := qabs h0 h1 h2
 have := mul_near (p := -2) (q := 0) (k := 2) (c := n.natAbs) (decide (n < 0)) false a1 a2 (b := 4) (by omega) (by omega) a2 rfl (by omega) (by omega) (by omega) (by omega) (by omega)
 unfold qw
 rw [this]
 simp
theorem q4_int : (double.read (near (decide (n < 0)) n.natAbs 0)).toInt .zero = some n := by
 obtain ⟨a1, a2, a3⟩ := qabs h0 h1 h2
 have := toInt_near (decide (n < 0)) (j := 0) a1 a2 (by omega)
 rw [show (-((0 : Nat) : Int)) = 0 from rfl] at this
 rw [this]
 simp only [Nat.pow_zero, Nat.div_one, Option.some.injEq]
 by_cases hs : n < 0 <;> simp [hs] <;> omega
theorem q4_eq : double.order (near (decide (n < 0)) n.natAbs 0) (near (decide (n < 0)) n.natAbs 0) = some .eq := by
 obtain ⟨a1, a2, a3⟩ := qabs h0 h1 h2
 rw [order_near (B := 0) _ _ a1 a2 a1 a2 (by omega) (by omega) (by omega) (by omega) (by omega) (by omega)]
 simp [Int.compare_eq_ite_lt]
theorem qw_int : (double.read (qw n)).toInt .zero = some (n.tdiv 4) := by
 obtain ⟨a1, a2, a3⟩ := qabs h0 h1 h2
 have := toInt_near (decide (n < 0)) (j := 2) a1 a2 (by omega)
 rw [show (-((2 : Nat) : Int)) = -2 from rfl] at this
 unfold qw
 rw [this, Option.some.injEq]
 by_cases hs : n < 0
 ·simp only [hs, decide_true, ↓reduceIte]
  have h3 : n = -(n.natAbs : Int) := by omega
  conv => rhs; rw [h3]
  rw [Int.neg_tdiv, show ((4 : Int)) = ((4 : Nat) : Int) from rfl, ← Int.ofNat_tdiv]
 ·simp only [hs, decide_false, Bool.false_eq_true, ↓reduceIte]
  have h3 : n = (n.natAbs : Int) := by omega
  conv => rhs; rw [h3]
  rw [show ((4 : Int)) = ((4 : Nat) : Int) from rfl, ← Int.ofNat_tdiv]
theorem qw_ne (hm : n.tmod 4 ≠ 0) : double.order (qw n) (near (decide (n.tdiv 4 < 0)) (n.tdiv 4).natAbs 0) ≠ some .eq := by
  obtain ⟨a1, a2, a3⟩ := qabs h0 h1 h2
  have e := Int.tdiv_mul_add_tmod n 4
  rcases Decidable.em (n.tdiv 4 = 0) with hz | hz
  · rw [hz]
    have := order_zero (decide (n < 0)) a1 a2 (p := -2) (by omega) (by omega)
    unfold qw
    rw [show near (decide ((0 : Int) < 0)) (0 : Int).natAbs 0 = 0 from rfl, this]
    split <;> simp
  · have b1 : 0 < (n.tdiv 4).natAbs := by omega
    have b2 : (n.tdiv 4).natAbs < 2 ^ 53 := by
      have := Int.natAbs_tdiv_le_natAbs n 4
      omega
    unfold qw
    rw [order_near (B := -2) _ _ a1 a2 b1 b2 (by omega) (by omega) (by omega) (by omega) (by omega) (by omega)]
    rw [show ((-2 : Int) - -2).toNat = 0 from rfl, show ((0 : Int) - -2).toNat = 2 from rfl]
    have s1 : signed (decide (n < 0)) n.natAbs 0 = n := by
      unfold signed
      rw [Nat.shiftLeft_zero]
      by_cases hs : n < 0 <;> simp [hs] <;> omega
    generalize n.tdiv 4 = z at *
    have s2 : signed (decide (z < 0)) z.natAbs 2 = 4 * z := by
      unfold signed
      rw [Nat.shiftLeft_eq]
      by_cases hs : z < 0 <;> simp only [hs, decide_true, decide_false, Bool.false_eq_true, ↓reduceIte] <;> omega
    rw [s1, s2]
    simp only [Int.compare_eq_ite_lt]
    (repeat' split) <;> first | (exfalso; omega) | simp
end
theorem c_1e12 : near false 1000000000000 0 = 4786511204640096256 := by decide
theorem c_1e12n : near true 1000000000000 0 = 14009883241494872064 := by decide
theorem c_4 : near false 4 0 = 4616189618054758400 := by decide
theorem c_10 : near false (10 ^ 1) 0 = 4621819117588971520 := by decide
theorem c_100 : near false (10 ^ 2) 0 = 4636737291354636288 := by decide
theorem c_1000000 : near false (10 ^ 6) 0 = 4696837146684686336 := by decide
end Go.Jw

namespace Go.Jw
open Go Go.RowKit

inductive EV where
  | str (s : ByteArray)
  | bool (x : Bool)
inductive FVal where
  | text (s : ByteArray)
  | bool (x : Bool)
  | int (n : Int)
  | numI (n : Int)
  | numF (f : Nat)
  | sbS (b : Nat)
  | sbB (x : Bool)
  | itS (b : Nat)
  | itL (bs : List Nat)
  | texts (l : List ByteArray)
  | named (l : List (ByteArray × Nat))
  | deps (l : List (ByteArray × List ByteArray))
  | enums (l : List EV)
  | tyS (s : ByteArray)
  | tyL (l : List ByteArray)
  | list (bs : List Nat)
  | one (b : Nat)
  | any
abbrev ptr (b : Nat) : Value := .pointer (some ⟨b, 0, none⟩)
def PtsTo (w : World) (ok : Nat → Prop) (p : Addr) (v : Value) : Prop := ok p.block ∧ w.cell? p = some v
def BlkP (w : World) (ok : Nat → Prop) (b : Nat) (cs : List Value) (T : TypeId) : Prop := ok b ∧ w.heap[b]? = some (.cells cs.toArray T (0, 0))
def RowPtrs (w : World) (ok : Nat → Prop) (v : Value) (bs : List Nat) : Prop := ∃ A c, v = .slice A bs.length c ∧ bs.length ≤ c ∧ c ≤ maxLen ∧ ∀ i b, bs[i]? = some b → ∃ a, A = some a ∧ ok a.block ∧ w.cell? (a.add i) = some (ptr b)
def EvP (w : World) (ok : Nat → Prop) (e : EV) (u v : Value) : Prop := match e with
  | .str s => ∃ p, u = .pointer (some p) ∧ v = .pointer none ∧ s.size ≤ maxLen ∧ PtsTo w ok p (.string s)
  | .bool x => ∃ p, u = .pointer none ∧ v = .pointer (some p) ∧ PtsTo w ok p (.bool x)
def FvP (w : World) (ok : Nat → Prop) : FVal → Value → Prop
  | .text s, v => ∃ p, v = .pointer (some p) ∧ s.size ≤ maxLen ∧ PtsTo w ok p (.string s)
  | .bool x, v => ∃ p, v = .pointer (some p) ∧ PtsTo w ok p (.bool x)
  | .int n, v => ∃ p, v = .pointer (some p) ∧ PtsTo w ok p (.int .i64 n)
  | .numI n, v => ∃ b p, v = ptr b ∧ BlkP w ok b [.pointer (some p), .pointer none] 213 ∧ PtsTo w ok p (.int .i64 n)
  | .numF f, v => ∃ b p, v = ptr b ∧ BlkP w ok b [.pointer none, .pointer (some p)] 213 ∧ PtsTo w ok p (.float .f64 f)
  | .sbS c, v => ∃ b, v = ptr b ∧ BlkP w ok b [ptr c, .pointer none] 185
  | .sbB x, v => ∃ b p, v = ptr b ∧ BlkP w ok b [.pointer none, .pointer (some p)] 185 ∧ PtsTo w ok p (.bool x)
  | .itS c, v => ∃ b, v = ptr b ∧ BlkP w ok b [ptr c, .pointer none] 187
  | .itL bs, v => ∃ b p sl, v = ptr b ∧ BlkP w ok b [.pointer none, .pointer (some p)] 187 ∧ PtsTo w ok p sl ∧ RowPtrs w ok sl bs
  | .texts l, v => ∃ p sl, v = .pointer (some p) ∧ PtsTo w ok p sl ∧ StrsP w ok sl l
  | .named l, v => ∃ p sl nbs, v = .pointer (some p) ∧ PtsTo w ok p sl ∧ RowPtrs w ok sl nbs ∧ nbs.length = l.length ∧ ∀ (i : Nat) (q : ByteArray × Nat) (nb : Nat), l[i]? = some q → nbs[i]? = some nb → q.1.size ≤ maxLen ∧ BlkP w ok nb [.string q.1, ptr q.2] 179
  | .deps l, v => ∃ p sl nbs, v = .pointer (some p) ∧ PtsTo w ok p sl ∧ RowPtrs w ok sl nbs ∧ nbs.length = l.length ∧ ∀ (i : Nat) (q : ByteArray × List ByteArray) (nb : Nat), l[i]? = some q → nbs[i]? = some nb →
      ∃ tb p2 sl2, q.1.size ≤ maxLen ∧ BlkP w ok nb [.string q.1, ptr tb] 192 ∧ BlkP w ok tb [.pointer none, .pointer (some p2)] 194 ∧ PtsTo w ok p2 sl2 ∧ StrsP w ok sl2 q.2
  | .enums l, v => ∃ p A c, v = .pointer (some p) ∧ PtsTo w ok p (.slice A l.length c) ∧ l.length ≤ c ∧ c ≤ maxLen ∧ ∀ i e, l[i]? = some e → ∃ a u u', A = some a ∧ ok a.block ∧ w.cell? (a.add (i * 2)) = some u ∧ w.cell? (a.add (i * 2 + 1)) = some u' ∧ EvP w ok e u u'
  | .tyS s, v => ∃ b p, v = ptr b ∧ s.size ≤ maxLen ∧ BlkP w ok b [.pointer (some p), .pointer none] 196 ∧ PtsTo w ok p (.string s)
  | .tyL l, v => ∃ b p sl, v = ptr b ∧ BlkP w ok b [.pointer none, .pointer (some p)] 196 ∧ PtsTo w ok p sl ∧ StrsP w ok sl l
  | .list bs, v => ∃ p sl, v = .pointer (some p) ∧ PtsTo w ok p sl ∧ RowPtrs w ok sl bs
  | .one c, v => v = ptr c
  | .any, v => ∃ p, v = .pointer (some p)
section
variable {w w' : World} {ok ok' : Nat → Prop}
theorem PtsTo.mono (h1 : ∀ k, ok k → ok' k) (h2 : ∀ k, ok k → w'.heap[k]? = w.heap[k]?) {p : Addr} {v : Value} (h : PtsTo w ok p v) : PtsTo w' ok' p v :=
 ⟨h1 _ h.1, by rw [tQ (w := w) (w' := w') (h2 _ h.1)]; exact h.2⟩
theorem BlkP.mono (h1 : ∀ k, ok k → ok' k) (h2 : ∀ k, ok k → w'.heap[k]? = w.heap[k]?) {b : Nat} {cs : List Value} {T : TypeId} (h : BlkP w ok b cs T) : BlkP w' ok' b cs T := ⟨h1 _ h.1, (h2 _ h.1).trans h.2⟩
theorem qH (h2 : ∀ k, ok k → w'.heap[k]? = w.heap[k]?) {a : Addr} {i : Nat} {v : Value} (hok : ok a.block) (h : w.cell? (a.add i) = some v) : w'.cell? (a.add i) = some v := by
 rw [tQ (w := w) (w' := w') (a := a.add i) (by rw [uU]; exact h2 _ hok)]; exact h
theorem RowPtrs.mono (h1 : ∀ k, ok k → ok' k) (h2 : ∀ k, ok k → w'.heap[k]? = w.heap[k]?) {v : Value} {bs : List Nat} (h : RowPtrs w ok v bs) : RowPtrs w' ok' v bs := by
 obtain ⟨A, c, hv, hl, hc, hk⟩ := h
 refine ⟨A, c, hv, hl, hc, fun i b hi => ?_⟩
 obtain ⟨a, ha, hok, hcell⟩ := hk i b hi
 exact ⟨a, ha, h1 _ hok, qH h2 hok hcell⟩
theorem EvP.mono (h1 : ∀ k, ok k → ok' k) (h2 : ∀ k, ok k → w'.heap[k]? = w.heap[k]?) {e : EV} {u v : Value} (h : EvP w ok e u v) : EvP w' ok' e u v := by
  cases e with
  | str s => obtain ⟨p, a, b, c, d⟩ := h; exact ⟨p, a, b, c, d.mono h1 h2⟩
  | bool x => obtain ⟨p, a, b, d⟩ := h; exact ⟨p, a, b, d.mono h1 h2⟩
theorem FvP.mono (h1 : ∀ k, ok k → ok' k) (h2 : ∀ k, ok k → w'.heap[k]? = w.heap[k]?) {f : FVal} {v : Value} (h : FvP w ok f v) : FvP w' ok' f v := by
  cases f with
  | text s => obtain ⟨p, a, b, c⟩ := h; exact ⟨p, a, b, c.mono h1 h2⟩
  | bool x => obtain ⟨p, a, b⟩ := h; exact ⟨p, a, b.mono h1 h2⟩
  | int n => obtain ⟨p, a, b⟩ := h; exact ⟨p, a, b.mono h1 h2⟩
  | numI n => obtain ⟨b, p, a, c, d⟩ := h; exact ⟨b, p, a, c.mono h1 h2, d.mono h1 h2⟩
  | numF n => obtain ⟨b, p, a, c, d⟩ := h; exact ⟨b, p, a, c.mono h1 h2, d.mono h1 h2⟩
  | sbS c => obtain ⟨b, a, d⟩ := h; exact ⟨b, a, d.mono h1 h2⟩
  | sbB x => obtain ⟨b, p, a, c, d⟩ := h; exact ⟨b, p, a, c.mono h1 h2, d.mono h1 h2⟩
  | itS c => obtain ⟨b, a, d⟩ := h; exact ⟨b, a, d.mono h1 h2⟩
  | itL bs => obtain ⟨b, p, sl, a, c, d, e⟩ := h; exact ⟨b, p, sl, a, c.mono h1 h2, d.mono h1 h2, e.mono h1 h2⟩
  | texts l => obtain ⟨p, sl, a, d, e⟩ := h; exact ⟨p, sl, a, d.mono h1 h2, e.mono h1 h2⟩
  | named l =>
    obtain ⟨p, sl, nbs, a, d, e, f, g⟩ := h
    exact ⟨p, sl, nbs, a, d.mono h1 h2, e.mono h1 h2, f, fun i q nb hq hnb => ⟨(g i q nb hq hnb).1, (g i q nb hq hnb).2.mono h1 h2⟩⟩
  | deps l =>
    obtain ⟨p, sl, nbs, a, d, e, f, g⟩ := h
    refine ⟨p, sl, nbs, a, d.mono h1 h2, e.mono h1 h2, f, fun i q nb hq hnb => ?_⟩
    obtain ⟨tb, p2, sl2, a1, a2, a3, a4, a5⟩ := g i q nb hq hnb
    exact ⟨tb, p2, sl2, a1, a2.mono h1 h2, a3.mono h1 h2, a4.mono h1 h2, a5.mono h1 h2⟩
  | enums l =>
    obtain ⟨p, A, c, a, d, e, f, g⟩ := h
    refine ⟨p, A, c, a, d.mono h1 h2, e, f, fun i q hq => ?_⟩
    obtain ⟨a, u, u', a1, a2, a3, a4, a5⟩ := g i q hq
    exact ⟨a, u, u', a1, h1 _ a2, qH h2 a2 a3, qH h2 a2 a4, a5.mono h1 h2⟩
  | tyS s => obtain ⟨b, p, a, c, d, e⟩ := h; exact ⟨b, p, a, c, d.mono h1 h2, e.mono h1 h2⟩
  | tyL l => obtain ⟨b, p, sl, a, c, d, e⟩ := h; exact ⟨b, p, sl, a, c.mono h1 h2, d.mono h1 h2, e.mono h1 h2⟩
  | list bs => obtain ⟨p, sl, a, d, e⟩ := h; exact ⟨p, sl, a, d.mono h1 h2, e.mono h1 h2⟩
  | one c => exact h
  | any => exact h
end
def DA.fv (v : Value) (f : FVal) : DA := ⟨fun w ok => FvP w ok f v, fun h1 h2 h => FvP.mono h1 h2 h⟩
def DA.pts (p : Addr) (v : Value) : DA := ⟨fun w ok => PtsTo w ok p v, fun h1 h2 h => PtsTo.mono h1 h2 h⟩
def DA.rowp (v : Value) (bs : List Nat) : DA := ⟨fun w ok => RowPtrs w ok v bs, fun h1 h2 h => RowPtrs.mono h1 h2 h⟩
abbrev Flds := Nat → Option FVal
def CellsP (w : World) (ok : Nat → Prop) (mb : Nat) (cs : List Value) (f : Flds) : Prop :=
  cs.length = 37 ∧ cs[0]? = some (.map (some mb)) ∧ ∀ i, 1 ≤ i → i ≤ 36 → ∃ u, cs[i]? = some u ∧ match f i with
    | none => u = .pointer none
    | some v => FvP w ok v u
theorem CellsP.mono {w w' : World} {ok ok' : Nat → Prop} (h1 : ∀ k, ok k → ok' k) (h2 : ∀ k, ok k → w'.heap[k]? = w.heap[k]?) {mb : Nat} {cs : List Value} {f : Flds} (h : CellsP w ok mb cs f) : CellsP w' ok' mb cs f := by
  refine ⟨h.1, h.2.1, fun i hi hj => ?_⟩
  obtain ⟨u, hu, hm⟩ := h.2.2 i hi hj
  refine ⟨u, hu, ?_⟩
  cases hf : f i with
  | none => rw [hf] at hm; exact hm
  | some v => rw [hf] at hm; exact FvP.mono h1 h2 hm
def DA.flds (mb : Nat) (cs : List Value) (f : Flds) : DA := ⟨fun w ok => CellsP w ok mb cs f, fun h1 h2 h => CellsP.mono h1 h2 h⟩
abbrev Gr := List (Nat × List Value × Flds)
def DA.graph (mb : Nat) (G : Gr) : DA := ⟨fun w ok => ∀ g ∈ G, CellsP w ok mb g.2.1 g.2.2, fun h1 h2 h g hg => CellsP.mono h1 h2 (h g hg)⟩
def Gr.blks (G : Gr) : List (Nat × List Value) := G.map fun g => (g.1, g.2.1)
def Gr.at (G : Gr) (b : Nat) (f : Flds) : Prop := ∃ cs, (b, cs, f) ∈ G
def Flds.set (f : Flds) (i : Nat) (v : FVal) : Flds := fun j => if j = i then some v else f j

section rules
variable {P : Program} {n : Nat} {F : List Nat} {c : Ctx F} {ops : Array Oper} {d : Nat} {T : TypeId} {l : List Oper} {k : List KI} {Q : Post} {e : Env} {M : List HA} {D : List DA}
theorem xI (x : DA) (h : ∀ (w : World) (ok : Nat → Prop), (∀ d ∈ D, d.p w ok) → x.p w ok) (next : Run P n c k Q e M (x :: D)) : Run P n c k Q e M D :=
 tC (D' := x :: D) (fun w ok hd y hy => (List.mem_cons.1 hy).elim (fun e => e ▸ h w ok hd) (hd y)) next
theorem ops_more (x : DA) (h : ∀ (w : World) (ok : Nat → Prop), (∀ d ∈ D, d.p w ok) → x.p w ok) (next : RunOps P n c ops l k Q e M (x :: D)) : RunOps P n c ops l k Q e M D :=
 ops_know (D' := x :: D) (fun w ok hd y hy => (List.mem_cons.1 hy).elim (fun e => e ▸ h w ok hd) (hd y)) next
theorem dget {w : World} {ok : Nat → Prop} (h : ∀ d ∈ D, d.p w ok) (j : Nat) {x : DA} (hj : D[j]? = some x) : x.p w ok := h x (List.mem_of_getElem? hj)
theorem yV (j : Nat) {x : Operand} {p : Addr} {v : Value} (hT : Scalar P T) (hd : Nat.blt d n = true) (hx : ev e x = some (.pointer (some p))) (hj : D[j]? = some (.pts p v))
  (next : RunOps P n c ops l k Q ((d, v) :: e) M D) {T' : TypeId} : RunOp P n c ops (some d) (.load T x) T' l k Q e M D :=
 xO hT hd hx (fun _ h => (h.dt hj).2) next
theorem setMany_one (cs : List Value) (o : Nat) (v : Value) (h : o < cs.length) : setMany cs o [v] = cs.set o v := by
 simp [setMany]
theorem xC (i : Nat) {x y : Operand} {b o : Nat} {cs : List Value} {U S : TypeId} {v : Value} (hx : ev e x = some (.pointer (some ⟨b, o, none⟩))) (hy : ev e y = some v) (hi : M[i]? = some (.blk b cs U)) (hv : v.cells = #[v]) (h1 : v.oneCell' = true)
  (hs : ∃ i, P.info? S = some i ∧ i.size = 1) (hl : o < cs.length) (next : RunOps P n c ops l k Q e (M.set i (.blk b (cs.set o v) U)) D) :
  RunOp P n c ops none (.store S x y) T l k Q e M D := by
 refine zR i (vs := [v]) hx hy hi (by rw [hv]) (by simpa using hs) (by simp; omega) (by simp [h1]) rfl ?_
 rw [setMany_one cs o v hl]
 exact next
theorem tF (i : Nat) {x : Operand} {b o : Nat} {cs : List Value} {U : TypeId} {v : Value} (hT : Scalar P T) (hd : Nat.blt d n = true) (hx : ev e x = some (.pointer (some ⟨b, o, none⟩))) (hi : M[i]? = some (.blk b cs U)) (hv : cs[o]? = some v)
  (next : RunOps P n c ops l k Q ((d, v) :: e) M D) {T' : TypeId} : RunOp P n c ops (some d) (.load T x) T' l k Q e M D :=
 xO hT hd hx (fun _ h => cellM h hi hv) next
theorem xK (i j : Nat) {U : TypeId} {gs gs' : List (Nat × List Value)} (hi : M[i]? = some (.many U gs)) (hj : (M.eraseIdx i)[j]? = some (.many U gs')) (next : Run P n c k Q e (.many U (gs ++ gs') :: (M.eraseIdx i).eraseIdx j) D) : Run P n c k Q e M D := by
 intro a w hf
 have h1 := hf.toFitsW.perm ((vV hi).trans ((vV hj).cons _))
 refine next a w (hf.world ⟨h1.chg, ?_, ?_, ?_, ?_⟩)
 ·intro x hx
  rcases List.mem_cons.1 hx with rfl | hx
  ·intro g hg
   rcases List.mem_append.1 hg with hg | hg
   ·exact (h1.own _ List.mem_cons_self : (HA.many U gs).holds w) g hg
   ·exact (h1.own _ (List.mem_cons_of_mem _ List.mem_cons_self) : (HA.many U gs').holds w) g hg
  ·exact h1.own x (List.mem_cons_of_mem _ (List.mem_cons_of_mem _ hx))
 ·have := h1.nodup
  simpa [foots, HA.foot] using this
 ·intro b hb
  exact h1.foot b (by simpa [foots, HA.foot] using hb)
 ·intro x hx
  refine x.mono (fun q hq => ⟨hq.1, hq.2.1, ?_⟩) (fun _ _ => rfl) (h1.dat x hx)
  have := hq.2.2
  simpa [foots, HA.foot] using this
theorem run_toMany (i : Nat) {b : Nat} {cs : List Value} {U : TypeId} (hi : M[i]? = some (.blk b cs U)) (next : Run P n c k Q e (.many U [(b, cs)] :: M.eraseIdx i) D) : Run P n c k Q e M D := by
 intro a w hf
 have h1 := hf.toFitsW.perm (vV hi)
 refine next a w (hf.world ⟨h1.chg, ?_, ?_, ?_, ?_⟩)
 ·intro x hx
  rcases List.mem_cons.1 hx with rfl | hx
  ·intro g hg
   rcases List.mem_singleton.1 hg with rfl
   exact (h1.own _ List.mem_cons_self : (HA.blk b cs U).holds w)
  ·exact h1.own x (List.mem_cons_of_mem _ hx)
 ·simpa [foots, HA.foot] using h1.nodup
 ·intro q hq; exact h1.foot q (by simpa [foots, HA.foot] using hq)
 ·intro x hx
  refine x.mono (fun q hq => ⟨hq.1, hq.2.1, ?_⟩) (fun _ _ => rfl) (h1.dat x hx)
  have := hq.2.2
  simpa [foots, HA.foot] using this
theorem run_many0 (U : TypeId) (next : Run P n c k Q e (.many U [] :: M) D) : Run P n c k Q e M D :=
 fun a w hf => next a w (hf.world (hf.toFitsW.cons0 (by simp [HA.foot]) (by intro g hg; cases hg)))
theorem yS (i j : Nat) {mb : Nat} {G G' : Gr} (hi : D[i]? = some (.graph mb G)) (hj : D[j]? = some (.graph mb G')) (next : Run P n c k Q e M (.graph mb (G ++ G') :: D)) : Run P n c k Q e M D :=
 xI (.graph mb (G ++ G')) (fun w ok h g hg => (List.mem_append.1 hg).elim (fun h1 => (dget h i hi : (DA.graph mb G).p w ok) g h1) (fun h1 => (dget h j hj : (DA.graph mb G').p w ok) g h1)) next
theorem run_graph1 (j : Nat) {mb b : Nat} {cs : List Value} {f : Flds} (hj : D[j]? = some (.flds mb cs f)) (next : Run P n c k Q e M (.graph mb [(b, cs, f)] :: D)) : Run P n c k Q e M D :=
 xI (.graph mb [(b, cs, f)]) (fun w ok h g hg => by rcases List.mem_singleton.1 hg with rfl; exact dget h j hj) next
theorem wF {x y : Operand} {S E sz by_ : Nat} (hS : SliceOf P S E sz by_) (hd : Nat.blt d n = true) (hx : ev e x = some (.int .i64 0)) (hy : ev e y = some (.int .i64 0))
  (next : ∀ b, RunOps P n c ops l k Q ((d, .slice (some ⟨b, 0, none⟩) 0 0) :: e) (.row (some ⟨b, 0, none⟩) 0 0 E sz [] :: M) D) : RunOp P n c ops (some d) (.makeSlice S x y) T l k Q e M D := by
 obtain ⟨ti, z, hu, hinf, hs1, hb1, hz, hzs, hsz0⟩ := hS
 intro a w hf
 have hw : IntKind.i64.wrap 0 = 0 := by decide
 have hr0 : ∀ f : Nat → Value, (Array.range 0).map f = #[] := fun f => Array.eq_empty_of_size_eq_zero (by simp)
 have hb : (Instr.makeSlice S (.int .i64 0) (.int .i64 0)).run P w = .ok (.slice (some ⟨w.heap.size, 0, none⟩) 0 0) (w.alloc (.cells #[] E (0, 0))) := by
  simp [Instr.makeSlice, run_underlying hu, asInt, asIntOf, typeInfo, hinf, hw, askRoom, wJ hinf, newRow, newObj, Sem.run, hr0]
 have hrun : (execOp a.eval (opr (some d) (.makeSlice S x y) T)).run P w = .ok (.value (.slice (some ⟨w.heap.size, 0, none⟩) 0 0)) (w.alloc (.cells #[] E (0, 0))) := by
  simp only [execOp, opr, hf.ev hx, hf.ev hy, Sem.run_bind, hb, Result.andThen_ok, Sem.run_pure]
 unfold Oper.wp
 rw [hrun]
 have hx2 : (HA.row (some ⟨w.heap.size, 0, none⟩) 0 0 E sz []).holds (w.alloc (.cells #[] E (0, 0))) := by
  refine ⟨by simp, .inr ⟨w.heap.size, 0, #[], rfl, Nat.zero_le _, ?_, Nat.le_refl _, by simp [maxLen], by simp, by simp⟩⟩
  show (w.heap.push _)[w.heap.size]? = _
  simp
 exact next w.heap.size _ _ ((hf.world (hf.toFitsW.new _ hx2 rfl)).put hd _)
theorem op_makeMap {S : TypeId} (hd : Nat.blt d n = true) (next : ∀ b, RunOps P n c ops l k Q ((d, .map (some b)) :: e) (.obj b (.map #[] 0) :: M) D) : RunOp P n c ops (some d) (.makeMap S none) T l k Q e M D := by
 intro a w hf
 have hrun : (execOp a.eval (opr (some d) (.makeMap S none) T)).run P w = .ok (.value (.map (some w.heap.size))) (w.alloc (.map #[] 0)) := by
  simp [execOp, opr, Instr.makeMap, newObj, Sem.run]
 unfold Oper.wp
 rw [hrun]
 have hx2 : (HA.obj w.heap.size (.map #[] 0)).holds (w.alloc (.map #[] 0)) := by
  show (w.heap.push _)[w.heap.size]? = _
  simp
 exact next w.heap.size _ _ ((hf.world (hf.toFitsW.new _ hx2 rfl)).put hd _)
theorem uR {w : World} {ok : Nat → Prop} {b o : Nat} {cs : List Value} {U : TypeId} {v : Value} (h : (DA.dblk b cs U).p w ok) (hv : cs[o]? = some v) : PtsTo w ok ⟨b, o, none⟩ v := ⟨h.1, by rw [tA h.2]; exact hv⟩
def RF (f : FVal) (u : Value) (D' : List DA) : Prop := ∃ p, u = .pointer (some p) ∧ D' = [.fv u f]
theorem xP (i j o : Nat) {mb : Nat} {cs : List Value} {f : Flds} {u : Value} {v : FVal} (hi : D[i]? = some (.flds mb cs f)) (hj : D[j]? = some (.fv u v)) (ho : 1 ≤ o) (next : Run P n c k Q e M (.flds mb (cs.set o u) (f.set o v) :: D)) : Run P n c k Q e M D :=
 xI (.flds mb (cs.set o u) (f.set o v)) (fun w ok h => by
  have h1 : CellsP w ok mb cs f := dget h i hi
  have h2 : FvP w ok v u := dget h j hj
  refine ⟨by simp [h1.1], by rw [List.getElem?_set_ne (by omega)]; exact h1.2.1, fun q hq hq2 => ?_⟩
  by_cases hoq : q = o
  ·subst hoq
   exact ⟨u, by rw [List.getElem?_set_self (by rw [h1.1]; omega)], by simp only [Flds.set, if_true]; exact h2⟩
  ·obtain ⟨u', hu', hm⟩ := h1.2.2 q hq hq2
   exact ⟨u', by rw [List.getElem?_set_ne (by omega)]; exact hu', by simp only [Flds.set, if_neg hoq]; exact hm⟩) next
end rules
end Go.Jw

namespace Go.Jw
open Go Go.RowKit Go.Proofs
set_option maxRecDepth 8000
def kwIdx (key : ByteArray) : Nat :=
 if key = ⟨#[36, 115, 99, 104, 101, 109, 97]⟩ then 1 else
 if key = ⟨#[105, 100]⟩ then 2 else
 if key = ⟨#[109, 117, 108, 116, 105, 112, 108, 101, 79, 102]⟩ then 6 else
 if key = ⟨#[109, 97, 120, 105, 109, 117, 109]⟩ then 7 else
 if key = ⟨#[101, 120, 99, 108, 117, 115, 105, 118, 101, 77, 97, 120, 105, 109, 117, 109]⟩ then 8 else
 if key = ⟨#[109, 105, 110, 105, 109, 117, 109]⟩ then 9 else
 if key = ⟨#[101, 120, 99, 108, 117, 115, 105, 118, 101, 77, 105, 110, 105, 109, 117, 109]⟩ then 10 else
 if key = ⟨#[109, 97, 120, 76, 101, 110, 103, 116, 104]⟩ then 11 else
 if key = ⟨#[109, 105, 110, 76, 101, 110, 103, 116, 104]⟩ then 12 else
 if key = ⟨#[112, 97, 116, 116, 101, 114, 110]⟩ then 13 else
 if key = ⟨#[97, 100, 100, 105, 116, 105, 111, 110, 97, 108, 73, 116, 101, 109, 115]⟩ then 14 else
 if key = ⟨#[105, 116, 101, 109, 115]⟩ then 15 else
 if key = ⟨#[109, 97, 120, 73, 116, 101, 109, 115]⟩ then 16 else
 if key = ⟨#[109, 105, 110, 73, 116, 101, 109, 115]⟩ then 17 else
 if key = ⟨#[117, 110, 105, 113, 117, 101, 73, 116, 101, 109, 115]⟩ then 18 else
 if key = ⟨#[109, 97, 120, 80, 114, 111, 112, 101, 114, 116, 105, 101, 115]⟩ then 19 else
 if key = ⟨#[109, 105, 110, 80, 114, 111, 112, 101, 114, 116, 105, 101, 115]⟩ then 20 else
 if key = ⟨#[114, 101, 113, 117, 105, 114, 101, 100]⟩ then 21 else
 if key = ⟨#[97, 100, 100, 105, 116, 105, 111, 110, 97, 108, 80, 114, 111, 112, 101, 114, 116, 105, 101, 115]⟩ then 22 else
 if key = ⟨#[112, 114, 111, 112, 101, 114, 116, 105, 101, 115]⟩ then 23 else
 if key = ⟨#[112, 97, 116, 116, 101, 114, 110, 80, 114, 111, 112, 101, 114, 116, 105, 101, 115]⟩ then 24 else
 if key = ⟨#[100, 101, 112, 101, 110, 100, 101, 110, 99, 105, 101, 115]⟩ then 25 else
 if key = ⟨#[101, 110, 117, 109]⟩ then 26 else
 if key = ⟨#[116, 121, 112, 101]⟩ then 27 else
 if key = ⟨#[97, 108, 108, 79, 102]⟩ then 28 else
 if key = ⟨#[97, 110, 121, 79, 102]⟩ then 29 else
 if key = ⟨#[111, 110, 101, 79, 102]⟩ then 30 else
 if key = ⟨#[110, 111, 116]⟩ then 31 else
 if key = ⟨#[100, 101, 102, 105, 110, 105, 116, 105, 111, 110, 115]⟩ then 32 else
 if key = ⟨#[116, 105, 116, 108, 101]⟩ then 33 else
 if key = ⟨#[100, 101, 115, 99, 114, 105, 112, 116, 105, 111, 110]⟩ then 34 else
 if key = ⟨#[100, 101, 102, 97, 117, 108, 116]⟩ then 35 else
 if key = ⟨#[102, 111, 114, 109, 97, 116]⟩ then 36 else
 if key = ⟨#[36, 114, 101, 102]⟩ then 3 else 0
def shIdx (i : Nat) : Int := match i with
  | 1 => 1
  | 2 => 1
  | 3 => 1
  | 6 => 3
  | 7 => 3
  | 8 => 2
  | 9 => 3
  | 10 => 2
  | 11 => 4
  | 12 => 4
  | 13 => 1
  | 14 => 6
  | 15 => 7
  | 16 => 4
  | 17 => 4
  | 18 => 2
  | 19 => 4
  | 20 => 4
  | 21 => 8
  | 22 => 6
  | 23 => 9
  | 24 => 9
  | 25 => 10
  | 26 => 11
  | 27 => 12
  | 28 => 13
  | 29 => 13
  | 30 => 13
  | 31 => 5
  | 32 => 9
  | 33 => 1
  | 34 => 1
  | 35 => 14
  | 36 => 1
  | _ => 0
theorem kw_sh {key : ByteArray} (h : kwIdx key ≠ 0) : shapeOf key = shIdx (kwIdx key) := by
 unfold kwIdx at h ⊢
 by_cases e1 : key = ⟨#[36, 115, 99, 104, 101, 109, 97]⟩
 ·subst e1; decide +kernel
 rw [if_neg e1] at h ⊢
 by_cases e2 : key = ⟨#[105, 100]⟩
 ·subst e2; decide +kernel
 rw [if_neg e2] at h ⊢
 by_cases e6 : key = ⟨#[109, 117, 108, 116, 105, 112, 108, 101, 79, 102]⟩
 ·subst e6; decide +kernel
 rw [if_neg e6] at h ⊢
 by_cases e7 : key = ⟨#[109, 97, 120, 105, 109, 117, 109]⟩
 ·subst e7; decide +kernel
 rw [if_neg e7] at h ⊢
 by_cases e8 : key = ⟨#[101, 120, 99, 108, 117, 115, 105, 118, 101, 77, 97, 120, 105, 109, 117, 109]⟩
 ·subst e8; decide +kernel
 rw [if_neg e8] at h ⊢
 by_cases e9 : key = ⟨#[109, 105, 110, 105, 109, 117, 109]⟩
 ·subst e9; decide +kernel
 rw [if_neg e9] at h ⊢
 by_cases e10 : key = ⟨#[101, 120, 99, 108, 117, 115, 105, 118, 101, 77, 105, 110, 105, 109, 117, 109]⟩
 ·subst e10; decide +kernel
 rw [if_neg e10] at h ⊢
 by_cases e11 : key = ⟨#[109, 97, 120, 76, 101, 110, 103, 116, 104]⟩
 ·subst e11; decide +kernel
 rw [if_neg e11] at h ⊢
 by_cases e12 : key = ⟨#[109, 105, 110, 76, 101, 110, 103, 116, 104]⟩
 ·subst e12; decide +kernel
 rw [if_neg e12] at h ⊢
 by_cases e13 : key = ⟨#[112, 97, 116, 116, 101, 114, 110]⟩
 ·subst e13; decide +kernel
 rw [if_neg e13] at h ⊢
 by_cases e14 : key = ⟨#[97, 100, 100, 105, 116, 105, 111, 110, 97, 108, 73, 116, 101, 109, 115]⟩
 ·subst e14; decide +kernel
 rw [if_neg e14] at h ⊢
 by_cases e15 : key = ⟨#[105, 116, 101, 109, 115]⟩
 ·subst e15; decide +kernel
 rw [if_neg e15] at h ⊢
 by_cases e16 : key = ⟨#[109, 97, 120, 73, 116, 101, 109, 115]⟩
 ·subst e16; decide +kernel
 rw [if_neg e16] at h ⊢
 by_cases e17 : key = ⟨#[109, 105, 110, 73, 116, 101, 109, 115]⟩
 ·subst e17; decide +kernel
 rw [if_neg e17] at h ⊢
 by_cases e18 : key = ⟨#[117, 110, 105, 113, 117, 101, 73, 116, 101, 109, 115]⟩
 ·subst e18; decide +kernel
 rw [if_neg e18] at h ⊢
 by_cases e19 : key = ⟨#[109, 97, 120, 80, 114, 111, 112, 101, 114, 116, 105, 101, 115]⟩
 ·subst e19; decide +kernel
 rw [if_neg e19] at h ⊢
 by_cases e20 : key = ⟨#[109, 105, 110, 80, 114, 111, 112, 101, 114, 116, 105, 101, 115]⟩
 ·subst e20; decide +kernel
 rw [if_neg e20] at h ⊢
 by_cases e21 : key = ⟨#[114, 101, 113, 117, 105, 114, 101, 100]⟩
 ·subst e21; decide +kernel
 rw [if_neg e21] at h ⊢
 by_cases e22 : key = ⟨#[97, 100, 100, 105, 116, 105, 111, 110, 97, 108, 80, 114, 111, 112, 101, 114, 116, 105, 101, 115]⟩
 ·subst e22; decide +kernel
 rw [if_neg e22] at h ⊢
 by_cases e23 : key = ⟨#[112, 114, 111, 112, 101, 114, 116, 105, 101, 115]⟩
 ·subst e23; decide +kernel
 rw [if_neg e23] at h ⊢
 by_cases e24 : key = ⟨#[112, 97, 116, 116, 101, 114, 110, 80, 114, 111, 112, 101, 114, 116, 105, 101, 115]⟩
 ·subst e24; decide +kernel
 rw [if_neg e24] at h ⊢
 by_cases e25 : key = ⟨#[100, 101, 112, 101, 110, 100, 101, 110, 99, 105, 101, 115]⟩
 ·subst e25; decide +kernel
 rw [if_neg e25] at h ⊢
 by_cases e26 : key = ⟨#[101, 110, 117, 109]⟩
 ·subst e26; decide +kernel
 rw [if_neg e26] at h ⊢
 by_cases e27 : key = ⟨#[116, 121, 112, 101]⟩
 ·subst e27; decide +kernel
 rw [if_neg e27] at h ⊢
 by_cases e28 : key = ⟨#[97, 108, 108, 79, 102]⟩
 ·subst e28; decide +kernel
 rw [if_neg e28] at h ⊢
 by_cases e29 : key = ⟨#[97, 110, 121, 79, 102]⟩
 ·subst e29; decide +kernel
 rw [if_neg e29] at h ⊢
 by_cases e30 : key = ⟨#[111, 110, 101, 79, 102]⟩
 ·subst e30; decide +kernel
 rw [if_neg e30] at h ⊢
 by_cases e31 : key = ⟨#[110, 111, 116]⟩
 ·subst e31; decide +kernel
 rw [if_neg e31] at h ⊢
 by_cases e32 : key = ⟨#[100, 101, 102, 105, 110, 105, 116, 105, 111, 110, 115]⟩
 ·subst e32; decide +kernel
 rw [if_neg e32] at h ⊢
 by_cases e33 : key = ⟨#[116, 105, 116, 108, 101]⟩
 ·subst e33; decide +kernel
 rw [if_neg e33] at h ⊢
 by_cases e34 : key = ⟨#[100, 101, 115, 99, 114, 105, 112, 116, 105, 111, 110]⟩
 ·subst e34; decide +kernel
 rw [if_neg e34] at h ⊢
 by_cases e35 : key = ⟨#[100, 101, 102, 97, 117, 108, 116]⟩
 ·subst e35; decide +kernel
 rw [if_neg e35] at h ⊢
 by_cases e36 : key = ⟨#[102, 111, 114, 109, 97, 116]⟩
 ·subst e36; decide +kernel
 rw [if_neg e36] at h ⊢
 by_cases e3 : key = ⟨#[36, 114, 101, 102]⟩
 ·subst e3; decide +kernel
 rw [if_neg e3] at h ⊢
 ·exact absurd rfl h
abbrev k1 : ByteArray := ⟨#[36, 115, 99, 104, 101, 109, 97]⟩
abbrev k2 : ByteArray := ⟨#[105, 100]⟩
abbrev k6 : ByteArray := ⟨#[109, 117, 108, 116, 105, 112, 108, 101, 79, 102]⟩
abbrev k7 : ByteArray := ⟨#[109, 97, 120, 105, 109, 117, 109]⟩
abbrev k8 : ByteArray := ⟨#[101, 120, 99, 108, 117, 115, 105, 118, 101, 77, 97, 120, 105, 109, 117, 109]⟩
abbrev k9 : ByteArray := ⟨#[109, 105, 110, 105, 109, 117, 109]⟩
abbrev k10 : ByteArray := ⟨#[101, 120, 99, 108, 117, 115, 105, 118, 101, 77, 105, 110, 105, 109, 117, 109]⟩
abbrev k11 : ByteArray := ⟨#[109, 97, 120, 76, 101, 110, 103, 116, 104]⟩
abbrev k12 : ByteArray := ⟨#[109, 105, 110, 76, 101, 110, 103, 116, 104]⟩
abbrev k13 : ByteArray := ⟨#[112, 97, 116, 116, 101, 114, 110]⟩
abbrev k14 : ByteArray := ⟨#[97, 100, 100, 105, 116, 105, 111, 110, 97, 108, 73, 116, 101, 109, 115]⟩
abbrev k15 : ByteArray := ⟨#[105, 116, 101, 109, 115]⟩
abbrev k16 : ByteArray := ⟨#[109, 97, 120, 73, 116, 101, 109, 115]⟩
abbrev k17 : ByteArray := ⟨#[109, 105, 110, 73, 116, 101, 109, 115]⟩
abbrev k18 : ByteArray := ⟨#[117, 110, 105, 113, 117, 101, 73, 116, 101, 109, 115]⟩
abbrev k19 : ByteArray := ⟨#[109, 97, 120, 80, 114, 111, 112, 101, 114, 116, 105, 101, 115]⟩
abbrev k20 : ByteArray := ⟨#[109, 105, 110, 80, 114, 111, 112, 101, 114, 116, 105, 101, 115]⟩
abbrev k21 : ByteArray := ⟨#[114, 101, 113, 117, 105, 114, 101, 100]⟩
abbrev k22 : ByteArray := ⟨#[97, 100, 100, 105, 116, 105, 111, 110, 97, 108, 80, 114, 111, 112, 101, 114, 116, 105, 101, 115]⟩
abbrev k23 : ByteArray := ⟨#[112, 114, 111, 112, 101, 114, 116, 105, 101, 115]⟩
abbrev k24 : ByteArray := ⟨#[112, 97, 116, 116, 101, 114, 110, 80, 114, 111, 112, 101, 114, 116, 105, 101, 115]⟩
abbrev k25 : ByteArray := ⟨#[100, 101, 112, 101, 110, 100, 101, 110, 99, 105, 101, 115]⟩
abbrev k26 : ByteArray := ⟨#[101, 110, 117, 109]⟩
abbrev k27 : ByteArray := ⟨#[116, 121, 112, 101]⟩
abbrev k28 : ByteArray := ⟨#[97, 108, 108, 79, 102]⟩
abbrev k29 : ByteArray := ⟨#[97, 110, 121, 79, 102]⟩
abbrev k30 : ByteArray := ⟨#[111, 110, 101, 79, 102]⟩
abbrev k31 : ByteArray := ⟨#[110, 111, 116]⟩
abbrev k32 : ByteArray := ⟨#[100, 101, 102, 105, 110, 105, 116, 105, 111, 110, 115]⟩
abbrev k33 : ByteArray := ⟨#[116, 105, 116, 108, 101]⟩
abbrev k34 : ByteArray := ⟨#[100, 101, 115, 99, 114, 105, 112, 116, 105, 111, 110]⟩
abbrev k35 : ByteArray := ⟨#[100, 101, 102, 97, 117, 108, 116]⟩
abbrev k36 : ByteArray := ⟨#[102, 111, 114, 109, 97, 116]⟩
abbrev k3 : ByteArray := ⟨#[36, 114, 101, 102]⟩
def All2 {α β : Type} (R : α → β → Prop) (l : List α) (l' : List β) : Prop := l.length = l'.length ∧ ∀ (i : Nat) a b, l[i]? = some a → l'[i]? = some b → R a b
theorem All2.mono {α β : Type} {R R' : α → β → Prop} {l : List α} {l' : List β} (h : ∀ a b, b ∈ l' → R a b → R' a b) (h2 : All2 R l l') : All2 R' l l' :=
 ⟨h2.1, fun i a b ha hb => h a b (List.mem_of_getElem? hb) (h2.2 i a b ha hb)⟩
theorem All2.nil {α β : Type} (R : α → β → Prop) : All2 R [] [] := ⟨rfl, fun i a b h => by simp at h⟩
theorem All2.snoc {α β : Type} {R : α → β → Prop} {l : List α} {l' : List β} {a : α} {b : β} (h : All2 R l l') (hab : R a b) : All2 R (l ++ [a]) (l' ++ [b]) := by
 refine ⟨by simp [h.1], fun i x y hx hy => ?_⟩
 rcases Nat.lt_trichotomy i l.length with hi | hi | hi
 ·rw [List.getElem?_append_left hi] at hx
  rw [List.getElem?_append_left (by rw [← h.1]; exact hi)] at hy
  exact h.2 i x y hx hy
 ·subst hi
  rw [List.getElem?_append_right (Nat.le_refl _)] at hx
  rw [List.getElem?_append_right (by rw [h.1]; exact Nat.le_refl _)] at hy
  simp at hx
  simp [h.1] at hy
  subst hx; subst hy; exact hab
 ·rw [List.getElem?_eq_none (by simp; omega)] at hx; cases hx
def quartBits (n : Int) : Nat := qw n
def evOf (v : V) : EV := if v.kind = 3 then .str v.text else .bool (decide (v.num = 1))
def FvRel (U : Nat → V → Prop) (sh : Int) (v : V) : FVal → Prop
  | .text s => sh = 1 ∧ s = v.text
  | .bool x => sh = 2 ∧ x = decide (v.num = 1)
  | .int n => sh = 4 ∧ n = v.num
  | .numI n => sh = 3 ∧ v.kind = 2 ∧ n = v.num
  | .numF f => sh = 3 ∧ v.kind = 6 ∧ f = quartBits v.num
  | .sbS b => sh = 6 ∧ v.kind = 5 ∧ U b v
  | .sbB x => sh = 6 ∧ v.kind = 1 ∧ x = decide (v.num = 1)
  | .itS b => sh = 7 ∧ v.kind = 5 ∧ U b v
  | .itL bs => sh = 7 ∧ v.kind = 4 ∧ All2 U bs v.items
  | .texts l => sh = 8 ∧ l = v.items.map V.text
  | .named l => sh = 9 ∧ ∃ ps : List (ByteArray × V), ps.Perm (v.keys.zip v.items) ∧ All2 (fun (q : ByteArray × Nat) p => q.1 = p.1 ∧ U q.2 p.2) l ps
  | .deps l => sh = 10 ∧ ∃ ps : List (ByteArray × V), ps.Perm (v.keys.zip v.items) ∧ l = ps.map (fun p => (p.1, p.2.items.map V.text))
  | .enums l => sh = 11 ∧ l = v.items.map evOf
  | .tyS s => sh = 12 ∧ v.kind = 3 ∧ s = v.text
  | .tyL l => sh = 12 ∧ v.kind = 4 ∧ l = v.items.map V.text
  | .list bs => sh = 13 ∧ All2 U bs v.items
  | .one b => sh = 5 ∧ U b v
  | .any => sh = 14
theorem FvRel.mono {U U' : Nat → V → Prop} {sh : Int} {v : V} {f : FVal} (h : ∀ b x, SizeOf.sizeOf x ≤ SizeOf.sizeOf v → U b x → U' b x) (hf : FvRel U sh v f) : FvRel U' sh v f := by
  have hi : ∀ b x, x ∈ v.items → U b x → U' b x := fun b x hx => h b x (Nat.le_of_lt (xA hx))
  cases f with
  | sbS b => exact ⟨hf.1, hf.2.1, h b v (Nat.le_refl _) hf.2.2⟩
  | itS b => exact ⟨hf.1, hf.2.1, h b v (Nat.le_refl _) hf.2.2⟩
  | itL bs => exact ⟨hf.1, hf.2.1, hf.2.2.mono hi⟩
  | named l => obtain ⟨h1, ps, h2, h3⟩ := hf; exact ⟨h1, ps, h2, h3.mono fun q p hp hq => ⟨hq.1, hi _ _ (List.of_mem_zip (h2.mem_iff.1 hp)).2 hq.2⟩⟩
  | list bs => exact ⟨hf.1, hf.2.mono hi⟩
  | one b => exact ⟨hf.1, h b v (Nat.le_refl _) hf.2⟩
  | text s => exact hf
  | bool x => exact hf
  | int n => exact hf
  | numI n => exact hf
  | numF n => exact hf
  | sbB x => exact hf
  | texts l => exact hf
  | deps l => exact hf
  | enums l => exact hf
  | tyS s => exact hf
  | tyL l => exact hf
  | any => exact hf
def FldRel (U : Nat → V → Prop) (v : V) (i : Nat) : Option FVal → Prop
  | none => ∀ key, kwIdx key = i → getV v key = none
  | some fv => ∃ key x, kwIdx key = i ∧ getV v key = some x ∧ FvRel U (shIdx i) x fv
theorem getV_mem {v x : V} {key : ByteArray} (h : getV v key = some x) : x ∈ v.items := by
 unfold getV at h
 split at h
 ·cases h
 ·exact List.mem_of_getElem? h
theorem FldRel.mono {U U' : Nat → V → Prop} {v : V} {i : Nat} {o : Option FVal} (h : ∀ b x, SizeOf.sizeOf x < SizeOf.sizeOf v → U b x → U' b x) (hf : FldRel U v i o) : FldRel U' v i o := by
  cases o with
  | none => exact hf
  | some fv =>
    obtain ⟨key, x, h1, h2, h3⟩ := hf
    exact ⟨key, x, h1, h2, h3.mono fun b y hy => h b y (Nat.lt_of_le_of_lt hy (xA (getV_mem h2)))⟩
instance : Inhabited (Nat → Prop) := ⟨fun _ => True⟩
noncomputable def Unf (G : Gr) : V → Nat → Prop := V.fix (α := Nat → Prop) (fun v r b => ∃ f, G.at b f ∧ ∀ i, 1 ≤ i → i ≤ 36 → FldRel (fun b x => r x b) v i (f i))
theorem uY (G : Gr) (v : V) (b : Nat) : Unf G v b ↔ ∃ f, G.at b f ∧ ∀ i, 1 ≤ i → i ≤ 36 → FldRel (fun b x => Unf G x b) v i (f i) := by
 have := V.fix_eq (α := Nat → Prop) (G := fun v r b => ∃ f, G.at b f ∧ ∀ i, 1 ≤ i → i ≤ 36 → FldRel (fun b x => r x b) v i (f i)) (fun t g g' h => by
  funext b
  apply propext
  constructor
  ·rintro ⟨f, h1, h2⟩
   exact ⟨f, h1, fun i hi hj => (h2 i hi hj).mono fun b x hx hu => by rw [← h x hx]; exact hu⟩
  ·rintro ⟨f, h1, h2⟩
   exact ⟨f, h1, fun i hi hj => (h2 i hi hj).mono fun b x hx hu => by rw [h x hx]; exact hu⟩) v
 show V.fix (α := Nat → Prop) _ v b ↔ _
 rw [this]
 rfl
theorem Unf.mono {G G' : Gr} (h : ∀ g ∈ G, g ∈ G') (v : V) : ∀ b, Unf G v b → Unf G' v b := by
 refine V.indS (p := fun v => ∀ b, Unf G v b → Unf G' v b) (fun v IH b hb => ?_) v
 obtain ⟨f, ⟨cs, h1⟩, h2⟩ := (uY G v b).1 hb
 exact (uY G' v b).2 ⟨f, ⟨cs, h _ h1⟩, fun i hi hj => (h2 i hi hj).mono fun b x hx hu => IH x hx b hu⟩
def Pl (v : V) : Prop := ∃ d, IsPlain d v
theorem Pl.wf {v : V} (h : Pl v) : Wf v := h.elim fun _ h => h.wf
theorem Pl.num {v : V} (h : Pl v) : NumOk v := h.elim fun _ h => h.num
theorem Pl.item {v : V} (h : Pl v) : ∀ x ∈ v.items, Pl x := by
  obtain ⟨d, h⟩ := h
  obtain ⟨q, m, s, ks, ts⟩ := v
  intro x hx
  cases d with
  | zero =>
    obtain ⟨_, h2, _⟩ := h
    simp only [V.items] at h2 hx
    subst h2; cases hx
  | succ d =>
    rcases h with ⟨_, h2, _⟩ | ⟨_, _, h3⟩
    · simp only [V.items] at h2 hx
      subst h2; cases hx
    · exact ⟨d, h3 x hx⟩
theorem Pl.keys {v : V} (h : Pl v) (hk : v.kind = 5) : KeysOk v.keys := by
  obtain ⟨d, h⟩ := h
  obtain ⟨q, m, s, ks, ts⟩ := v
  simp only [V.kind] at hk
  subst hk
  cases d with
  | zero => exact absurd h (uP (.inr rfl))
  | succ d => exact keys_of ((wX (.inr rfl)).1 h).1 rfl
def prs (back : Bool) (v : V) : List (ByteArray × V) := if back then (v.keys.zip v.items).reverse else v.keys.zip v.items
def RelAt (G : Gr) (back : Bool) (v : V) (i : Nat) (f : Flds) : Prop := ∀ q, 1 ≤ q → q ≤ 36 → match f q with
  | none => ∀ p ∈ (prs back v).take i, kwIdx p.1 ≠ q
  | some fv => ∃ p ∈ (prs back v).take i, kwIdx p.1 = q ∧ FvRel (fun b x => Unf G x b) (shIdx q) p.2 fv
theorem RelAt.mono {G G' : Gr} (h : ∀ g ∈ G, g ∈ G') {back : Bool} {v : V} {i : Nat} {f : Flds} (hr : RelAt G back v i f) : RelAt G' back v i f := by
  intro q h1 h2
  have := hr q h1 h2
  cases hf : f q with
  | none => rw [hf] at this; exact this
  | some fv =>
    rw [hf] at this
    obtain ⟨p, h3, h4, h5⟩ := this
    exact ⟨p, h3, h4, h5.mono fun b x _ hu => Unf.mono h x b hu⟩
theorem RelAt.zero (G : Gr) (back : Bool) (v : V) : RelAt G back v 0 (fun _ => none) := by
 intro q _ _; simp
theorem RelAt.step {G : Gr} {back : Bool} {v : V} {i : Nat} {f : Flds} {p : ByteArray × V} {fv : FVal} (hr : RelAt G back v i f) (hp : (prs back v)[i]? = some p) (hf : FvRel (fun b x => Unf G x b) (shIdx (kwIdx p.1)) p.2 fv) : RelAt G back v (i + 1) (f.set (kwIdx p.1) fv) := by
  have ht : (prs back v).take (i + 1) = (prs back v).take i ++ [p] := by rw [List.take_add_one, hp]; rfl
  intro q h1 h2
  by_cases hq : q = kwIdx p.1
  · subst hq
    simp only [Flds.set, if_true]
    exact ⟨p, by rw [ht]; simp, rfl, hf⟩
  · simp only [Flds.set, if_neg hq]
    have := hr q h1 h2
    cases hfq : f q with
    | none =>
      rw [hfq] at this
      intro p' hp'
      rw [ht, List.mem_append, List.mem_singleton] at hp'
      rcases hp' with hp' | rfl
      · exact this p' hp'
      · exact fun e => hq e.symm
    | some fv' =>
      rw [hfq] at this
      obtain ⟨p', h3, h4⟩ := this
      exact ⟨p', by rw [ht]; exact List.mem_append_left _ h3, h4⟩
theorem RelAt.skip {G : Gr} {back : Bool} {v : V} {i : Nat} {f : Flds} {p : ByteArray × V} (hr : RelAt G back v i f) (hp : (prs back v)[i]? = some p) (hf : kwIdx p.1 = 0) : RelAt G back v (i + 1) f := by
  have ht : (prs back v).take (i + 1) = (prs back v).take i ++ [p] := by rw [List.take_add_one, hp]; rfl
  intro q h1 h2
  have := hr q h1 h2
  cases hfq : f q with
  | none =>
    rw [hfq] at this
    intro p' hp'
    rw [ht, List.mem_append, List.mem_singleton] at hp'
    rcases hp' with hp' | rfl
    · exact this p' hp'
    · omega
  | some fv' =>
    rw [hfq] at this
    obtain ⟨p', h3, h4⟩ := this
    exact ⟨p', by rw [ht]; exact List.mem_append_left _ h3, h4⟩
end Go.Jw

namespace Go.Jw
open Go Go.RowKit Go.Proofs
set_option maxRecDepth 8000
open Go.Proofs
theorem fun181 : Fun Tryz.prog 181 := ⟨_, Tryz.func181, by kernel_rfl, rfl⟩
abbrev fbB (x : Bool) : ByteArray := ⟨(Lib.formatBool x).toArray⟩
theorem c181 (x : Bool) : CtV Tryz.prog 181 #[.string (fbB x)] [] (.tuple #[.bool x, .nilIface]) :=
  pJ fun181 fun w ok h => (Tryz.strconv_ParseBool (fbB x) x (by cases x <;> decide) w).mono (by
    rintro e w' ⟨rfl, rfl⟩
    exact ⟨rfl, Chg.refl _ _⟩)
theorem strs_step {l : List ByteArray} {i : Nat} (hi : i < l.length) : (l.take i).map Value.string ++ [.string l[i]] = (l.take (i + 1)).map Value.string := tD hi
theorem szs_step {l : List ByteArray} {i : Nat} (hi : i < l.length) (h : ∀ s ∈ l.take i, s.size ≤ maxLen) (hs : l[i].size ≤ maxLen) : ∀ s ∈ l.take (i + 1), s.size ≤ maxLen := by
 intro s hm
 rw [List.take_add_one, List.getElem?_eq_getElem hi, List.mem_append] at hm
 rcases hm with hm | hm
 ·exact h s hm
 ·simp at hm; rw [hm]; exact hs
def evY : EV → Y
  | .str s => scal tStr s
  | .bool x => scal tBool (fbB x)
theorem evY_kind (e : EV) : (evY e).kind = 8 := by cases e <;> rfl
theorem evY_str {e : EV} (h : (evY e).tag = tStr) : ∃ s, e = .str s := by
  cases e with
  | str s => exact ⟨s, rfl⟩
  | bool x => exact absurd h (by simp only [evY, scal, Y.tag]; decide)
theorem evY_bool {e : EV} (h : ¬ (evY e).tag = tStr) : ∃ x, e = .bool x := by
  cases e with
  | str s => exact absurd rfl h
  | bool x => exact ⟨x, rfl⟩
def EvsP (w : World) (ok : Nat → Prop) (xs : List Value) (l : List EV) : Prop := xs.length = 2 * l.length ∧ ∀ (i : Nat) e, l[i]? = some e → ∃ u u', xs[i * 2]? = some u ∧ xs[i * 2 + 1]? = some u' ∧ EvP w ok e u u'
def DA.evs (xs : List Value) (l : List EV) : DA := ⟨fun w ok => EvsP w ok xs l, fun h1 h2 h => ⟨h.1, fun i e hi => by
 obtain ⟨u, u', a, b, d⟩ := h.2 i e hi
 exact ⟨u, u', a, b, d.mono h1 h2⟩⟩⟩
theorem EvsP.snoc {w : World} {ok : Nat → Prop} {xs : List Value} {l : List EV} {e : EV} {u u' : Value} (h : EvsP w ok xs l) (he : EvP w ok e u u') : EvsP w ok (xs ++ [u, u']) (l ++ [e]) := by
 refine ⟨by simp [h.1]; omega, fun i x hi => ?_⟩
 rcases Nat.lt_trichotomy i l.length with hl | hl | hl
 ·rw [List.getElem?_append_left hl] at hi
  obtain ⟨v, v', a, b, d⟩ := h.2 i x hi
  exact ⟨v, v', by rw [List.getElem?_append_left (by rw [h.1]; omega)]; exact a, by rw [List.getElem?_append_left (by rw [h.1]; omega)]; exact b, d⟩
 ·subst hl
  rw [List.getElem?_append_right (Nat.le_refl _)] at hi
  simp at hi
  subst hi
  refine ⟨u, u', ?_, ?_, he⟩
  ·rw [List.getElem?_append_right (by rw [h.1]; omega), h.1, show l.length * 2 - 2 * l.length = 0 from by omega]; rfl
  ·rw [List.getElem?_append_right (by rw [h.1]; omega), h.1, show l.length * 2 + 1 - 2 * l.length = 1 from by omega]; rfl
 ·rw [List.getElem?_eq_none (by simp; omega)] at hi; cases hi
theorem evs_row {w : World} {ok : Nat → Prop} {A : Option Addr} {m c T : Nat} {xs : List Value} {l : List EV} (h : (HA.row A m c T 2 xs).holds w) (hok : ∀ b ∈ (HA.row A m c T 2 xs).foot, ok b) (hx : EvsP w ok xs l) (hm : m = l.length) :
  l.length ≤ c ∧ c ≤ maxLen ∧ ∀ (i : Nat) e, l[i]? = some e → ∃ a u u', A = some a ∧ ok a.block ∧ w.cell? (a.add (i * 2)) = some u ∧ w.cell? (a.add (i * 2 + 1)) = some u' ∧ EvP w ok e u u' := by
 obtain ⟨h1, h2, h3⟩ := uW h
 subst hm
 refine ⟨h1, h2, fun i e hi => ?_⟩
 obtain ⟨u, u', a, b, d⟩ := hx.2 i e hi
 obtain ⟨q, hq, hf, hc⟩ := h3 _ _ a
 obtain ⟨q', hq', _, hc'⟩ := h3 _ _ b
 rw [hq] at hq'
 cases hq'
 exact ⟨q, u, u', hq, hok _ (by rw [hf]; simp), hc, hc', d⟩
def DA.evrow (A : Option Addr) (c : Nat) (l : List EV) : DA := ⟨fun w ok => l.length ≤ c ∧ c ≤ maxLen ∧ ∀ (i : Nat) e, l[i]? = some e → ∃ a u u', A = some a ∧ ok a.block ∧ w.cell? (a.add (i * 2)) = some u ∧ w.cell? (a.add (i * 2 + 1)) = some u' ∧ EvP w ok e u u',
 fun h1 h2 h => ⟨h.1, h.2.1, fun i e hi => by
  obtain ⟨a, u, u', b1, b2, b3, b4, b5⟩ := h.2.2 i e hi
  exact ⟨a, u, u', b1, h1 _ b2, qH h2 b2 b3, qH h2 b2 b4, b5.mono h1 h2⟩⟩⟩
section rules
variable {P : Program} {n : Nat} {F : List Nat} {c : Ctx F} {k : List KI} {Q : Post} {e : Env} {M : List HA} {D : List DA}
theorem run_frEvs (i j : Nat) {A : Option Addr} {m cap E : Nat} {xs : List Value} (l : List EV) (hi : M[i]? = some (.row A m cap E 2 xs)) (hj : D[j]? = some (.evs xs l)) (hF : ∀ b ∈ F, b ∈ foots (M.eraseIdx i)) (hm : m = l.length) (next : Run P n c k Q e (M.eraseIdx i) (.evrow A cap l :: D)) : Run P n c k Q e M D :=
 uO i [.evrow A cap l] hF hi (fun w ok h hok hD d hd => by
  rcases List.mem_singleton.1 hd with rfl
  exact evs_row h hok (hD _ (List.mem_of_getElem? hj)) hm) next
end rules
theorem ev_take {l : List EV} {i : Nat} (hi : i < l.length) : l.take i ++ [l[i]] = l.take (i + 1) := by rw [List.take_add_one, List.getElem?_eq_getElem hi]; rfl

theorem c134 (sp : Value) (nb : Nat) (tag s : ByteArray) : CtR Tryz.prog 134 #[sp, ptr nb] [.node nb (scal tag s)] (RF (.text s)) := by
 refine Ct.of_run (args := [sp, ptr nb]) Tryz.func134 (by kernel_rfl) rfl Tryz.ntmps134 rfl (fun c => ?_)
 refine wD 0 rfl (fun A0 cap0 ht0 hv0 hl0 hc0 => ?_)
 refine zD (zB ?_)
 refine zA (zE rfl rfl ?_)
 refine zC (zD ?_)
 refine zD (zB ?_)
 refine sT (zA ?_)
 refine zH wN rfl rfl (zA ?_)
 refine zM 0 sc146 rfl rfl rfl rfl (zC ?_)
 refine zN (zD ?_)
 refine zB (zA ?_)
 refine zX rfl rfl rfl (zA ?_)
 refine zE rfl rfl (zC ?_)
 refine yG rfl (decide_eq_true rfl) (zD ?_)
 refine zB (sT ?_)
 refine zA (zH wU rfl rfl ?_)
 refine zA (zE rfl rfl ?_)
 refine zC (kE [(4, _)] rfl ?_)
 exact xI (.fv (.pointer (some ⟨nb, 3, none⟩)) (.text s)) (fun w ok h => ⟨_, rfl, hv0, uR (dget h 0 rfl) rfl⟩) (zI Tryz.results134 rfl ⟨rfl, _, rfl, rfl⟩ nS (sub1 0 rfl))
theorem c136 (sp : Value) (nb : Nat) (x : Bool) : CtR Tryz.prog 136 #[sp, ptr nb] [.node nb (scal tBool (fbB x))] (RF (.bool x)) := by
 refine Ct.of_run (args := [sp, ptr nb]) Tryz.func136 (by kernel_rfl) rfl Tryz.ntmps136 rfl (fun c => ?_)
 refine wD 0 rfl (fun A0 cap0 ht0 hv0 hl0 hc0 => ?_)
 refine zD (zB ?_)
 refine zA (zE rfl rfl ?_)
 refine zC (zD ?_)
 refine zD (zB ?_)
 refine sT (zA ?_)
 refine zH wN rfl rfl (zA ?_)
 refine zM 0 sc146 rfl rfl rfl rfl (zC ?_)
 refine zN (zD ?_)
 refine zB (zA ?_)
 refine zX rfl rfl rfl (zA ?_)
 refine zE rfl rfl (zC ?_)
 refine yG rfl (decide_eq_true rfl) (zD ?_)
 refine zB (sT ?_)
 refine zA (zH tW rfl rfl ?_)
 refine zA (zM 0 sc9 rfl rfl rfl rfl ?_)
 refine zC (kE [(16, _), (1, _)] rfl ?_)
 refine zN (zD ?_)
 refine zB (zA ?_)
 refine zU rfl rfl rfl (zA ?_)
 refine zE rfl rfl (zC ?_)
 refine yG rfl (decide_eq_true rfl) (zD ?_)
 refine zB (sT ?_)
 refine zA (zH wU rfl rfl ?_)
 refine zA (zM 0 sc9 rfl rfl rfl rfl ?_)
 refine zA (zV rfl rfl rfl (c181 x) sub0 ?_)
 refine sT (zA ?_)
 refine yM ze4 rfl (fun b5 => ?_)
 change RunOps _ _ _ _ _ _ _ _ (HA.blk _ [_] _ :: _) _
 refine zA (zR 0 (M' := [HA.blk _ [_] _]) rfl rfl rfl rfl si4 rfl rfl rfl ?_)
 refine zA (zE rfl rfl ?_)
 refine zC (kE [(5, _)] rfl ?_)
 refine zD (zB ?_)
 refine zA (zE rfl rfl ?_)
 refine zC (xY 0 rfl (by intro b h; cases h) ?_)
 exact xI (.fv (ptr b5) (.bool x)) (fun w ok h => ⟨_, rfl, uR (dget h 0 rfl) rfl⟩) (zI Tryz.results136 rfl ⟨rfl, _, rfl, rfl⟩ nS (sub1 0 rfl))
theorem c140 (sp : Value) (nb : Nat) (l : List ByteArray) (hl : l.length ≤ 1000000) : CtR Tryz.prog 140 #[sp, ptr nb] [.node nb (.mk 2 tSeq ⟨#[]⟩ (l.map (scal tStr)))] (RF (.texts l)) := by
 refine Ct.of_run (args := [sp, ptr nb]) Tryz.func140 (by kernel_rfl) rfl Tryz.ntmps140 rfl (fun c => ?_)
 refine wD 0 rfl (fun A0 cap0 ht0 hv0 hl0 hc0 => ?_)
 rw [List.length_map]
 rw [List.length_map] at hl0
 unfold maxLen at hc0
 refine zD (zB ?_)
 refine zA (zE rfl rfl ?_)
 refine zC (zD ?_)
 refine zD (zB ?_)
 refine sT (zA ?_)
 refine zH wN rfl rfl (zA ?_)
 refine zM 0 sc146 rfl rfl rfl rfl (zC ?_)
 refine zN (zD ?_)
 refine zB (zA ?_)
 refine zX rfl rfl rfl (zA ?_)
 refine zE rfl rfl (zC ?_)
 refine yE rfl (rfl) (zD ?_)
 refine zB (zA ?_)
 refine zX rfl rfl rfl (zA ?_)
 refine zE rfl rfl (zC ?_)
 refine kE [(20, _), (1, _)] rfl (yG rfl (decide_eq_true rfl) ?_)
 refine zD (zB ?_)
 refine zA (wF sl22 rfl rfl rfl (fun b22 => ?_))
 refine zA (yM ze22 rfl (fun b6 => ?_))
 change RunOps _ _ _ _ _ _ _ _ (HA.blk _ [_] _ :: _) _
 refine zA (zR 0 (M' := [HA.blk _ [_] _, _]) rfl rfl rfl rfl si22 rfl rfl rfl ?_)
 refine zC (zD ?_)
 refine zD (zB ?_)
 refine sT (zA ?_)
 refine zH wO rfl rfl (zA ?_)
 refine zM 0 sc148 rfl rfl rfl rfl (zA ?_)
 refine yU sl148 rfl rfl (zA ?_)
 refine zF rfl rfl (zC ?_)
 refine zN (kE [(28, _), (27, _), (26, _), (6, _)] rfl ?_)
 refine run_loopM 1 (fun (⟨i, A, ca, xs⟩ : Nat × Option Addr × Nat × List Value) => i ≤ l.length ∧ xs = (l.take i).map Value.string ∧ ∀ s ∈ l.take i, s.size ≤ maxLen) (fun (⟨i, A, ca, xs⟩ : Nat × Option Addr × Nat × List Value) => [(28, .int .i64 ((i : Nat) : Int))]) (fun (⟨i, A, ca, xs⟩ : Nat × Option Addr × Nat × List Value) => HA.blk b6 [.slice A i ca] 22 :: HA.row A i ca 9 1 xs :: []) (fun (⟨i, A, ca, xs⟩ : Nat × Option Addr × Nat × List Value) => l.length - i) (0, _, _, []) (⟨by show 0 ≤ _; omega, rfl, by simp⟩) (eC rfl (eN _)) rfl ?_ (eC rfl (eC rfl (eC rfl (eN _))))
 intro ⟨i, A, ca, xs⟩ hI K hK
 replace hI : i ≤ l.length ∧ xs = (l.take i).map Value.string ∧ ∀ s ∈ l.take i, s.size ≤ maxLen := hI
 change Run _ _ _ _ _ [(28, .int .i64 ((i : Nat) : Int)), (27, _), (26, _), (6, _)] (HA.blk b6 [.slice A i ca] 22 :: HA.row A i ca 9 1 xs :: []) (_)
 obtain ⟨hi, hxs, hsz⟩ := hI
 refine zD (zB ?_)
 refine zA (xT rfl rfl rfl ?_)
 refine zC (zD ?_)
 refine zS rfl (fun h29 => ?_) (fun h29 => ?_)
 ·refine zJ (zD ?_)
  refine zN (zD ?_)
  refine zB (zA ?_)
  refine wS 1 sl148 rfl rfl rfl rfl h29 (uC 1 i rfl (qR h29) (fun b1 => ?_))
  refine tT 1 rfl (fun A1 cap1 ht1 hv1 hl1 hc1 => ?_)
  refine zA (xO sc102 rfl rfl (fun _ h => uD h (j := 2) rfl) ?_)
  refine zA (zE rfl rfl ?_)
  refine zC (zD ?_)
  refine zB (sT ?_)
  refine zA (zH wN rfl rfl ?_)
  refine zA (zM 0 sc146 rfl rfl rfl rfl ?_)
  refine zC (zN ?_)
  refine zD (zB ?_)
  refine zA (zX rfl rfl rfl ?_)
  refine zA (zE rfl rfl ?_)
  refine zC (yG rfl (decide_eq_true rfl) ?_)
  refine xX xE (yJ ?_)
  refine tP 1 rfl wanted0 (yO rfl) (tP 2 rfl wanted0 (wG rfl) ?_)
  refine tP 3 rfl wanted0 (yN wU rfl) (yZ ?_)
  refine tM 0 rfl wanted0 (xW 0 sc22 rfl rfl rfl) (tM 4 rfl wanted0 (tE 0 sc9 rfl rfl rfl) ?_)
  refine yA 5 (by decide +kernel) ?_
  refine yC (I2 := [[0], [], []]) rfl wanted0 (by decide +kernel) (fun Kd hKd => ?_)
  refine zZ sl22 rfl rfl rfl rfl rfl (fun b43 => ?_)
  refine hKd _ _ _ (hC (zL (zL (yD)))) (yA 6 (by decide +kernel) ?_)
  refine yC (I2 := [[], [], []]) rfl wanted0 (by decide +kernel) (fun Kd hKd => ?_)
  refine yL 2 0 sl22 rfl rfl rfl rfl rfl rfl rfl (by unfold maxLen; omega) (by omega) (fun A44 c44 => ?_)
  refine hKd _ _ _ (zL (zL (zL (yD)))) (yA 7 (by decide +kernel) ?_)
  refine yC (I2 := [[], [], []]) rfl wanted0 (by decide +kernel) (fun Kd hKd => ?_)
  refine zR 1 (M' := [_, HA.blk _ [_] _, _]) rfl rfl rfl rfl si22 rfl rfl rfl (hKd _ _ _ (zL (zL (zL (yD)))) ?_)
  refine xF (by decide +kernel) (kE [(28, _), (27, _), (26, _), (6, _)] rfl ?_)
  refine zQ (zQ ?_)
  refine zB (zA ?_)
  refine xH rfl rfl (by omega) (zA ?_)
  refine zF rfl rfl (zC ?_)
  exact kQ (hK (i + 1, _, _, xs ++ [.string (l[i]'h29)]) (⟨by show i + 1 ≤ _; omega, by rw [hxs]; exact strs_step h29, szs_step h29 hsz hv1⟩) (by show l.length - (i + 1) < l.length - i; omega)) (eC rfl (eC rfl (eC rfl (eC rfl (eN _)))))
 refine yK rfl (zD ?_)
 refine zB (zA ?_)
 refine zE rfl rfl (zC ?_)
 obtain rfl : i = l.length := by omega
 rw [List.take_length] at hxs hsz
 refine vM 1 l rfl (by intro b h; cases h) hxs hsz (xY 0 rfl (by intro b h; cases h) ?_)
 exact xI (.fv (ptr b6) (.texts l)) (fun w ok h => ⟨_, _, rfl, uR (dget h 0 rfl) rfl, dget h 1 rfl⟩) (zI Tryz.results140 rfl ⟨rfl, _, rfl, rfl⟩ nS (sub1 0 rfl))
theorem c144s (sp : Value) (nb : Nat) (tag s : ByteArray) : CtR Tryz.prog 144 #[sp, ptr nb] [.node nb (scal tag s)] (RF (.tyS s)) := by
 refine Ct.of_run (args := [sp, ptr nb]) Tryz.func144 (by kernel_rfl) rfl Tryz.ntmps144 rfl (fun c => ?_)
 refine wD 0 rfl (fun A0 cap0 ht0 hv0 hl0 hc0 => ?_)
 refine zD (zB ?_)
 refine zA (zE rfl rfl ?_)
 refine zC (zD ?_)
 refine zD (zB ?_)
 refine sT (zA ?_)
 refine zH wN rfl rfl (zA ?_)
 refine zM 0 sc146 rfl rfl rfl rfl (zC ?_)
 refine zN (zD ?_)
 refine zB (zA ?_)
 refine zX rfl rfl rfl (zA ?_)
 refine zE rfl rfl (zC ?_)
 refine yG rfl (decide_eq_true rfl) (zD ?_)
 refine zB (zA ?_)
 refine xR rfl rfl (bu196 ..) (zA ?_)
 refine xL rfl rfl rfl (fun b17 => ?_)
 refine zA (zE rfl rfl ?_)
 refine zC (kE [(5, _), (1, _)] rfl ?_)
 refine zD (zB ?_)
 refine sT (zA ?_)
 refine zH wU rfl rfl (zA ?_)
 refine zP rfl rfl (zA ?_)
 refine zH fo196_0 rfl rfl (zA ?_)
 refine zR 0 (M' := [HA.blk _ [_, _] _]) rfl rfl rfl rfl si111 rfl rfl rfl (zC ?_)
 refine zD (zB ?_)
 refine sT (zC ?_)
 refine kE [(4, _)] rfl (xY 0 rfl (by intro b h; cases h) ?_)
 exact xI (.fv (ptr b17) (.tyS s)) (fun w ok h => ⟨b17, _, rfl, hv0, dget h 0 rfl, uR (dget h 1 rfl) rfl⟩) (zI Tryz.results144 rfl ⟨rfl, _, rfl, rfl⟩ nS (sub1 0 rfl))
theorem c144l (sp : Value) (nb : Nat) (l : List ByteArray) (hl : l.length ≤ 1000000) : CtR Tryz.prog 144 #[sp, ptr nb] [.node nb (.mk 2 tSeq ⟨#[]⟩ (l.map (scal tStr)))] (RF (.tyL l)) := by
 refine Ct.of_run (args := [sp, ptr nb]) Tryz.func144 (by kernel_rfl) rfl Tryz.ntmps144 rfl (fun c => ?_)
 refine wD 0 rfl (fun A0 cap0 ht0 hv0 hl0 hc0 => ?_)
 rw [List.length_map]
 rw [List.length_map] at hl0
 unfold maxLen at hc0
 refine zD (zB ?_)
 refine zA (zE rfl rfl ?_)
 refine zC (zD ?_)
 refine zD (zB ?_)
 refine sT (zA ?_)
 refine zH wN rfl rfl (zA ?_)
 refine zM 0 sc146 rfl rfl rfl rfl (zC ?_)
 refine zN (zD ?_)
 refine zB (zA ?_)
 refine zX rfl rfl rfl (zA ?_)
 refine zE rfl rfl (zC ?_)
 refine yE rfl (rfl) (zD ?_)
 refine zB (zA ?_)
 refine zX rfl rfl rfl (zA ?_)
 refine zE rfl rfl (zC ?_)
 refine kE [(25, _), (1, _)] rfl (yG rfl (decide_eq_true rfl) ?_)
 refine zD (zB ?_)
 refine zA (wF sl22 rfl rfl rfl (fun b27 => ?_))
 refine zA (yM ze22 rfl (fun b6 => ?_))
 change RunOps _ _ _ _ _ _ _ _ (HA.blk _ [_] _ :: _) _
 refine zA (zR 0 (M' := [HA.blk _ [_] _, _]) rfl rfl rfl rfl si22 rfl rfl rfl ?_)
 refine zC (zD ?_)
 refine zD (zB ?_)
 refine sT (zA ?_)
 refine zH wO rfl rfl (zA ?_)
 refine zM 0 sc148 rfl rfl rfl rfl (zA ?_)
 refine yU sl148 rfl rfl (zA ?_)
 refine zF rfl rfl (zC ?_)
 refine zN (kE [(33, _), (32, _), (31, _), (6, _)] rfl ?_)
 refine run_loopM 1 (fun (⟨i, A, ca, xs⟩ : Nat × Option Addr × Nat × List Value) => i ≤ l.length ∧ xs = (l.take i).map Value.string ∧ ∀ s ∈ l.take i, s.size ≤ maxLen) (fun (⟨i, A, ca, xs⟩ : Nat × Option Addr × Nat × List Value) => [(33, .int .i64 ((i : Nat) : Int))]) (fun (⟨i, A, ca, xs⟩ : Nat × Option Addr × Nat × List Value) => HA.blk b6 [.slice A i ca] 22 :: HA.row A i ca 9 1 xs :: []) (fun (⟨i, A, ca, xs⟩ : Nat × Option Addr × Nat × List Value) => l.length - i) (0, _, _, []) (⟨by show 0 ≤ _; omega, rfl, by simp⟩) (eC rfl (eN _)) rfl ?_ (eC rfl (eC rfl (eC rfl (eN _))))
 intro ⟨i, A, ca, xs⟩ hI K hK
 replace hI : i ≤ l.length ∧ xs = (l.take i).map Value.string ∧ ∀ s ∈ l.take i, s.size ≤ maxLen := hI
 change Run _ _ _ _ _ [(33, .int .i64 ((i : Nat) : Int)), (32, _), (31, _), (6, _)] (HA.blk b6 [.slice A i ca] 22 :: HA.row A i ca 9 1 xs :: []) (_)
 obtain ⟨hi, hxs, hsz⟩ := hI
 refine zD (zB ?_)
 refine zA (xT rfl rfl rfl ?_)
 refine zC (zD ?_)
 refine zS rfl (fun h34 => ?_) (fun h34 => ?_)
 ·refine zJ (zD ?_)
  refine zN (zD ?_)
  refine zB (zA ?_)
  refine wS 1 sl148 rfl rfl rfl rfl h34 (uC 1 i rfl (qR h34) (fun b1 => ?_))
  refine tT 1 rfl (fun A1 cap1 ht1 hv1 hl1 hc1 => ?_)
  refine zA (xO sc102 rfl rfl (fun _ h => uD h (j := 2) rfl) ?_)
  refine zA (zE rfl rfl ?_)
  refine zC (zD ?_)
  refine zB (sT ?_)
  refine zA (zH wN rfl rfl ?_)
  refine zA (zM 0 sc146 rfl rfl rfl rfl ?_)
  refine zC (zN ?_)
  refine zD (zB ?_)
  refine zA (zX rfl rfl rfl ?_)
  refine zA (zE rfl rfl ?_)
  refine zC (yG rfl (decide_eq_true rfl) ?_)
  refine xX xE (yJ ?_)
  refine tP 1 rfl wanted0 (yO rfl) (tP 2 rfl wanted0 (wG rfl) ?_)
  refine tP 3 rfl wanted0 (yN wU rfl) (yZ ?_)
  refine tM 0 rfl wanted0 (xW 0 sc22 rfl rfl rfl) (tM 4 rfl wanted0 (tE 0 sc9 rfl rfl rfl) ?_)
  refine yA 5 (by decide +kernel) ?_
  refine yC (I2 := [[0], [], []]) rfl wanted0 (by decide +kernel) (fun Kd hKd => ?_)
  refine zZ sl22 rfl rfl rfl rfl rfl (fun b48 => ?_)
  refine hKd _ _ _ (hC (zL (zL (yD)))) (yA 6 (by decide +kernel) ?_)
  refine yC (I2 := [[], [], []]) rfl wanted0 (by decide +kernel) (fun Kd hKd => ?_)
  refine yL 2 0 sl22 rfl rfl rfl rfl rfl rfl rfl (by unfold maxLen; omega) (by omega) (fun A49 c49 => ?_)
  refine hKd _ _ _ (zL (zL (zL (yD)))) (yA 7 (by decide +kernel) ?_)
  refine yC (I2 := [[], [], []]) rfl wanted0 (by decide +kernel) (fun Kd hKd => ?_)
  refine zR 1 (M' := [_, HA.blk _ [_] _, _]) rfl rfl rfl rfl si22 rfl rfl rfl (hKd _ _ _ (zL (zL (zL (yD)))) ?_)
  refine xF (by decide +kernel) (kE [(33, _), (32, _), (31, _), (6, _)] rfl ?_)
  refine zQ (zQ ?_)
  refine zB (zA ?_)
  refine xH rfl rfl (by omega) (zA ?_)
  refine zF rfl rfl (zC ?_)
  exact kQ (hK (i + 1, _, _, xs ++ [.string (l[i]'h34)]) (⟨by show i + 1 ≤ _; omega, by rw [hxs]; exact strs_step h34, szs_step h34 hsz hv1⟩) (by show l.length - (i + 1) < l.length - i; omega)) (eC rfl (eC rfl (eC rfl (eC rfl (eN _)))))
 refine yK rfl (zD ?_)
 refine zB (zA ?_)
 refine xR rfl rfl (bu196 ..) (zA ?_)
 refine xL rfl rfl rfl (fun b52 => ?_)
 refine zA (zE rfl rfl ?_)
 refine zC (zD ?_)
 refine zB (sT ?_)
 refine zA (zH fo196_1 rfl rfl ?_)
 refine zA (zR 0 (M' := [HA.blk _ [_, _] _, _, _]) rfl rfl rfl rfl si117 rfl rfl rfl ?_)
 refine zC (kE [(9, _)] rfl ?_)
 refine zD (zB ?_)
 refine sT (zC ?_)
 obtain rfl : i = l.length := by omega
 rw [List.take_length] at hxs hsz
 refine vM 2 l rfl (by intro b h; cases h) hxs hsz (xY 1 rfl (by intro b h; cases h) ?_)
 refine xY 0 rfl (by intro b h; cases h) (xI (.fv (ptr b52) (.tyL l)) (fun w ok h => ⟨b52, _, _, rfl, dget h 0 rfl, uR (dget h 1 rfl) rfl, dget h 2 rfl⟩) ?_)
 exact zI Tryz.results144 rfl ⟨rfl, _, rfl, rfl⟩ nS (sub1 0 rfl)
theorem c143 (sp : Value) (nb : Nat) (l : List EV) (hl : l.length ≤ 1000000) : CtR Tryz.prog 143 #[sp, ptr nb] [.node nb (.mk 2 tSeq ⟨#[]⟩ (l.map evY))] (RF (.enums l)) := by
 refine Ct.of_run (args := [sp, ptr nb]) Tryz.func143 (by kernel_rfl) rfl Tryz.ntmps143 rfl (fun c => ?_)
 refine wD 0 rfl (fun A0 cap0 ht0 hv0 hl0 hc0 => ?_)
 rw [List.length_map]
 rw [List.length_map] at hl0
 unfold maxLen at hc0
 refine zD (zB ?_)
 refine zA (zE rfl rfl ?_)
 refine zC (zD ?_)
 refine zB (zA ?_)
 refine wF sl221 rfl rfl rfl (fun b10 => ?_)
 refine zA (yM ze221 rfl (fun b5 => ?_))
 change RunOps _ _ _ _ _ _ _ _ (HA.blk _ [_] _ :: _) _
 refine zA (zR 0 (M' := [HA.blk _ [_] _, _]) rfl rfl rfl rfl si221 rfl rfl rfl ?_)
 refine zC (zD ?_)
 refine zD (zB ?_)
 refine sT (zA ?_)
 refine zH wN rfl rfl (zA ?_)
 refine zM 0 sc146 rfl rfl rfl rfl (zC ?_)
 refine zN (zD ?_)
 refine zB (zA ?_)
 refine zX rfl rfl rfl (zA ?_)
 refine zE rfl rfl (zC ?_)
 refine yG rfl (decide_eq_true rfl) (zD ?_)
 refine zB (sT ?_)
 refine zA (zH wO rfl rfl ?_)
 refine zA (zM 0 sc148 rfl rfl rfl rfl ?_)
 refine zA (yU sl148 rfl rfl ?_)
 refine zA (zF rfl rfl ?_)
 refine zC (kE [(22, _), (21, _), (20, _), (5, _)] rfl ?_)
 refine zN (kE [(22, _), (21, _), (20, _), (5, _)] rfl ?_)
 refine xI (.evs [] (l.take 0)) (fun w ok h => ⟨rfl, fun i e hi => by simp at hi⟩) ?_
 refine xU 1 (fun (⟨i, A, ca, xs⟩ : Nat × Option Addr × Nat × List Value) => i ≤ l.length) (fun (⟨i, A, ca, xs⟩ : Nat × Option Addr × Nat × List Value) => [(22, .int .i64 ((i : Nat) : Int))]) (fun (⟨i, A, ca, xs⟩ : Nat × Option Addr × Nat × List Value) => HA.blk b5 [.slice A i ca] 221 :: HA.row A i ca 223 2 xs :: []) (fun (⟨i, A, ca, xs⟩ : Nat × Option Addr × Nat × List Value) => .evs xs (l.take i) :: .dblk nb (ycells 2 tSeq ⟨#[]⟩ A0 l.length cap0) 150 :: .kids (.slice A0 l.length cap0) (l.map evY) :: .node nb (.mk 2 tSeq ⟨#[]⟩ (l.map evY)) :: []) (fun (⟨i, A, ca, xs⟩ : Nat × Option Addr × Nat × List Value) => l.length - i) (0, _, _, []) (by show 0 ≤ _; omega) (eC rfl (eN _)) rfl rfl ?_ (eC rfl (eC rfl (eC rfl (eN _))))
 intro ⟨i, A, ca, xs⟩ hI K hK
 replace hI : i ≤ l.length := hI
 change Run _ _ _ _ _ [(22, .int .i64 ((i : Nat) : Int)), (21, _), (20, _), (5, _)] (HA.blk b5 [.slice A i ca] 221 :: HA.row A i ca 223 2 xs :: []) (.evs xs (l.take i) :: .dblk nb (ycells 2 tSeq ⟨#[]⟩ A0 l.length cap0) 150 :: .kids (.slice A0 l.length cap0) (l.map evY) :: .node nb (.mk 2 tSeq ⟨#[]⟩ (l.map evY)) :: [])
 refine zD (zB ?_)
 refine zA (xT rfl rfl rfl ?_)
 refine zC (zD ?_)
 refine zS rfl (fun h23 => ?_) (fun h23 => ?_)
 ·refine zJ (zD ?_)
  refine zN (zD ?_)
  refine zB (zA ?_)
  refine wS 2 sl148 rfl rfl rfl rfl h23 (uC 2 i rfl (qR h23) (fun b1 => ?_))
  refine ops_node 1 rfl (fun A1 cap1 ht1 hv1 hl1 hc1 => ?_)
  refine zA (xO sc102 rfl rfl (fun _ h => uD h (j := 2) rfl) ?_)
  refine zA (zE rfl rfl ?_)
  refine zC (zD ?_)
  refine zB (sT ?_)
  refine zA (zH wN rfl rfl ?_)
  refine zA (zM 0 sc146 rfl rfl rfl rfl ?_)
  refine zC (zN ?_)
  refine zD (zB ?_)
  refine zA (zX rfl rfl rfl ?_)
  refine zA (zE rfl rfl ?_)
  refine zC (yG rfl (decide_eq_true (evY_kind _)) ?_)
  refine zD (zB ?_)
  refine sT (zA ?_)
  refine zH tW rfl rfl (zA ?_)
  refine zM 0 sc9 rfl rfl rfl rfl (zC ?_)
  refine kE [(35, _), (7, _), (22, _), (21, _), (20, _), (5, _)] rfl (zN ?_)
  refine zD (zB ?_)
  refine zA (zU rfl rfl rfl ?_)
  refine zA (zE rfl rfl ?_)
  refine zC (zS rfl (fun h36 => ?_) (fun h36 => ?_))
  ·obtain ⟨s9, he⟩ := evY_str h36
   refine xX xE (yJ ?_)
   refine tP 1 rfl wanted0 (yO rfl) (tP 2 rfl wanted0 (wG rfl) ?_)
   refine tP 3 rfl wanted0 (yN wU rfl) (yZ ?_)
   refine tM 0 rfl wanted0 (xW 0 sc221 rfl rfl rfl) (tM 4 rfl wanted0 (rK rfl (bu223_0 ..)) ?_)
   refine yA 5 (by decide +kernel) ?_
   refine yC (I2 := [[0], [], []]) rfl wanted0 (by decide +kernel) (fun Kd hKd => ?_)
   refine zZ sl221 rfl rfl rfl rfl rfl (fun b43 => ?_)
   refine hKd _ _ _ (hC (zL (zL (yD)))) (yA 6 (by decide +kernel) ?_)
   refine yC (I2 := [[], [], []]) rfl wanted0 (by decide +kernel) (fun Kd hKd => ?_)
   refine yL 2 0 sl221 rfl rfl rfl rfl rfl rfl rfl (by unfold maxLen; omega) (by omega) (fun A44 c44 => ?_)
   refine hKd _ _ _ (zL (zL (zL (yD)))) (yA 7 (by decide +kernel) ?_)
   refine yC (I2 := [[], [], []]) rfl wanted0 (by decide +kernel) (fun Kd hKd => ?_)
   refine zR 1 (M' := [_, HA.blk _ [_] _, _]) rfl rfl rfl rfl si221 rfl rfl rfl (hKd _ _ _ (zL (zL (zL (yD)))) ?_)
   refine xF (by decide +kernel) (kE [(22, _), (21, _), (20, _), (5, _)] rfl ?_)
   refine zQ (zQ ?_)
   refine zQ (zB ?_)
   refine zA (xH rfl rfl (by omega) ?_)
   refine zA (zF rfl rfl ?_)
   refine zC (xI (.evs (xs ++ [.pointer (some ⟨b1, 3, none⟩), .pointer none]) ((l.take i) ++ [l[i]])) (fun w ok h => EvsP.snoc (dget h 4 rfl) (by rw [he]; exact ⟨_, rfl, rfl, by rw [he] at hv1; exact hv1, by have := uR (o := 3) (dget h 0 rfl) rfl; rw [he] at this; exact this⟩)) ?_)
   rw [ev_take h23]
   exact kQ (hK (i + 1, _, _, _) (by show i + 1 ≤ _; omega) (by show l.length - (i + 1) < l.length - i; omega)) (eC rfl (eC rfl (eC rfl (eC rfl (eN _))))) (hD := (subc 0 rfl sQ))
  obtain ⟨x9, he⟩ := evY_bool h36
  refine zD (zB ?_)
  refine zA (zU rfl rfl rfl ?_)
  refine zA (zE rfl rfl ?_)
  refine zC (yG rfl (decide_eq_true (by rw [he]; rfl)) ?_)
  refine zD (zB ?_)
  refine sT (zA ?_)
  refine zH wU rfl rfl (zA ?_)
  refine zM 0 sc9 rfl rfl rfl rfl (zA ?_)
  refine zV rfl rfl (by rw [he]; rfl) (c181 x9) sub0 (sT ?_)
  refine zA (yM ze4 rfl (fun b8 => ?_))
  change RunOps _ _ _ _ _ _ _ _ (HA.blk _ [_] _ :: _) _
  refine zA (zR 0 (M' := [HA.blk _ [_] _, _, _]) rfl rfl rfl rfl si4 rfl rfl rfl ?_)
  refine zA (zE rfl rfl ?_)
  refine zC (kE [(8, _), (22, _), (21, _), (20, _), (5, _)] rfl ?_)
  refine zB (zA ?_)
  refine zT 1 sc221 rfl rfl rfl rfl (zA ?_)
  refine xR rfl rfl (bu223_1 ..) (zA ?_)
  refine zZ sl221 rfl rfl rfl rfl rfl (fun b57 => ?_)
  refine zA ?_
  refine yL 3 0 sl221 rfl rfl rfl rfl rfl rfl rfl (by unfold maxLen; omega) (by omega) (fun A58 c58 => ?_)
  refine zA (zR 2 (M' := [_, _, HA.blk _ [_] _, _]) rfl rfl rfl rfl si221 rfl rfl rfl ?_)
  refine zC (zQ ?_)
  refine zQ (zQ ?_)
  refine zB (zA ?_)
  refine xH rfl rfl (by omega) (zA ?_)
  refine zF rfl rfl (zC ?_)
  refine xY 1 rfl (by intro b h; cases h) (xI (.evs (xs ++ [.pointer none, ptr b8]) ((l.take i) ++ [l[i]])) (fun w ok h => EvsP.snoc (dget h 5 rfl) (by rw [he]; exact ⟨_, rfl, rfl, uR (dget h 0 rfl) rfl⟩)) ?_)
  rw [ev_take h23]
  exact kQ (hK (i + 1, _, _, _) (by show i + 1 ≤ _; omega) (by show l.length - (i + 1) < l.length - i; omega)) (eC rfl (eC rfl (eC rfl (eC rfl (eN _))))) (hD := (subc 0 rfl sQ))
 refine yK rfl (zQ ?_)
 refine zD (zB ?_)
 refine zA (zE rfl rfl ?_)
 refine zC ?_
 obtain rfl : i = l.length := by omega
 rw [List.take_length]
 refine run_frEvs 1 0 l rfl rfl (by intro b h; cases h) rfl (xY 0 rfl (by intro b h; cases h) ?_)
 exact xI (.fv (ptr b5) (.enums l)) (fun w ok h => ⟨_, _, _, rfl, uR (dget h 0 rfl) rfl, (dget h 1 rfl : (DA.evrow A ca l).p w ok)⟩) (zI Tryz.results143 rfl ⟨rfl, _, rfl, rfl⟩ nS (sub1 0 rfl))
end Go.Jw

namespace Go.Jw
open Go Go.RowKit
def MapOk (es : Array MapEntry) : Prop := ∀ x ∈ es.toList, ∃ s, x.key = .string s
theorem MapOk.empty : MapOk #[] := by intro x hx; cases hx
theorem MapOk.isKey {es : Array MapEntry} (h : MapOk es) : ∀ x ∈ es.toList, MapKept.IsKey .string x.key := by
 intro x hx
 obtain ⟨s, hs⟩ := h x hx
 rw [hs]; simp [MapKept.IsKey]
theorem run_mapUpd {P : Program} {w : World} {mty kt et : TypeId} {r clock : Nat} {es : Array MapEntry} {s : ByteArray} {val : Value} (hm : P.underlying mty = some (.map kt et)) (hk : P.underlying kt = some .string) (hb : w.heap[r]? = some (.map es clock)) (hes : MapOk es) :
  ∃ es' clock', (Instr.mapUpdate mty (.map (some r)) (.string s) val).run P w = .ok () { w with heap := w.heap.setIfInBounds r (.map es' clock') } ∧ MapOk es' ∧ (es = #[] → es' = #[{ key := .string s, val := val, born := clock }]) := by
 have hc : (Instr.checkKey false 10000 kt (.string s)).run P w = .ok () w := MapKept.run_checkKey (k := .string s) hk (by simp [MapKept.IsKey]) false 9999
 rcases MapKept.findNow_spec (d := .string) (k := .string s) (by simp [MapKept.IsKey]) es.toList 0 hes.isKey with ⟨hf, _⟩ | ⟨j, e, hf, hj, hke⟩
 ·refine ⟨es.push { key := .string s, val := val, born := clock }, clock + 1, ?_, ?_, ?_⟩
  ·simp [Instr.mapUpdate, run_underlying hm, MapKept.run_getObj_map hb, hc, MapKept.run_findKey hk hf, MapKept.run_setObj_map _ hb, Result.andThen]
  ·intro x hx
   simp at hx
   rcases hx with hx | rfl
   ·exact hes x (by simpa using hx)
   ·exact ⟨s, rfl⟩
  ·intro h; subst h; rfl
 ·rw [Nat.zero_add] at hf
  have hj' : es[j]? = some e := by simpa using hj
  refine ⟨es.modify j (fun e => { e with key := .string s, val := val }), clock, ?_, ?_, ?_⟩
  ·have hst : (Instr.keyThatStays (.string s) (.string s)).run P w = .ok (.string s) w := by
    have : (s == s) = true := (MapKept.bytes_beq s s).2 rfl
    simp [Instr.keyThatStays, Instr.sameBits, this]
   simp [Instr.mapUpdate, run_underlying hm, MapKept.run_getObj_map hb, hc, MapKept.run_findKey hk hf, MapKept.run_setObj_map _ hb, Result.andThen, hj', hke, hst]
  ·intro x hx
   obtain ⟨q, hq, rfl⟩ := List.getElem_of_mem hx
   simp only [Array.toList_modify, List.getElem_modify] at *
   split
   ·exact ⟨s, rfl⟩
   ·exact hes _ (List.getElem_mem _)
  ·intro h; subst h; simp at hj'
section rules
variable {P : Program} {n : Nat} {F : List Nat} {c : Ctx F} {ops : Array Oper} {d : Nat} {T : TypeId} {l : List Oper} {k : List KI} {Q : Post} {e : Env} {M : List HA} {D : List DA}
theorem op_mapUpd (i : Nat) {x y z : Operand} {mb clock : Nat} {es : Array MapEntry} {s : ByteArray} {v : Value} {S kt et : TypeId} (hm : P.underlying S = some (.map kt et)) (hk : P.underlying kt = some .string) (hx : ev e x = some (.map (some mb))) (hy : ev e y = some (.string s)) (hz : ev e z = some v)
    (hi : M[i]? = some (.obj mb (.map es clock))) (hes : MapOk es) (next : ∀ es' clock', MapOk es' → (es = #[] → es' = #[{ key := .string s, val := v, born := clock }]) → RunOps P n c ops l k Q e (M.set i (.obj mb (.map es' clock'))) D) :
    RunOp P n c ops none (.mapUpdate S x y z) T l k Q e M D := by
  intro a w hf
  have hb : w.heap[mb]? = some (.map es clock) := hf.toFitsW.mem hi
  obtain ⟨es', clock', hr, h1, h2⟩ := run_mapUpd (P := P) (s := s) (val := v) hm hk hb hes
  have hlt : mb < w.heap.size := tI hb
  unfold Oper.wp
  have : (execOp a.eval (opr none (.mapUpdate S x y z) T)).run P w = .ok .skip { w with heap := w.heap.setIfInBounds mb (.map es' clock') } := by
    simp [execOp, opr, hf.ev hx, hf.ev hy, hf.ev hz, hr]
  rw [this]
  refine next es' clock' h1 h2 _ _ (hf.world (hf.toFitsW.swapAt hi (x' := .obj mb (.map es' clock')) ?_ ?_ (by simp [HA.foot]) (fun b hb => .inl hb)))
  · show (w.heap.setIfInBounds mb _)[mb]? = _
    simp [hlt]
  · refine ⟨rfl, rfl, rfl, by simp, fun q hq hF => ?_⟩
    have hne : mb ≠ q := by intro e; subst e; exact hF (by simp [HA.foot])
    show (w.heap.setIfInBounds mb _)[q]? = _
    rw [Array.getElem?_setIfInBounds_ne hne]
end rules
end Go.Jw

namespace Go.Jw
open Go Go.RowKit Go.Proofs
set_option maxRecDepth 8000
open Go.Proofs
instance : Inhabited Prop := ⟨True⟩
noncomputable def NoId : V → Prop := V.fix (fun v f => getV v kId = none ∧ ∀ (j : Nat) k u, v.keys[j]? = some k → v.items[j]? = some u → ∀ z ∈ kidsOf (shapeOf k) u, f z)
def NoIdB (v : V) : Prop := ∀ (j : Nat) k u, v.keys[j]? = some k → v.items[j]? = some u → ∀ z ∈ kidsOf (shapeOf k) u, NoId z
theorem noId_iff (v : V) : NoId v ↔ getV v kId = none ∧ NoIdB v := by
 have := V.fix_eq (G := fun v f => getV v kId = none ∧ ∀ (j : Nat) k u, v.keys[j]? = some k → v.items[j]? = some u → ∀ z ∈ kidsOf (shapeOf k) u, f z) (fun t g g' h => by
  have : ∀ (j : Nat) k u, t.items[j]? = some u → ((∀ z ∈ kidsOf (shapeOf k) u, g z) ↔ ∀ z ∈ kidsOf (shapeOf k) u, g' z) := by
   intro j k u hu
   have hs : ∀ z ∈ kidsOf (shapeOf k) u, SizeOf.sizeOf z < SizeOf.sizeOf t := fun z hz => Nat.lt_of_le_of_lt (uX hz) (pH hu)
   exact ⟨fun a z hz => by rw [← h z (hs z hz)]; exact a z hz, fun a z hz => by rw [h z (hs z hz)]; exact a z hz⟩
  apply propext
  constructor
  ·rintro ⟨h1, h2⟩; exact ⟨h1, fun j k u hk hu => (this j k u hu).1 (h2 j k u hk hu)⟩
  ·rintro ⟨h1, h2⟩; exact ⟨h1, fun j k u hk hu => (this j k u hu).2 (h2 j k u hk hu)⟩) v
 show V.fix _ v ↔ _
 rw [this]
 rfl
def R103 (mb : Nat) (es : Array MapEntry) (clock : Nat) (x : V) (u : Value) (M' : List HA) (D' : List DA) : Prop :=
 ∃ b G es' clock', u = ptr b ∧ M' = [.many 124 (Gr.blks G), .obj mb (.map es' clock')] ∧ D' = [.graph mb G] ∧ Unf G x b ∧ MapOk es' ∧ (NoId x → es' = es ∧ clock' = clock) ∧
  (∀ idv, getV x kId = some idv → NoIdB x → es = #[] → es' = #[{ key := .string idv.text, val := ptr b, born := clock }])
def C103 (ft : DA) (mb : Nat) (back : Bool) (x : V) : Prop := ∀ nb es clock, MapOk es → Ct Tryz.prog 103 #[ptr nb, .map (some mb)] [.obj mb (.map es clock)] [.node nb (nodeV back x), ft] (R103 mb es clock x)
noncomputable abbrev nodeP (back : Bool) (p : ByteArray × V) : ByteArray × Y := (p.1, nodeV back p.2)
theorem flat_len (l : List (ByteArray × Y)) : (l.flatMap prY).length = 2 * l.length := by
  induction l with
  | nil => rfl
  | cons a l ih => simp [List.flatMap_cons, prY] at *; omega
theorem flat_get0 {l : List (ByteArray × Y)} {i : Nat} (h : i < l.length) : (l.flatMap prY)[2 * i]? = some (scal tStr l[i].1) := by
  induction l generalizing i with
  | nil => simp at h
  | cons a l ih =>
    cases i with
    | zero => rfl
    | succ i =>
      rw [show 2 * (i + 1) = 2 * i + 2 from by omega]
      simp only [List.flatMap_cons, prY, List.cons_append, List.nil_append, List.getElem?_cons_succ, List.getElem_cons_succ]
      exact ih (by simpa using h)
theorem flat_get1 {l : List (ByteArray × Y)} {i : Nat} (h : i < l.length) : (l.flatMap prY)[2 * i + 1]? = some l[i].2 := by
  induction l generalizing i with
  | nil => simp at h
  | cons a l ih =>
    cases i with
    | zero => rfl
    | succ i =>
      rw [show 2 * (i + 1) + 1 = 2 * i + 1 + 2 from by omega]
      simp only [List.flatMap_cons, prY, List.cons_append, List.nil_append, List.getElem?_cons_succ, List.getElem_cons_succ]
      exact ih (by simpa using h)
theorem fm_len (f : ByteArray × V → ByteArray × Y) (ps : List (ByteArray × V)) : ((ps.map f).flatMap prY).length = 2 * ps.length := by rw [flat_len, List.length_map]
theorem fm_get0 {back : Bool} {ps : List (ByteArray × V)} {i : Nat} (h : i < ps.length) : ((ps.map (nodeP back)).flatMap prY)[2 * i]? = some (scal tStr ps[i].1) := by
 rw [flat_get0 (by simpa using h)]; simp
theorem fm_get1 {back : Bool} {ps : List (ByteArray × V)} {i : Nat} (h : i < ps.length) : ((ps.map (nodeP back)).flatMap prY)[2 * i + 1]? = some (nodeV back ps[i].2) := by
 rw [flat_get1 (by simpa using h)]; simp
theorem nodeV_map {back : Bool} {v : V} (h : v.kind = 5) : nodeV back v = .mk 4 tMap ⟨#[]⟩ (((prs back v).map (nodeP back)).flatMap prY) := by
 rw [vS]
 simp only [h]
 have : ordY back (v.keys.zip (v.items.map (nodeV back))) = (prs back v).map (nodeP back) := by
  have h1 : v.keys.zip (v.items.map (nodeV back)) = (v.keys.zip v.items).map (nodeP back) := by
   rw [List.zip_map_right]; rfl
  unfold ordY prs
  rw [h1]
  cases back <;> simp
 rw [this]
 simp
theorem qT {back : Bool} {v : V} (h : v.kind = 4) : nodeV back v = .mk 2 tSeq ⟨#[]⟩ (v.items.map (nodeV back)) := by
 rw [vS]; simp [h]
theorem rT {back : Bool} {v : V} (h : v.kind = 5) : (nodeV back v).kind = 4 := by rw [nodeV_map h]; rfl
theorem rowp_of {w : World} {ok : Nat → Prop} {A : Option Addr} {m c T : Nat} {xs : List Value} {bs : List Nat} (h : (HA.row A m c T 1 xs).holds w) (hok : ∀ b ∈ (HA.row A m c T 1 xs).foot, ok b) (hx : xs = bs.map ptr) : RowPtrs w ok (.slice A m c) bs := by
 obtain ⟨h1, h2, h3⟩ := uW h
 have hm : m = bs.length := by have := h.1; subst hx; simp at this; omega
 subst hm
 refine ⟨A, c, rfl, h1, h2, fun i b hi => ?_⟩
 obtain ⟨a, ha, hf, hc⟩ := h3 i (ptr b) (by subst hx; simp [hi])
 exact ⟨a, ha, hok _ (by rw [hf]; simp), hc⟩
section rules
variable {P : Program} {n : Nat} {F : List Nat} {c : Ctx F} {k : List KI} {Q : Post} {e : Env} {M : List HA} {D : List DA}
theorem qU (i : Nat) {A : Option Addr} {m cap E : Nat} {xs : List Value} (bs : List Nat) (hi : M[i]? = some (.row A m cap E 1 xs)) (hF : ∀ b ∈ F, b ∈ foots (M.eraseIdx i)) (hx : xs = bs.map ptr) (next : Run P n c k Q e (M.eraseIdx i) (.rowp (.slice A m cap) bs :: D)) : Run P n c k Q e M D :=
 uO i [.rowp (.slice A m cap) bs] hF hi (fun w ok h hok hD d hd => by
  rcases List.mem_singleton.1 hd with rfl
  exact rowp_of h hok hx) next
end rules
def NamP (w : World) (ok : Nat → Prop) (nbs : List Nat) (l : List (ByteArray × Nat)) : Prop := nbs.length = l.length ∧ ∀ (i : Nat) (q : ByteArray × Nat) (nb : Nat), l[i]? = some q → nbs[i]? = some nb → q.1.size ≤ maxLen ∧ BlkP w ok nb [.string q.1, ptr q.2] 179
def DA.nam (nbs : List Nat) (l : List (ByteArray × Nat)) : DA := ⟨fun w ok => NamP w ok nbs l, fun h1 h2 h => ⟨h.1, fun i q nb a b => ⟨(h.2 i q nb a b).1, (h.2 i q nb a b).2.mono h1 h2⟩⟩⟩
theorem NamP.snoc {w : World} {ok : Nat → Prop} {nbs : List Nat} {l : List (ByteArray × Nat)} {q : ByteArray × Nat} {nb : Nat} (h : NamP w ok nbs l) (hq : q.1.size ≤ maxLen) (hb : BlkP w ok nb [.string q.1, ptr q.2] 179) : NamP w ok (nbs ++ [nb]) (l ++ [q]) := by
 refine ⟨by simp [h.1], fun i q' nb' a b => ?_⟩
 rcases Nat.lt_trichotomy i l.length with hi | hi | hi
 ·rw [List.getElem?_append_left hi] at a
  rw [List.getElem?_append_left (by rw [h.1]; exact hi)] at b
  exact h.2 i q' nb' a b
 ·subst hi
  rw [List.getElem?_append_right (Nat.le_refl _)] at a
  rw [List.getElem?_append_right (by rw [h.1]; exact Nat.le_refl _)] at b
  simp at a; simp [h.1] at b
  subst a; subst b
  exact ⟨hq, hb⟩
 ·rw [List.getElem?_eq_none (by simp; omega)] at a; cases a
theorem ptrs_snoc (nbs : List Nat) (b : Nat) : nbs.map ptr ++ [ptr b] = (nbs ++ [b]).map ptr := by simp
theorem qI {α β : Type} {R : α → β → Prop} {l : List α} {ps : List β} {i : Nat} (hi : i < ps.length) {q : α} (h : All2 R l (ps.take i)) (hq : R q ps[i]) : All2 R (l ++ [q]) (ps.take (i + 1)) := by
 rw [List.take_add_one, List.getElem?_eq_getElem hi]
 exact h.snoc hq
theorem noid_step {ps : List (ByteArray × V)} {i : Nat} (hi : i < ps.length) (h : ∀ p ∈ ps.take (i + 1), NoId p.2) : (∀ p ∈ ps.take i, NoId p.2) ∧ NoId ps[i].2 := by
 rw [List.take_add_one, List.getElem?_eq_getElem hi] at h
 exact ⟨fun p hp => h p (List.mem_append_left _ hp), h _ (List.mem_append_right _ (by simp))⟩
theorem noids_step {ps : List V} {i : Nat} (hi : i < ps.length) (h : ∀ p ∈ ps.take (i + 1), NoId p) : (∀ p ∈ ps.take i, NoId p) ∧ NoId ps[i] := by
 rw [List.take_add_one, List.getElem?_eq_getElem hi] at h
 exact ⟨fun p hp => h p (List.mem_append_left _ hp), h _ (List.mem_append_right _ (by simp))⟩
abbrev URel (G : Gr) (q : ByteArray × Nat) (p : ByteArray × V) : Prop := q.1 = p.1 ∧ Unf G p.2 q.2
theorem urel_l {G G' : Gr} {l : List (ByteArray × Nat)} {ps : List (ByteArray × V)} (h : All2 (URel G) l ps) : All2 (URel (G' ++ G)) l ps := h.mono fun q p _ hq => ⟨hq.1, Unf.mono (fun g hg => List.mem_append_right _ hg) _ _ hq.2⟩
theorem unf_l {G G' : Gr} {l : List Nat} {ps : List V} (h : All2 (fun b x => Unf G x b) l ps) : All2 (fun b x => Unf (G' ++ G) x b) l ps := h.mono fun q p _ hq => Unf.mono (fun g hg => List.mem_append_right _ hg) _ _ hq
theorem unf_r {G G' : Gr} {x : V} {b : Nat} (h : Unf G x b) : Unf (G ++ G') x b := Unf.mono (fun g hg => List.mem_append_left _ hg) _ _ h
theorem xN (G G' : Gr) : Gr.blks G ++ Gr.blks G' = Gr.blks (G ++ G') := by simp [Gr.blks]
def DepP (w : World) (ok : Nat → Prop) (nbs : List Nat) (l : List (ByteArray × List ByteArray)) : Prop := nbs.length = l.length ∧ ∀ (i : Nat) (q : ByteArray × List ByteArray) (nb : Nat), l[i]? = some q → nbs[i]? = some nb →
 ∃ tb p2 sl2, q.1.size ≤ maxLen ∧ BlkP w ok nb [.string q.1, ptr tb] 192 ∧ BlkP w ok tb [.pointer none, .pointer (some p2)] 194 ∧ PtsTo w ok p2 sl2 ∧ StrsP w ok sl2 q.2
def DA.dep (nbs : List Nat) (l : List (ByteArray × List ByteArray)) : DA := ⟨fun w ok => DepP w ok nbs l, fun h1 h2 h => ⟨h.1, fun i q nb a b => by
 obtain ⟨tb, p2, sl2, a1, a2, a3, a4, a5⟩ := h.2 i q nb a b
 exact ⟨tb, p2, sl2, a1, a2.mono h1 h2, a3.mono h1 h2, a4.mono h1 h2, a5.mono h1 h2⟩⟩⟩
theorem DepP.snoc {w : World} {ok : Nat → Prop} {nbs : List Nat} {l : List (ByteArray × List ByteArray)} {q : ByteArray × List ByteArray} {nb tb : Nat} {p2 : Addr} {sl2 : Value} (h : DepP w ok nbs l) (hq : q.1.size ≤ maxLen) (hb : BlkP w ok nb [.string q.1, ptr tb] 192) (ht : BlkP w ok tb [.pointer none, .pointer (some p2)] 194) (hp : PtsTo w ok p2 sl2) (hs : StrsP w ok sl2 q.2) :
  DepP w ok (nbs ++ [nb]) (l ++ [q]) := by
 refine ⟨by simp [h.1], fun i q' nb' a b => ?_⟩
 rcases Nat.lt_trichotomy i l.length with hi | hi | hi
 ·rw [List.getElem?_append_left hi] at a
  rw [List.getElem?_append_left (by rw [h.1]; exact hi)] at b
  exact h.2 i q' nb' a b
 ·subst hi
  rw [List.getElem?_append_right (Nat.le_refl _)] at a
  rw [List.getElem?_append_right (by rw [h.1]; exact Nat.le_refl _)] at b
  simp at a; simp [h.1] at b
  subst a; subst b
  exact ⟨tb, p2, sl2, hq, hb, ht, hp, hs⟩
 ·rw [List.getElem?_eq_none (by simp; omega)] at a; cases a
theorem pL {back : Bool} {v : V} (h : v.kind = 4) (h3 : ∀ y ∈ v.items, y.kind = 3) : nodeV back v = .mk 2 tSeq ⟨#[]⟩ ((v.items.map V.text).map (scal tStr)) := by
 rw [qT h]
 congr 1
 rw [List.map_map]
 refine List.map_congr_left fun y hy => ?_
 have := h3 y hy
 rw [vS]
 simp [this]
abbrev depF (p : ByteArray × V) : ByteArray × List ByteArray := (p.1, p.2.items.map V.text)

theorem c141 (ft : DA) (sb nb mb : Nat) (cs : List Value) (back : Bool) (ps : List (ByteArray × V)) (hl : ps.length ≤ 1000000) (hcs : cs[0]? = some (.map (some mb))) (H : ∀ p ∈ ps, C103 ft mb back p.2) (es : Array MapEntry) (clock : Nat) (hes : MapOk es) :
  Ct Tryz.prog 141 #[ptr sb, ptr nb] [.blk sb cs 124, .obj mb (.map es clock)] [.node nb (.mk 4 tMap ⟨#[]⟩ ((ps.map (nodeP back)).flatMap prY)), ft] (fun u M' D' => ∃ p G es' clock' l, u = .pointer (some p) ∧ M' = [.blk sb cs 124, .many 124 (Gr.blks G), .obj mb (.map es' clock')] ∧ D' = [.fv u (.named l), .graph mb G] ∧
   All2 (URel G) l ps ∧ MapOk es' ∧ ((∀ p ∈ ps, NoId p.2) → es' = es ∧ clock' = clock)) := by
 refine Ct.of_run (args := [ptr sb, ptr nb]) Tryz.func141 (by kernel_rfl) rfl Tryz.ntmps141 rfl (fun c => ?_)
 refine wD 0 rfl (fun A0 cap0 ht0 hv0 hl0 hc0 => ?_)
 rw [fm_len]
 rw [fm_len] at hl0
 unfold maxLen at hc0
 refine zD (zB ?_)
 refine zA (zE rfl rfl ?_)
 refine zC (zD ?_)
 refine zD (zB ?_)
 refine sT (zA ?_)
 refine zH wN rfl rfl (zA ?_)
 refine zM 0 sc146 rfl rfl rfl rfl (zC ?_)
 refine zN (zD ?_)
 refine zB (zA ?_)
 refine zX rfl rfl rfl (zA ?_)
 refine zE rfl rfl (zC ?_)
 refine yG rfl (decide_eq_true rfl) (zD ?_)
 refine zB (zA ?_)
 refine wF sl110 rfl rfl rfl (fun b16 => ?_)
 refine zA (yM ze110 rfl (fun b5 => ?_))
 change RunOps _ _ _ _ _ _ _ _ (HA.blk _ [_] _ :: _) _
 refine zA (zR 0 (M' := [HA.blk _ [_] _, _, _, _]) rfl rfl rfl rfl si110 rfl rfl rfl ?_)
 refine zC (zD ?_)
 refine zD (zB ?_)
 refine zA (zE rfl rfl ?_)
 refine zC (zN ?_)
 refine kE [(6, _), (5, _), (0, _), (1, _)] rfl (xI (.graph mb []) (fun w ok h g hg => by cases hg) ?_)
 refine xI (.nam [] []) (fun w ok h => ⟨rfl, fun i q nb a => by simp at a⟩) (run_many0 124 ?_)
 refine sF (M' := HA.blk b5 [.slice (some ⟨b16, 0, none⟩) 0 0] 110 :: HA.row (some ⟨b16, 0, none⟩) 0 0 125 1 [] :: HA.many 124 [] :: HA.obj mb (.map es clock) :: HA.blk sb cs 124 :: []) ?_ ?_
 ·exact ((List.Perm.swap _ _ _).trans (.cons _ (List.Perm.swap _ _ _))).trans (.cons _ (.cons _ (.cons _ (List.Perm.swap _ _ _))))
 refine xU 1 (fun (⟨i, A, ca, nbs, es1, ck1, G, l⟩ : Nat × Option Addr × Nat × List Nat × Array MapEntry × Nat × Gr × List (ByteArray × Nat)) => i ≤ ps.length ∧ All2 (URel G) l (ps.take i) ∧ MapOk es1 ∧ ((∀ p ∈ ps.take i, NoId p.2) → es1 = es ∧ ck1 = clock)) (fun (⟨i, A, ca, nbs, es1, ck1, G, l⟩ : Nat × Option Addr × Nat × List Nat × Array MapEntry × Nat × Gr × List (ByteArray × Nat)) => [(6, .int .i64 ((2 * i : Nat) : Int))]) (fun (⟨i, A, ca, nbs, es1, ck1, G, l⟩ : Nat × Option Addr × Nat × List Nat × Array MapEntry × Nat × Gr × List (ByteArray × Nat)) => HA.blk b5 [.slice A i ca] 110 :: HA.row A i ca 125 1 (nbs.map ptr) :: HA.many 124 (Gr.blks G) :: HA.obj mb (.map es1 ck1) :: HA.blk sb cs 124 :: []) (fun (⟨i, A, ca, nbs, es1, ck1, G, l⟩ : Nat × Option Addr × Nat × List Nat × Array MapEntry × Nat × Gr × List (ByteArray × Nat)) => .nam nbs l :: .graph mb G :: .dblk nb (ycells 4 tMap ⟨#[]⟩ A0 (2 * ps.length) cap0) 150 :: .kids (.slice A0 (2 * ps.length) cap0) ((ps.map (nodeP back)).flatMap prY) :: .node nb (.mk 4 tMap ⟨#[]⟩ ((ps.map (nodeP back)).flatMap prY)) :: ft :: []) (fun (⟨i, A, ca, nbs, es1, ck1, G, l⟩ : Nat × Option Addr × Nat × List Nat × Array MapEntry × Nat × Gr × List (ByteArray × Nat)) => ps.length - i) (0, _, _, [], es, clock, [], []) (⟨by show 0 ≤ _; omega, All2.nil _, hes, fun _ => ⟨rfl, rfl⟩⟩) (eC rfl (eN _)) rfl rfl ?_ (eC rfl (eC rfl (eC rfl (eN _))))
 intro ⟨i, A, ca, nbs, es1, ck1, G, l⟩ hI K hK
 replace hI : i ≤ ps.length ∧ All2 (URel G) l (ps.take i) ∧ MapOk es1 ∧ ((∀ p ∈ ps.take i, NoId p.2) → es1 = es ∧ ck1 = clock) := hI
 change Run _ _ _ _ _ [(6, .int .i64 ((2 * i : Nat) : Int)), (5, _), (0, _), (1, _)] (HA.blk b5 [.slice A i ca] 110 :: HA.row A i ca 125 1 (nbs.map ptr) :: HA.many 124 (Gr.blks G) :: HA.obj mb (.map es1 ck1) :: HA.blk sb cs 124 :: []) (.nam nbs l :: .graph mb G :: .dblk nb (ycells 4 tMap ⟨#[]⟩ A0 (2 * ps.length) cap0) 150 :: .kids (.slice A0 (2 * ps.length) cap0) ((ps.map (nodeP back)).flatMap prY) :: .node nb (.mk 4 tMap ⟨#[]⟩ ((ps.map (nodeP back)).flatMap prY)) :: ft :: [])
 obtain ⟨hi, hall, hok, hno⟩ := hI
 refine zD (zD ?_)
 refine zB (sT ?_)
 refine zA (zH wO rfl rfl ?_)
 refine zA (zM 2 sc148 rfl rfl rfl rfl ?_)
 refine zA (yU sl148 rfl rfl ?_)
 refine zA (xT rfl rfl rfl ?_)
 refine zC (zS rfl (fun h23 => ?_) (fun h23 => ?_))
 ·refine zJ (zD ?_)
  refine zN (zD ?_)
  refine zB (sT ?_)
  refine zA (zH wO rfl rfl ?_)
  refine zA (zM 2 sc148 rfl rfl rfl rfl ?_)
  refine zA (zF rfl rfl ?_)
  refine zA (wS (i := 2 * i) 3 sl148 rfl rfl rfl rfl (by omega) ?_)
  have hlt : i < ps.length := by omega
  refine uC 3 (2 * i) rfl (fm_get0 hlt) (fun b1 => ?_)
  refine tT 1 rfl (fun A1 cap1 ht1 hv1 hl1 hc1 => ?_)
  refine zA (xO sc102 rfl rfl (fun _ h => uD h (j := 2) rfl) ?_)
  refine zA (zP rfl rfl ?_)
  refine zA (zH wU rfl rfl ?_)
  refine zA (zM 0 sc9 rfl rfl rfl rfl ?_)
  refine zA (zE rfl rfl ?_)
  refine zC (kE [(7, _), (6, _), (5, _), (0, _), (1, _)] rfl ?_)
  refine zD (zB ?_)
  refine sT (zA ?_)
  refine zH wO rfl rfl (zA ?_)
  refine zM 6 sc148 rfl rfl rfl rfl (zA ?_)
  refine zF rfl rfl (zA ?_)
  refine xH rfl rfl (by omega) (zA ?_)
  refine wS (i := 2 * i + 1) 7 sl148 rfl rfl rfl rfl (by omega) (uC 7 (2 * i + 1) rfl (fm_get1 hlt) (fun b2 => ?_))
  refine zA (xO sc102 rfl rfl (fun _ h => uD h (j := 0) rfl) ?_)
  refine zA (zE rfl rfl ?_)
  refine zC (zD ?_)
  refine zB (sT ?_)
  refine zA (zH fo124_0 rfl rfl ?_)
  refine zA (tF 4 sc104 rfl rfl rfl hcs ?_)
  refine zA (yR 3 rfl rfl rfl (H _ (List.getElem_mem hlt) _ es1 ck1 hok) rfl (sub2 1 11 rfl rfl) (fun u50 M50 D50 hv50 => ?_))
  obtain ⟨b50, G50, es50, ck50, rfl, rfl, rfl, hU50, hO50, hN50, hI50⟩ := hv50
  refine zA (xR rfl rfl (bu179_0_1 ..) ?_)
  refine zA (xL rfl rfl rfl (fun b52 => ?_))
  refine zA (zE rfl rfl ?_)
  refine zC (kE [(9, _), (6, _), (5, _), (0, _), (1, _)] rfl ?_)
  refine zB (zA ?_)
  refine zT 3 sc110 rfl rfl rfl rfl (zA ?_)
  refine zF rfl rfl (zA ?_)
  refine zZ sl110 rfl rfl rfl rfl rfl (fun b55 => ?_)
  refine zA ?_
  refine yL 5 0 sl110 rfl rfl rfl rfl rfl rfl rfl (by unfold maxLen; omega) (by omega) (fun A56 c56 => ?_)
  refine zA (zR 4 (M' := [_, _, _, _, HA.blk _ [_] _, _, _, _]) rfl rfl rfl rfl si110 rfl rfl rfl ?_)
  refine zC (zQ ?_)
  refine zB (zA ?_)
  refine zF rfl rfl (zA ?_)
  refine yP (s := ((2 * (i + 1) : Nat) : Int)) rfl rfl rfl (by omega) (by omega) (by omega) (zA ?_)
  refine zE rfl rfl (zC ?_)
  refine xY 1 rfl (by simp [foots, HA.foot]) (xI (.nam (nbs ++ [b52]) (l ++ [(ps[i].1, b50)])) (fun w ok h => NamP.snoc (dget h 8 rfl) hv1 (dget h 0 rfl)) ?_)
  refine yS 2 10 rfl rfl (xK 1 4 rfl rfl ?_)
  rw [xN, ptrs_snoc]
  exact kQ (hK (i + 1, _, _, nbs ++ [b52], es50, ck50, G50 ++ G, l ++ [((ps[i]'hlt).1, b50)]) (⟨by show i + 1 ≤ _; omega, qI hlt (urel_l hall) ⟨rfl, unf_r hU50⟩, hO50, fun h => by obtain ⟨h1, h2⟩ := noid_step hlt h; obtain ⟨e1, e2⟩ := hno h1; obtain ⟨e3, e4⟩ := hN50 h2; exact ⟨e3.trans e1, e4.trans e2⟩⟩) (by show ps.length - (i + 1) < ps.length - i; omega)) (eC rfl (eC rfl (eC rfl (eC rfl (eN _))))) (hD := (subc 1 rfl (subc 0 rfl sQ)))
 refine yK rfl (zD ?_)
 refine zB (zA ?_)
 refine zE rfl rfl (zC ?_)
 refine kE [(4, _)] rfl ?_
 obtain rfl : i = ps.length := by omega
 rw [List.take_length] at hall hno
 refine qU 1 nbs rfl (by simp [foots, HA.foot]) rfl (xY 0 rfl (by simp [foots, HA.foot]) ?_)
 refine xI (.fv (ptr b5) (.named l)) (fun w ok h => ⟨_, _, nbs, rfl, uR (dget h 0 rfl) rfl, dget h 1 rfl, (dget h 2 rfl : (DA.nam nbs l).p w ok).1, (dget h 2 rfl : (DA.nam nbs l).p w ok).2⟩) (sF (M' := HA.blk sb cs 124 :: HA.many 124 (Gr.blks G) :: HA.obj mb (.map es1 ck1) :: []) ?_ ?_)
 ·exact (List.Perm.cons _ (List.Perm.swap _ _ _)).trans (List.Perm.swap _ _ _)
 exact zI Tryz.results141 rfl ⟨_, G, es1, ck1, l, rfl, rfl, rfl, hall, hok, hno⟩ (List.Sublist.refl _) (subc 0 rfl (sub1 4 rfl))
theorem c145 (ft : DA) (sb nb mb : Nat) (cs : List Value) (back : Bool) (xs : List V) (hl : xs.length ≤ 1000000) (hk : ∀ x ∈ xs, x.kind = 5) (hcs : cs[0]? = some (.map (some mb))) (H : ∀ x ∈ xs, C103 ft mb back x) (es : Array MapEntry) (clock : Nat) (hes : MapOk es) :
  Ct Tryz.prog 145 #[ptr sb, ptr nb] [.blk sb cs 124, .obj mb (.map es clock)] [.node nb (.mk 2 tSeq ⟨#[]⟩ (xs.map (nodeV back))), ft] (fun u M' D' => ∃ p G es' clock' bs, u = .pointer (some p) ∧ M' = [.blk sb cs 124, .many 124 (Gr.blks G), .obj mb (.map es' clock')] ∧ D' = [.fv u (.list bs), .graph mb G] ∧
   All2 (fun b x => Unf G x b) bs xs ∧ MapOk es' ∧ ((∀ x ∈ xs, NoId x) → es' = es ∧ clock' = clock)) := by
 refine Ct.of_run (args := [ptr sb, ptr nb]) Tryz.func145 (by kernel_rfl) rfl Tryz.ntmps145 rfl (fun c => ?_)
 refine wD 0 rfl (fun A0 cap0 ht0 hv0 hl0 hc0 => ?_)
 rw [List.length_map]
 rw [List.length_map] at hl0
 unfold maxLen at hc0
 refine zD (zB ?_)
 refine zA (zE rfl rfl ?_)
 refine zC (zD ?_)
 refine zD (zB ?_)
 refine sT (zA ?_)
 refine zH wN rfl rfl (zA ?_)
 refine zM 0 sc146 rfl rfl rfl rfl (zC ?_)
 refine zN (zD ?_)
 refine zB (zA ?_)
 refine zX rfl rfl rfl (zA ?_)
 refine zE rfl rfl (zC ?_)
 refine yG rfl (decide_eq_true rfl) (zD ?_)
 refine zB (zA ?_)
 refine wF sl137 rfl rfl rfl (fun b17 => ?_)
 refine zA (yM ze137 rfl (fun b5 => ?_))
 change RunOps _ _ _ _ _ _ _ _ (HA.blk _ [_] _ :: _) _
 refine zA (zR 0 (M' := [HA.blk _ [_] _, _, _, _]) rfl rfl rfl rfl si137 rfl rfl rfl ?_)
 refine zC (zD ?_)
 refine zD (zB ?_)
 refine sT (zA ?_)
 refine zH wO rfl rfl (zA ?_)
 refine zM 0 sc148 rfl rfl rfl rfl (zA ?_)
 refine yU sl148 rfl rfl (zA ?_)
 refine zF rfl rfl (zC ?_)
 refine kE [(23, _), (22, _), (21, _), (5, _), (0, _)] rfl (zN ?_)
 refine kE [(23, _), (22, _), (21, _), (5, _), (0, _)] rfl (xI (.graph mb []) (fun w ok h g hg => by cases hg) ?_)
 refine run_many0 124 (sF (M' := HA.blk b5 [.slice (some ⟨b17, 0, none⟩) 0 0] 137 :: HA.row (some ⟨b17, 0, none⟩) 0 0 63 1 [] :: HA.many 124 [] :: HA.obj mb (.map es clock) :: HA.blk sb cs 124 :: []) ?_ ?_)
 ·exact ((List.Perm.swap _ _ _).trans (.cons _ (List.Perm.swap _ _ _))).trans (.cons _ (.cons _ (.cons _ (List.Perm.swap _ _ _))))
 refine xU 1 (fun (⟨i, A, ca, bs, es1, ck1, G⟩ : Nat × Option Addr × Nat × List Nat × Array MapEntry × Nat × Gr) => i ≤ xs.length ∧ All2 (fun b x => Unf G x b) bs (xs.take i) ∧ MapOk es1 ∧ ((∀ p ∈ xs.take i, NoId p) → es1 = es ∧ ck1 = clock)) (fun (⟨i, A, ca, bs, es1, ck1, G⟩ : Nat × Option Addr × Nat × List Nat × Array MapEntry × Nat × Gr) => [(23, .int .i64 ((i : Nat) : Int))]) (fun (⟨i, A, ca, bs, es1, ck1, G⟩ : Nat × Option Addr × Nat × List Nat × Array MapEntry × Nat × Gr) => HA.blk b5 [.slice A i ca] 137 :: HA.row A i ca 63 1 (bs.map ptr) :: HA.many 124 (Gr.blks G) :: HA.obj mb (.map es1 ck1) :: HA.blk sb cs 124 :: []) (fun (⟨i, A, ca, bs, es1, ck1, G⟩ : Nat × Option Addr × Nat × List Nat × Array MapEntry × Nat × Gr) => .graph mb G :: .dblk nb (ycells 2 tSeq ⟨#[]⟩ A0 xs.length cap0) 150 :: .kids (.slice A0 xs.length cap0) (xs.map (nodeV back)) :: .node nb (.mk 2 tSeq ⟨#[]⟩ (xs.map (nodeV back))) :: ft :: []) (fun (⟨i, A, ca, bs, es1, ck1, G⟩ : Nat × Option Addr × Nat × List Nat × Array MapEntry × Nat × Gr) => xs.length - i) (0, _, _, [], es, clock, []) (⟨by show 0 ≤ _; omega, All2.nil _, hes, fun _ => ⟨rfl, rfl⟩⟩) (eC rfl (eN _)) rfl rfl ?_ (eC rfl (eC rfl (eC rfl (eC rfl (eN _)))))
 intro ⟨i, A, ca, bs, es1, ck1, G⟩ hI K hK
 replace hI : i ≤ xs.length ∧ All2 (fun b x => Unf G x b) bs (xs.take i) ∧ MapOk es1 ∧ ((∀ p ∈ xs.take i, NoId p) → es1 = es ∧ ck1 = clock) := hI
 change Run _ _ _ _ _ [(23, .int .i64 ((i : Nat) : Int)), (22, _), (21, _), (5, _), (0, _)] (HA.blk b5 [.slice A i ca] 137 :: HA.row A i ca 63 1 (bs.map ptr) :: HA.many 124 (Gr.blks G) :: HA.obj mb (.map es1 ck1) :: HA.blk sb cs 124 :: []) (.graph mb G :: .dblk nb (ycells 2 tSeq ⟨#[]⟩ A0 xs.length cap0) 150 :: .kids (.slice A0 xs.length cap0) (xs.map (nodeV back)) :: .node nb (.mk 2 tSeq ⟨#[]⟩ (xs.map (nodeV back))) :: ft :: [])
 obtain ⟨hi, hall, hok, hno⟩ := hI
 refine zD (zB ?_)
 refine zA (xT rfl rfl rfl ?_)
 refine zC (zD ?_)
 refine zS rfl (fun h24 => ?_) (fun h24 => ?_)
 ·refine zJ (zD ?_)
  refine zN (zD ?_)
  refine zB (zA ?_)
  refine wS 2 sl148 rfl rfl rfl rfl h24 ?_
  have hlt : i < xs.length := h24
  have hk5 := rT (back := back) (hk _ (List.getElem_mem hlt))
  refine uC 2 i rfl (qR hlt) (fun b1 => ?_)
  refine ops_node 1 rfl (fun A1 cap1 ht1 hv1 hl1 hc1 => ?_)
  refine zA (xO sc102 rfl rfl (fun _ h => uD h (j := 2) rfl) ?_)
  refine zA (zE rfl rfl ?_)
  refine zC (zD ?_)
  refine zB (sT ?_)
  refine zA (zH wN rfl rfl ?_)
  refine zA (zM 0 sc146 rfl rfl rfl rfl ?_)
  refine zC (zN ?_)
  refine zD (zB ?_)
  refine zA (zX rfl rfl rfl ?_)
  refine zA (zE rfl rfl ?_)
  refine zC (kE [(31, _), (7, _), (23, _), (22, _), (21, _), (5, _), (0, _)] rfl ?_)
  refine yG rfl (decide_eq_true hk5) (zD ?_)
  refine zB (sT ?_)
  refine zA (zH fo124_0 rfl rfl ?_)
  refine zA (tF 4 sc104 rfl rfl rfl hcs ?_)
  refine zA (yR 3 rfl rfl rfl (H _ (List.getElem_mem hlt) _ es1 ck1 hok) rfl (sub2 3 8 rfl rfl) (fun u38 M38 D38 hv38 => ?_))
  obtain ⟨b38, G38, es38, ck38, rfl, rfl, rfl, hU38, hO38, hN38, hI38⟩ := hv38
  refine zA (zE rfl rfl ?_)
  refine zC (zB ?_)
  refine zA (zT 2 sc137 rfl rfl rfl rfl ?_)
  refine zA (zF rfl rfl ?_)
  refine zA (zZ sl137 rfl rfl rfl rfl rfl (fun b41 => ?_))
  refine zA ?_
  refine yL 4 0 sl137 rfl rfl rfl rfl rfl rfl rfl (by unfold maxLen; omega) (by omega) (fun A42 c42 => ?_)
  refine zA (zR 3 (M' := [_, _, _, HA.blk _ [_] _, _, _, _]) rfl rfl rfl rfl si137 rfl rfl rfl ?_)
  refine zC (kE [(23, _), (22, _), (21, _), (5, _), (0, _)] rfl ?_)
  refine zQ (zQ ?_)
  refine zB (zA ?_)
  refine xH rfl rfl (by omega) (zA ?_)
  refine zF rfl rfl (zC ?_)
  refine yS 0 5 rfl rfl (xK 1 4 rfl rfl ?_)
  rw [xN, ptrs_snoc]
  exact kQ (hK (i + 1, _, _, bs ++ [b38], es38, ck38, G38 ++ G) (⟨by show i + 1 ≤ _; omega, qI hlt (unf_l hall) (unf_r hU38), hO38, fun h => by obtain ⟨h1, h2⟩ := noids_step hlt h; obtain ⟨e1, e2⟩ := hno h1; obtain ⟨e3, e4⟩ := hN38 h2; exact ⟨e3.trans e1, e4.trans e2⟩⟩) (by show xs.length - (i + 1) < xs.length - i; omega)) (eC rfl (eC rfl (eC rfl (eC rfl (eC rfl (eN _)))))) (hD := (subc 0 rfl sQ))
 refine yK rfl (zD ?_)
 refine zB (zA ?_)
 refine zE rfl rfl (zC ?_)
 obtain rfl : i = xs.length := by omega
 rw [List.take_length] at hall hno
 refine qU 1 bs rfl (by simp [foots, HA.foot]) rfl (xY 0 rfl (by simp [foots, HA.foot]) ?_)
 refine xI (.fv (ptr b5) (.list bs)) (fun w ok h => ⟨_, _, rfl, uR (dget h 0 rfl) rfl, dget h 1 rfl⟩) (sF (M' := HA.blk sb cs 124 :: HA.many 124 (Gr.blks G) :: HA.obj mb (.map es1 ck1) :: []) ?_ ?_)
 ·exact (List.Perm.cons _ (List.Perm.swap _ _ _)).trans (List.Perm.swap _ _ _)
 exact zI Tryz.results145 rfl ⟨_, G, es1, ck1, bs, rfl, rfl, rfl, hall, hok, hno⟩ (List.Sublist.refl _) (subc 0 rfl (sub1 3 rfl))
theorem c139l (ft : DA) (sb nb mb : Nat) (cs : List Value) (back : Bool) (xs : List V) (hl : xs.length ≤ 1000000) (hk : ∀ x ∈ xs, x.kind = 5) (hcs : cs[0]? = some (.map (some mb))) (H : ∀ x ∈ xs, C103 ft mb back x) (es : Array MapEntry) (clock : Nat) (hes : MapOk es) :
  Ct Tryz.prog 139 #[ptr sb, ptr nb] [.blk sb cs 124, .obj mb (.map es clock)] [.node nb (.mk 2 tSeq ⟨#[]⟩ (xs.map (nodeV back))), ft] (fun u M' D' => ∃ p G es' clock' bs, u = .pointer (some p) ∧ M' = [.blk sb cs 124, .many 124 (Gr.blks G), .obj mb (.map es' clock')] ∧ D' = [.fv u (.itL bs), .graph mb G] ∧
   All2 (fun b x => Unf G x b) bs xs ∧ MapOk es' ∧ ((∀ x ∈ xs, NoId x) → es' = es ∧ clock' = clock)) := by
 refine Ct.of_run (args := [ptr sb, ptr nb]) Tryz.func139 (by kernel_rfl) rfl Tryz.ntmps139 rfl (fun c => ?_)
 refine wD 0 rfl (fun A0 cap0 ht0 hv0 hl0 hc0 => ?_)
 rw [List.length_map]
 rw [List.length_map] at hl0
 unfold maxLen at hc0
 refine zD (zB ?_)
 refine zA (zE rfl rfl ?_)
 refine zC (zD ?_)
 refine zD (zB ?_)
 refine sT (zA ?_)
 refine zH wN rfl rfl (zA ?_)
 refine zM 0 sc146 rfl rfl rfl rfl (zC ?_)
 refine zN (zD ?_)
 refine zB (zA ?_)
 refine zX rfl rfl rfl (zA ?_)
 refine zE rfl rfl (zC ?_)
 refine yG rfl (decide_eq_true rfl) (zD ?_)
 refine zB (zA ?_)
 refine wF sl137 rfl rfl rfl (fun b16 => ?_)
 refine zA (yM ze137 rfl (fun b5 => ?_))
 change RunOps _ _ _ _ _ _ _ _ (HA.blk _ [_] _ :: _) _
 refine zA (zR 0 (M' := [HA.blk _ [_] _, _, _, _]) rfl rfl rfl rfl si137 rfl rfl rfl ?_)
 refine zC (zD ?_)
 refine zD (zB ?_)
 refine sT (zA ?_)
 refine zH wO rfl rfl (zA ?_)
 refine zM 0 sc148 rfl rfl rfl rfl (zA ?_)
 refine yU sl148 rfl rfl (zA ?_)
 refine zF rfl rfl (zC ?_)
 refine kE [(22, _), (21, _), (20, _), (5, _), (0, _)] rfl (zN ?_)
 refine kE [(22, _), (21, _), (20, _), (5, _), (0, _)] rfl (xI (.graph mb []) (fun w ok h g hg => by cases hg) ?_)
 refine run_many0 124 (sF (M' := HA.blk b5 [.slice (some ⟨b16, 0, none⟩) 0 0] 137 :: HA.row (some ⟨b16, 0, none⟩) 0 0 63 1 [] :: HA.many 124 [] :: HA.obj mb (.map es clock) :: HA.blk sb cs 124 :: []) ?_ ?_)
 ·exact ((List.Perm.swap _ _ _).trans (.cons _ (List.Perm.swap _ _ _))).trans (.cons _ (.cons _ (.cons _ (List.Perm.swap _ _ _))))
 refine xU 1 (fun (⟨i, A, ca, bs, es1, ck1, G⟩ : Nat × Option Addr × Nat × List Nat × Array MapEntry × Nat × Gr) => i ≤ xs.length ∧ All2 (fun b x => Unf G x b) bs (xs.take i) ∧ MapOk es1 ∧ ((∀ p ∈ xs.take i, NoId p) → es1 = es ∧ ck1 = clock)) (fun (⟨i, A, ca, bs, es1, ck1, G⟩ : Nat × Option Addr × Nat × List Nat × Array MapEntry × Nat × Gr) => [(22, .int .i64 ((i : Nat) : Int))]) (fun (⟨i, A, ca, bs, es1, ck1, G⟩ : Nat × Option Addr × Nat × List Nat × Array MapEntry × Nat × Gr) => HA.blk b5 [.slice A i ca] 137 :: HA.row A i ca 63 1 (bs.map ptr) :: HA.many 124 (Gr.blks G) :: HA.obj mb (.map es1 ck1) :: HA.blk sb cs 124 :: []) (fun (⟨i, A, ca, bs, es1, ck1, G⟩ : Nat × Option Addr × Nat × List Nat × Array MapEntry × Nat × Gr) => .graph mb G :: .dblk nb (ycells 2 tSeq ⟨#[]⟩ A0 xs.length cap0) 150 :: .kids (.slice A0 xs.length cap0) (xs.map (nodeV back)) :: .node nb (.mk 2 tSeq ⟨#[]⟩ (xs.map (nodeV back))) :: ft :: []) (fun (⟨i, A, ca, bs, es1, ck1, G⟩ : Nat × Option Addr × Nat × List Nat × Array MapEntry × Nat × Gr) => xs.length - i) (0, _, _, [], es, clock, []) (⟨by show 0 ≤ _; omega, All2.nil _, hes, fun _ => ⟨rfl, rfl⟩⟩) (eC rfl (eN _)) rfl rfl ?_ (eC rfl (eC rfl (eC rfl (eC rfl (eN _)))))
 intro ⟨i, A, ca, bs, es1, ck1, G⟩ hI K hK
 replace hI : i ≤ xs.length ∧ All2 (fun b x => Unf G x b) bs (xs.take i) ∧ MapOk es1 ∧ ((∀ p ∈ xs.take i, NoId p) → es1 = es ∧ ck1 = clock) := hI
 change Run _ _ _ _ _ [(22, .int .i64 ((i : Nat) : Int)), (21, _), (20, _), (5, _), (0, _)] (HA.blk b5 [.slice A i ca] 137 :: HA.row A i ca 63 1 (bs.map ptr) :: HA.many 124 (Gr.blks G) :: HA.obj mb (.map es1 ck1) :: HA.blk sb cs 124 :: []) (.graph mb G :: .dblk nb (ycells 2 tSeq ⟨#[]⟩ A0 xs.length cap0) 150 :: .kids (.slice A0 xs.length cap0) (xs.map (nodeV back)) :: .node nb (.mk 2 tSeq ⟨#[]⟩ (xs.map (nodeV back))) :: ft :: [])
 obtain ⟨hi, hall, hok, hno⟩ := hI
 refine zD (zB ?_)
 refine zA (xT rfl rfl rfl ?_)
 refine zC (zD ?_)
 refine zS rfl (fun h23 => ?_) (fun h23 => ?_)
 ·refine zJ (zD ?_)
  refine zN (zD ?_)
  refine zB (zA ?_)
  refine wS 2 sl148 rfl rfl rfl rfl h23 ?_
  have hlt : i < xs.length := h23
  have hk5 := rT (back := back) (hk _ (List.getElem_mem hlt))
  refine uC 2 i rfl (qR hlt) (fun b1 => ?_)
  refine ops_node 1 rfl (fun A1 cap1 ht1 hv1 hl1 hc1 => ?_)
  refine zA (xO sc102 rfl rfl (fun _ h => uD h (j := 2) rfl) ?_)
  refine zA (zE rfl rfl ?_)
  refine zC (zD ?_)
  refine zB (sT ?_)
  refine zA (zH wN rfl rfl ?_)
  refine zA (zM 0 sc146 rfl rfl rfl rfl ?_)
  refine zC (zN ?_)
  refine zD (zB ?_)
  refine zA (zX rfl rfl rfl ?_)
  refine zA (zE rfl rfl ?_)
  refine zC (kE [(30, _), (7, _), (22, _), (21, _), (20, _), (5, _), (0, _)] rfl ?_)
  refine yG rfl (decide_eq_true hk5) (zD ?_)
  refine zB (sT ?_)
  refine zA (zH fo124_0 rfl rfl ?_)
  refine zA (tF 4 sc104 rfl rfl rfl hcs ?_)
  refine zA (yR 3 rfl rfl rfl (H _ (List.getElem_mem hlt) _ es1 ck1 hok) rfl (sub2 3 8 rfl rfl) (fun u37 M37 D37 hv37 => ?_))
  obtain ⟨b37, G37, es37, ck37, rfl, rfl, rfl, hU37, hO37, hN37, hI37⟩ := hv37
  refine zA (zE rfl rfl ?_)
  refine zC (zB ?_)
  refine zA (zT 2 sc137 rfl rfl rfl rfl ?_)
  refine zA (zF rfl rfl ?_)
  refine zA (zZ sl137 rfl rfl rfl rfl rfl (fun b40 => ?_))
  refine zA ?_
  refine yL 4 0 sl137 rfl rfl rfl rfl rfl rfl rfl (by unfold maxLen; omega) (by omega) (fun A41 c41 => ?_)
  refine zA (zR 3 (M' := [_, _, _, HA.blk _ [_] _, _, _, _]) rfl rfl rfl rfl si137 rfl rfl rfl ?_)
  refine zC (kE [(22, _), (21, _), (20, _), (5, _), (0, _)] rfl ?_)
  refine zQ (zQ ?_)
  refine zB (zA ?_)
  refine xH rfl rfl (by omega) (zA ?_)
  refine zF rfl rfl (zC ?_)
  refine yS 0 5 rfl rfl (xK 1 4 rfl rfl ?_)
  rw [xN, ptrs_snoc]
  exact kQ (hK (i + 1, _, _, bs ++ [b37], es37, ck37, G37 ++ G) (⟨by show i + 1 ≤ _; omega, qI hlt (unf_l hall) (unf_r hU37), hO37, fun h => by obtain ⟨h1, h2⟩ := noids_step hlt h; obtain ⟨e1, e2⟩ := hno h1; obtain ⟨e3, e4⟩ := hN37 h2; exact ⟨e3.trans e1, e4.trans e2⟩⟩) (by show xs.length - (i + 1) < xs.length - i; omega)) (eC rfl (eC rfl (eC rfl (eC rfl (eC rfl (eN _)))))) (hD := (subc 0 rfl sQ))
 refine yK rfl (zD ?_)
 refine zB (zA ?_)
 refine xR rfl rfl (bu187_1 ..) (zA ?_)
 refine xL rfl rfl rfl (fun b44 => ?_)
 refine zA (zE rfl rfl ?_)
 refine zC ?_
 obtain rfl : i = xs.length := by omega
 rw [List.take_length] at hall hno
 refine qU 2 bs rfl (by simp [foots, HA.foot]) rfl (xY 1 rfl (by simp [foots, HA.foot]) ?_)
 refine xY 0 rfl (by simp [foots, HA.foot]) (xI (.fv (ptr b44) (.itL bs)) (fun w ok h => ⟨b44, _, _, rfl, dget h 0 rfl, uR (dget h 1 rfl) rfl, dget h 2 rfl⟩) ?_)
 refine sF (M' := HA.blk sb cs 124 :: HA.many 124 (Gr.blks G) :: HA.obj mb (.map es1 ck1) :: []) ?_ ?_
 ·exact (List.Perm.cons _ (List.Perm.swap _ _ _)).trans (List.Perm.swap _ _ _)
 exact zI Tryz.results139 rfl ⟨_, G, es1, ck1, bs, rfl, rfl, rfl, hall, hok, hno⟩ (List.Sublist.refl _) (subc 0 rfl (sub1 4 rfl))
theorem c138b (sp : Value) (nb : Nat) (x : Bool) : CtR Tryz.prog 138 #[sp, ptr nb] [.node nb (scal tBool (fbB x))] (RF (.sbB x)) := by
 refine Ct.of_run (args := [sp, ptr nb]) Tryz.func138 (by kernel_rfl) rfl Tryz.ntmps138 rfl (fun c => ?_)
 refine wD 0 rfl (fun A0 cap0 ht0 hv0 hl0 hc0 => ?_)
 refine zD (zB ?_)
 refine zA (zE rfl rfl ?_)
 refine zC (zD ?_)
 refine zB (zA ?_)
 refine xR rfl rfl (bu185 ..) (zA ?_)
 refine xL rfl rfl rfl (fun b9 => ?_)
 refine zA (zE rfl rfl ?_)
 refine zC (zD ?_)
 refine zD (zB ?_)
 refine sT (zA ?_)
 refine zH wN rfl rfl (zA ?_)
 refine zM 0 sc146 rfl rfl rfl rfl (zC ?_)
 refine zN (zD ?_)
 refine zB (zA ?_)
 refine zX rfl rfl rfl (zA ?_)
 refine zE rfl rfl (zC ?_)
 refine yG rfl (decide_eq_true rfl) (zD ?_)
 refine zB (sT ?_)
 refine zA (zH wU rfl rfl ?_)
 refine zA (zM 0 sc9 rfl rfl rfl rfl ?_)
 refine zA (zV rfl rfl rfl (c181 x) sub0 ?_)
 refine sT (zA ?_)
 refine yM ze4 rfl (fun b6 => ?_)
 change RunOps _ _ _ _ _ _ _ _ (HA.blk _ [_] _ :: _) _
 refine zA (zR 0 (M' := [HA.blk _ [_] _, _]) rfl rfl rfl rfl si4 rfl rfl rfl ?_)
 refine zA (zE rfl rfl ?_)
 refine zC (kE [(6, _), (5, _)] rfl ?_)
 refine zB (sT ?_)
 refine zA (zH fo185_1 rfl rfl ?_)
 refine zA (zR 1 (M' := [_, HA.blk _ [_, _] _]) rfl rfl rfl rfl si112 rfl rfl rfl ?_)
 refine zC (zQ ?_)
 refine zD (zB ?_)
 refine sT (zC ?_)
 refine xY 0 rfl (by intro b h; cases h) (xY 0 rfl (by intro b h; cases h) ?_)
 exact xI (.fv (ptr b9) (.sbB x)) (fun w ok h => ⟨b9, _, rfl, dget h 0 rfl, uR (dget h 1 rfl) rfl⟩) (zI Tryz.results138 rfl ⟨rfl, _, rfl, rfl⟩ nS (sub1 0 rfl))
theorem c138s (ft : DA) (sb nb mb : Nat) (cs : List Value) (back : Bool) (x : V) (hk : x.kind = 5) (hcs : cs[0]? = some (.map (some mb))) (H : C103 ft mb back x) (es : Array MapEntry) (clock : Nat) (hes : MapOk es) :
  Ct Tryz.prog 138 #[ptr sb, ptr nb] [.blk sb cs 124, .obj mb (.map es clock)] [.node nb (nodeV back x), ft] (fun u M' D' => ∃ p G es' clock' b, u = .pointer (some p) ∧ M' = [.blk sb cs 124, .many 124 (Gr.blks G), .obj mb (.map es' clock')] ∧ D' = [.fv u (.sbS b), .graph mb G] ∧
   Unf G x b ∧ MapOk es' ∧ (NoId x → es' = es ∧ clock' = clock)) := by
 refine Ct.of_run (args := [ptr sb, ptr nb]) Tryz.func138 (by kernel_rfl) rfl Tryz.ntmps138 rfl (fun c => ?_)
 have hk4 := rT (back := back) hk
 refine run_node 0 rfl (fun A0 cap0 ht0 hv0 hl0 hc0 => ?_)
 refine zD (zB ?_)
 refine zA (zE rfl rfl ?_)
 refine zC (zD ?_)
 refine zB (zA ?_)
 refine xR rfl rfl (bu185 ..) (zA ?_)
 refine xL rfl rfl rfl (fun b9 => ?_)
 refine zA (zE rfl rfl ?_)
 refine zC (zD ?_)
 refine zD (zB ?_)
 refine sT (zA ?_)
 refine zH wN rfl rfl (zA ?_)
 refine zM 0 sc146 rfl rfl rfl rfl (zC ?_)
 refine zN (zD ?_)
 refine zB (zA ?_)
 refine zX rfl rfl rfl (zA ?_)
 refine zE rfl rfl (zC ?_)
 refine yE rfl (by rw [hk4]; rfl) (zD ?_)
 refine zB (zA ?_)
 refine zX rfl rfl rfl (zA ?_)
 refine zE rfl rfl (zC ?_)
 refine kE [(27, _), (5, _), (0, _), (1, _)] rfl (yG rfl (decide_eq_true hk4) ?_)
 refine zB (sT ?_)
 refine zA (zH fo124_0 rfl rfl ?_)
 refine zA (tF 1 sc104 rfl rfl rfl hcs ?_)
 refine zA (yR 2 rfl rfl rfl (H _ es clock hes) rfl (sub2 2 3 rfl rfl) (fun u35 M35 D35 hv35 => ?_))
 obtain ⟨b35, G35, es35, ck35, rfl, rfl, rfl, hU35, hO35, hN35, hI35⟩ := hv35
 refine zA (zP rfl rfl ?_)
 refine zA (zH fo185_0 rfl rfl ?_)
 refine zA (zR 2 (M' := [_, _, HA.blk _ [_, _] _, _]) rfl rfl rfl rfl si63 rfl rfl rfl ?_)
 refine zC (kE [(5, _)] rfl ?_)
 refine zQ (zD ?_)
 refine zB (sT ?_)
 refine zC (xY 2 rfl (by simp [foots, HA.foot]) ?_)
 refine xI (.fv (ptr b9) (.sbS b35)) (fun w ok h => ⟨b9, rfl, dget h 0 rfl⟩) (sF (M' := HA.blk sb cs 124 :: HA.many 124 (Gr.blks G35) :: HA.obj mb (.map es35 ck35) :: []) ?_ ?_)
 ·exact (List.Perm.cons _ (List.Perm.swap _ _ _)).trans (List.Perm.swap _ _ _)
 exact zI Tryz.results138 rfl ⟨_, G35, es35, ck35, b35, rfl, rfl, rfl, hU35, hO35, hN35⟩ (List.Sublist.refl _) (subc 0 rfl (sub1 2 rfl))
theorem c139s (ft : DA) (sb nb mb : Nat) (cs : List Value) (back : Bool) (x : V) (hk : x.kind = 5) (hcs : cs[0]? = some (.map (some mb))) (H : C103 ft mb back x) (es : Array MapEntry) (clock : Nat) (hes : MapOk es) :
  Ct Tryz.prog 139 #[ptr sb, ptr nb] [.blk sb cs 124, .obj mb (.map es clock)] [.node nb (nodeV back x), ft] (fun u M' D' => ∃ p G es' clock' b, u = .pointer (some p) ∧ M' = [.blk sb cs 124, .many 124 (Gr.blks G), .obj mb (.map es' clock')] ∧ D' = [.fv u (.itS b), .graph mb G] ∧
   Unf G x b ∧ MapOk es' ∧ (NoId x → es' = es ∧ clock' = clock)) := by
 refine Ct.of_run (args := [ptr sb, ptr nb]) Tryz.func139 (by kernel_rfl) rfl Tryz.ntmps139 rfl (fun c => ?_)
 have hk4 := rT (back := back) hk
 refine run_node 0 rfl (fun A0 cap0 ht0 hv0 hl0 hc0 => ?_)
 refine zD (zB ?_)
 refine zA (zE rfl rfl ?_)
 refine zC (zD ?_)
 refine zD (zB ?_)
 refine sT (zA ?_)
 refine zH wN rfl rfl (zA ?_)
 refine zM 0 sc146 rfl rfl rfl rfl (zC ?_)
 refine zN (zD ?_)
 refine zB (zA ?_)
 refine zX rfl rfl rfl (zA ?_)
 refine zE rfl rfl (zC ?_)
 refine yE rfl (by rw [hk4]; rfl) (zD ?_)
 refine zB (zA ?_)
 refine zX rfl rfl rfl (zA ?_)
 refine zE rfl rfl (zC ?_)
 refine yG rfl (decide_eq_true hk4) (zD ?_)
 refine zB (sT ?_)
 refine zA (zH fo124_0 rfl rfl ?_)
 refine zA (tF 0 sc104 rfl rfl rfl hcs ?_)
 refine zA (yR 1 rfl rfl rfl (H _ es clock hes) rfl (sub2 2 3 rfl rfl) (fun u52 M52 D52 hv52 => ?_))
 obtain ⟨b52, G52, es52, ck52, rfl, rfl, rfl, hU52, hO52, hN52, hI52⟩ := hv52
 refine zA (zE rfl rfl ?_)
 refine zC (kE [(9, _)] rfl ?_)
 refine zD (zB ?_)
 refine zA (zF rfl rfl ?_)
 refine zA (xR rfl rfl (bu187_0 ..) ?_)
 refine zA (xL rfl rfl rfl (fun b55 => ?_))
 refine zA (zE rfl rfl ?_)
 refine zC (xY 0 rfl (by simp [foots, HA.foot]) ?_)
 refine xI (.fv (ptr b55) (.itS b52)) (fun w ok h => ⟨b55, rfl, dget h 0 rfl⟩) (sF (M' := HA.blk sb cs 124 :: HA.many 124 (Gr.blks G52) :: HA.obj mb (.map es52 ck52) :: []) ?_ ?_)
 ·exact (List.Perm.cons _ (List.Perm.swap _ _ _)).trans (List.Perm.swap _ _ _)
 exact zI Tryz.results139 rfl ⟨_, G52, es52, ck52, b52, rfl, rfl, rfl, hU52, hO52, hN52⟩ (List.Sublist.refl _) (subc 0 rfl (sub1 2 rfl))
theorem c142 (sp : Value) (nb : Nat) (back : Bool) (ps : List (ByteArray × V)) (hl : ps.length ≤ 1000000) (hk : ∀ p ∈ ps, p.2.kind = 4 ∧ p.2.items.length ≤ 1000000 ∧ ∀ y ∈ p.2.items, y.kind = 3) : CtR Tryz.prog 142 #[sp, ptr nb] [.node nb (.mk 4 tMap ⟨#[]⟩ ((ps.map (nodeP back)).flatMap prY))] (RF (.deps (ps.map depF))) := by
 refine Ct.of_run (args := [sp, ptr nb]) Tryz.func142 (by kernel_rfl) rfl Tryz.ntmps142 rfl (fun c => ?_)
 refine wD 0 rfl (fun A0 cap0 ht0 hv0 hl0 hc0 => ?_)
 rw [fm_len]
 rw [fm_len] at hl0
 unfold maxLen at hc0
 refine zD (zB ?_)
 refine zA (zE rfl rfl ?_)
 refine zC (zD ?_)
 refine zB (zA ?_)
 refine wF sl188 rfl rfl rfl (fun b14 => ?_)
 refine zA (yM ze188 rfl (fun b5 => ?_))
 change RunOps _ _ _ _ _ _ _ _ (HA.blk _ [_] _ :: _) _
 refine zA (zR 0 (M' := [HA.blk _ [_] _, _]) rfl rfl rfl rfl si188 rfl rfl rfl ?_)
 refine zC (zD ?_)
 refine zD (zB ?_)
 refine sT (zA ?_)
 refine zH wN rfl rfl (zA ?_)
 refine zM 0 sc146 rfl rfl rfl rfl (zC ?_)
 refine zN (zD ?_)
 refine zB (zA ?_)
 refine zX rfl rfl rfl (zA ?_)
 refine zE rfl rfl (zC ?_)
 refine yG rfl (decide_eq_true rfl) (zD ?_)
 refine zB (zA ?_)
 refine zE rfl rfl (zC ?_)
 refine kE [(6, _), (5, _), (1, _)] rfl (zN ?_)
 refine kE [(6, _), (5, _), (1, _)] rfl (xI (.dep [] ((ps.take 0).map depF)) (fun w ok h => ⟨rfl, fun i q nb a => by simp at a⟩) ?_)
 refine xU 1 (fun (⟨i, A, ca, nbs⟩ : Nat × Option Addr × Nat × List Nat) => i ≤ ps.length) (fun (⟨i, A, ca, nbs⟩ : Nat × Option Addr × Nat × List Nat) => [(6, .int .i64 ((2 * i : Nat) : Int))]) (fun (⟨i, A, ca, nbs⟩ : Nat × Option Addr × Nat × List Nat) => HA.blk b5 [.slice A i ca] 188 :: HA.row A i ca 189 1 (nbs.map ptr) :: []) (fun (⟨i, A, ca, nbs⟩ : Nat × Option Addr × Nat × List Nat) => .dep nbs ((ps.take i).map depF) :: .dblk nb (ycells 4 tMap ⟨#[]⟩ A0 (2 * ps.length) cap0) 150 :: .kids (.slice A0 (2 * ps.length) cap0) ((ps.map (nodeP back)).flatMap prY) :: .node nb (.mk 4 tMap ⟨#[]⟩ ((ps.map (nodeP back)).flatMap prY)) :: []) (fun (⟨i, A, ca, nbs⟩ : Nat × Option Addr × Nat × List Nat) => ps.length - i) (0, _, _, []) (by show 0 ≤ _; omega) (eC rfl (eN _)) rfl rfl ?_ (eC rfl (eC rfl (eN _)))
 intro ⟨i, A, ca, nbs⟩ hI K hK
 replace hI : i ≤ ps.length := hI
 change Run _ _ _ _ _ [(6, .int .i64 ((2 * i : Nat) : Int)), (5, _), (1, _)] (HA.blk b5 [.slice A i ca] 188 :: HA.row A i ca 189 1 (nbs.map ptr) :: []) (.dep nbs ((ps.take i).map depF) :: .dblk nb (ycells 4 tMap ⟨#[]⟩ A0 (2 * ps.length) cap0) 150 :: .kids (.slice A0 (2 * ps.length) cap0) ((ps.map (nodeP back)).flatMap prY) :: .node nb (.mk 4 tMap ⟨#[]⟩ ((ps.map (nodeP back)).flatMap prY)) :: [])
 refine zD (zD ?_)
 refine zB (sT ?_)
 refine zA (zH wO rfl rfl ?_)
 refine zA (zM 1 sc148 rfl rfl rfl rfl ?_)
 refine zA (yU sl148 rfl rfl ?_)
 refine zA (xT rfl rfl rfl ?_)
 refine zC (zS rfl (fun h27 => ?_) (fun h27 => ?_))
 ·refine zJ (zD ?_)
  refine zN (zD ?_)
  refine zB (sT ?_)
  refine zA (zH wO rfl rfl ?_)
  refine zA (zM 1 sc148 rfl rfl rfl rfl ?_)
  refine zA (zF rfl rfl ?_)
  refine zA (wS (i := 2 * i) 2 sl148 rfl rfl rfl rfl (by omega) ?_)
  have hlt : i < ps.length := by omega
  obtain ⟨hk4, hkl, hk3⟩ := hk _ (List.getElem_mem hlt)
  have hnt := pL (back := back) hk4 hk3
  obtain ⟨tl, htl⟩ : ∃ tl, tl = ps[i].2.items.map V.text := ⟨_, rfl⟩
  rw [← htl] at hnt
  have htlen : tl.length ≤ 1000000 := by rw [htl, List.length_map]; exact hkl
  refine uC 2 (2 * i) rfl (fm_get0 hlt) (fun b1 => ?_)
  refine tT 1 rfl (fun A1 cap1 ht1 hv1 hl1 hc1 => ?_)
  refine zA (xO sc102 rfl rfl (fun _ h => uD h (j := 2) rfl) ?_)
  refine zA (zP rfl rfl ?_)
  refine zA (zH wU rfl rfl ?_)
  refine zA (zM 0 sc9 rfl rfl rfl rfl ?_)
  refine zA (zE rfl rfl ?_)
  refine zC (kE [(7, _), (6, _), (5, _), (1, _)] rfl ?_)
  refine zD (zB ?_)
  refine sT (zA ?_)
  refine zH wO rfl rfl (zA ?_)
  refine zM 5 sc148 rfl rfl rfl rfl (zA ?_)
  refine zF rfl rfl (zA ?_)
  refine xH rfl rfl (by omega) (zA ?_)
  refine wS (i := 2 * i + 1) 6 sl148 rfl rfl rfl rfl (by omega) ?_
  refine uC 6 (2 * i + 1) rfl (by rw [fm_get1 hlt, hnt]) (fun b2 => ?_)
  refine tT 1 rfl (fun A2 cap2 ht2 hv2 hl2 hc2 => ?_)
  rw [List.length_map]
  rw [List.length_map] at hl2
  unfold maxLen at hc2
  refine zA (xO sc102 rfl rfl (fun _ h => uD h (j := 2) rfl) ?_)
  refine zA (zE rfl rfl ?_)
  refine zC (zD ?_)
  refine zB (sT ?_)
  refine zA (zH wN rfl rfl ?_)
  refine zA (zM 0 sc146 rfl rfl rfl rfl ?_)
  refine zC (kE [(51, _), (8, _), (7, _), (6, _), (5, _), (1, _)] rfl ?_)
  refine zN (zD ?_)
  refine zB (zA ?_)
  refine zX rfl rfl rfl (zA ?_)
  refine zE rfl rfl (zC ?_)
  refine yG rfl (decide_eq_true rfl) (zD ?_)
  refine zB (zA ?_)
  refine wF sl22 rfl rfl rfl (fun b54 => ?_)
  refine zA (yM ze22 rfl (fun b9 => ?_))
  change RunOps _ _ _ _ _ _ _ _ (HA.blk _ [_] _ :: _) _
  refine zA (zR 0 (M' := [HA.blk _ [_] _, _, _, _]) rfl rfl rfl rfl si22 rfl rfl rfl ?_)
  refine zC (zD ?_)
  refine zD (zB ?_)
  refine sT (zA ?_)
  refine zH wO rfl rfl (zA ?_)
  refine zM 0 sc148 rfl rfl rfl rfl (zA ?_)
  refine yU sl148 rfl rfl (zA ?_)
  refine zF rfl rfl (zC ?_)
  refine kE [(60, _), (59, _), (58, _), (9, _), (7, _), (6, _), (5, _), (1, _)] rfl (zN ?_)
  refine kE [(60, _), (59, _), (58, _), (9, _), (7, _), (6, _), (5, _), (1, _)] rfl ?_
  refine run_loopM 1 (fun (⟨j, A3, c3, xs⟩ : Nat × Option Addr × Nat × List Value) => j ≤ tl.length ∧ xs = (tl.take j).map Value.string ∧ ∀ s ∈ tl.take j, s.size ≤ maxLen) (fun (⟨j, A3, c3, xs⟩ : Nat × Option Addr × Nat × List Value) => [(60, .int .i64 ((j : Nat) : Int))]) (fun (⟨j, A3, c3, xs⟩ : Nat × Option Addr × Nat × List Value) => HA.blk b9 [.slice A3 j c3] 22 :: HA.row A3 j c3 9 1 xs :: HA.blk b5 [.slice A i ca] 188 :: HA.row A i ca 189 1 (nbs.map ptr) :: []) (fun (⟨j, A3, c3, xs⟩ : Nat × Option Addr × Nat × List Value) => tl.length - j) (0, _, _, []) (⟨by show 0 ≤ _; omega, rfl, by simp⟩) (eC rfl (eN _)) rfl ?_ (eC rfl (eC rfl (eC rfl (eC rfl (eC rfl (eC rfl (eC rfl (eN _))))))))
  intro ⟨j, A3, c3, xs⟩ hI K hK1
  replace hI : j ≤ tl.length ∧ xs = (tl.take j).map Value.string ∧ ∀ s ∈ tl.take j, s.size ≤ maxLen := hI
  change Run _ _ _ _ _ [(60, .int .i64 ((j : Nat) : Int)), (59, _), (58, _), (9, _), (7, _), (6, _), (5, _), (1, _)] (HA.blk b9 [.slice A3 j c3] 22 :: HA.row A3 j c3 9 1 xs :: HA.blk b5 [.slice A i ca] 188 :: HA.row A i ca 189 1 (nbs.map ptr) :: []) (_)
  obtain ⟨hj, hxs, hsz⟩ := hI
  refine zD (zB ?_)
  refine zA (xT rfl rfl rfl ?_)
  refine zC (zD ?_)
  refine zS rfl (fun h61 => ?_) (fun h61 => ?_)
  ·refine zJ (zD ?_)
   refine zN (zD ?_)
   refine zB (zA ?_)
   refine wS 1 sl148 rfl rfl rfl rfl h61 (uC 1 j rfl (qR h61) (fun b3 => ?_))
   refine tT 1 rfl (fun A4 cap4 ht4 hv4 hl4 hc4 => ?_)
   refine zA (xO sc102 rfl rfl (fun _ h => uD h (j := 2) rfl) ?_)
   refine zA (zE rfl rfl ?_)
   refine zC (zD ?_)
   refine zB (sT ?_)
   refine zA (zH wN rfl rfl ?_)
   refine zA (zM 0 sc146 rfl rfl rfl rfl ?_)
   refine zC (kE [(67, _), (11, _), (60, _), (59, _), (58, _), (9, _), (7, _), (6, _), (5, _), (1, _)] rfl ?_)
   refine zN (zD ?_)
   refine zB (zA ?_)
   refine zX rfl rfl rfl (zA ?_)
   refine zE rfl rfl (zC ?_)
   refine yG rfl (decide_eq_true rfl) (xX xE ?_)
   refine yJ (tP 1 rfl wanted0 (yO rfl) ?_)
   refine tP 2 rfl wanted0 (wG rfl) (tP 3 rfl wanted0 (yN wU rfl) ?_)
   refine yZ (tM 0 rfl wanted0 (xW 0 sc22 rfl rfl rfl) ?_)
   refine tM 4 rfl wanted0 (tE 0 sc9 rfl rfl rfl) (yA 5 (by decide +kernel) ?_)
   refine yC (I2 := [[0], [], []]) rfl wanted0 (by decide +kernel) (fun Kd hKd => ?_)
   refine zZ sl22 rfl rfl rfl rfl rfl (fun b75 => ?_)
   refine hKd _ _ _ (hC (zL (zL (yD)))) (yA 6 (by decide +kernel) ?_)
   refine yC (I2 := [[], [], []]) rfl wanted0 (by decide +kernel) (fun Kd hKd => ?_)
   refine yL 2 0 sl22 rfl rfl rfl rfl rfl rfl rfl (by unfold maxLen; omega) (by omega) (fun A76 c76 => ?_)
   refine hKd _ _ _ (zL (zL (zL (yD)))) (yA 7 (by decide +kernel) ?_)
   refine yC (I2 := [[], [], []]) rfl wanted0 (by decide +kernel) (fun Kd hKd => ?_)
   refine zR 1 (M' := [_, HA.blk _ [_] _, _, _, _]) rfl rfl rfl rfl si22 rfl rfl rfl (hKd _ _ _ (zL (zL (zL (yD)))) ?_)
   refine xF (by decide +kernel) (kE [(60, _), (59, _), (58, _), (9, _), (7, _), (6, _), (5, _), (1, _)] rfl ?_)
   refine zQ (zQ ?_)
   refine zB (zA ?_)
   refine xH rfl rfl (by omega) (zA ?_)
   refine zF rfl rfl (zC ?_)
   exact kQ (hK1 (j + 1, _, _, xs ++ [.string (tl[j]'h61)]) (⟨by show j + 1 ≤ _; omega, by rw [hxs]; exact strs_step h61, szs_step h61 hsz hv4⟩) (by show tl.length - (j + 1) < tl.length - j; omega)) (eC rfl (eC rfl (eC rfl (eC rfl (eC rfl (eC rfl (eC rfl (eC rfl (eN _)))))))))
  refine yK rfl (zD ?_)
  refine zB (zA ?_)
  refine xR rfl rfl (bu194 ..) (zA ?_)
  refine xL rfl rfl rfl (fun b79 => ?_)
  refine zA (zE rfl rfl ?_)
  refine zC (zD ?_)
  refine zB (sT ?_)
  refine zA (zH fo194_1 rfl rfl ?_)
  refine zA (zR 0 (M' := [HA.blk _ [_, _] _, _, _, _, _]) rfl rfl rfl rfl si117 rfl rfl rfl ?_)
  refine zC (kE [(12, _), (7, _), (6, _), (5, _), (1, _)] rfl ?_)
  refine zD (zB ?_)
  refine sT (zA ?_)
  refine xR rfl rfl (bu192_0_1 ..) (zA ?_)
  refine xL rfl rfl rfl (fun b86 => ?_)
  refine zA (zE rfl rfl ?_)
  refine zC (zB ?_)
  refine zA (zT 4 sc188 rfl rfl rfl rfl ?_)
  refine zA (zF rfl rfl ?_)
  refine zA (zZ sl188 rfl rfl rfl rfl rfl (fun b89 => ?_))
  refine zA ?_
  refine yL 6 0 sl188 rfl rfl rfl rfl rfl rfl rfl (by unfold maxLen; omega) (by omega) (fun A90 c90 => ?_)
  refine zA (zR 5 (M' := [_, _, _, _, _, HA.blk _ [_] _, _]) rfl rfl rfl rfl si188 rfl rfl rfl ?_)
  refine zC (kE [(6, _), (5, _), (1, _)] rfl ?_)
  refine zQ (zQ ?_)
  refine zB (zA ?_)
  refine zF rfl rfl (zA ?_)
  refine yP (s := ((2 * (i + 1) : Nat) : Int)) rfl rfl rfl (by omega) (by omega) (by omega) (zA ?_)
  refine zE rfl rfl (zC ?_)
  obtain rfl : j = tl.length := by omega
  rw [List.take_length] at hxs hsz
  refine vM 4 tl rfl (by intro b h; cases h) hxs hsz (xY 3 rfl (by intro b h; cases h) ?_)
  refine xY 2 rfl (by intro b h; cases h) (xY 1 rfl (by intro b h; cases h) ?_)
  refine xI (.dep (nbs ++ [b86]) ((ps.take i).map depF ++ [depF ps[i]])) (fun w ok h => DepP.snoc (dget h 12 rfl) hv1 (dget h 0 rfl) (dget h 1 rfl) (uR (dget h 2 rfl) rfl) (by show StrsP w ok _ (ps[i].2.items.map V.text); rw [← htl]; exact dget h 3 rfl)) ?_
  rw [tD hlt, ptrs_snoc]
  exact kQ (hK (i + 1, _, _, nbs ++ [b86]) (by show i + 1 ≤ _; omega) (by show ps.length - (i + 1) < ps.length - i; omega)) (eC rfl (eC rfl (eC rfl (eN _)))) (hD := (subc 0 rfl sQ))
 refine yK rfl (zQ ?_)
 refine zD (zB ?_)
 refine zA (zE rfl rfl ?_)
 refine zC (kE [(4, _)] rfl ?_)
 obtain rfl : i = ps.length := by omega
 rw [List.take_length]
 refine qU 1 nbs rfl (by intro b h; cases h) rfl (xY 0 rfl (by intro b h; cases h) ?_)
 exact xI (.fv (ptr b5) (.deps (ps.map depF))) (fun w ok h => ⟨_, _, nbs, rfl, uR (dget h 0 rfl) rfl, dget h 1 rfl, (dget h 2 rfl : (DA.dep nbs (ps.map depF)).p w ok).1, (dget h 2 rfl : (DA.dep nbs (ps.map depF)).p w ok).2⟩) (zI Tryz.results142 rfl ⟨rfl, _, rfl, rfl⟩ nS (sub1 0 rfl))
end Go.Jw

namespace Go.Jw
open Go Go.RowKit Go.Proofs
set_option maxRecDepth 8000
theorem Ct.frame {P : Program} {f : FuncId} {args : Array Value} {M N : List HA} {D : List DA} {R : Value → List HA → List DA → Prop} (h : Ct P f args M D R) : Ct P f args (M ++ N) D (fun u M' D' => ∃ M1, M' = M1 ++ N ∧ R u M1 D') := by
 refine ⟨h.1, fun w ok hok hM hn hD => ?_⟩
 rw [xD] at hn
 have hn1 := List.nodup_append.1 hn
 have hltN : ∀ b ∈ foots N, b < w.heap.size := fun b hb => by
  obtain ⟨x, hx, hb⟩ := tO.1 hb
  exact HA.foot_lt (hM x (List.mem_append_right _ hx)) b hb
 refine Calls.mono (h.2 w ok (fun k hk => ⟨(hok k hk).1, fun h' => (hok k hk).2 (by rw [xD]; exact List.mem_append_left _ h')⟩) (fun x hx => hM x (List.mem_append_left _ hx)) hn1.1 hD) ?_
 rintro e w' ⟨v, M', D', rfl, hR, hchg, hm, hnd, hft, hdat⟩
 refine ⟨v, M' ++ N, D', rfl, ⟨M', rfl, hR⟩, hchg.mono (fun k _ hk => by rw [xD]; exact List.mem_append_left _ hk), ?_, ?_, ?_, ?_⟩
 ·intro x hx
  rcases List.mem_append.1 hx with hx | hx
  ·exact hm x hx
  ·have hx0 := hM x (List.mem_append_right _ hx)
   exact HA.move hx0 fun b hb => hchg.block b (HA.foot_lt hx0 b hb) (fun h' => hn1.2.2 b h' b (tO.2 ⟨x, hx, hb⟩) rfl)
 ·rw [xD]
  refine List.nodup_append.2 ⟨hnd, hn1.2.1, ?_⟩
  intro p hp q hq he
  subst he
  rcases hft p hp with h1 | h1
  ·exact hn1.2.2 p h1 p hq rfl
  ·exact absurd (hltN p hq) (by omega)
 ·intro b hb
  rw [xD] at hb ⊢
  rcases List.mem_append.1 hb with hb | hb
  ·exact (hft b hb).elim (fun h1 => .inl (List.mem_append_left _ h1)) .inr
  ·exact .inl (List.mem_append_right _ hb)
 ·intro x hx
  refine x.mono (fun k hk => ⟨hk.1, hk.2.1, ?_⟩) (fun _ _ => rfl) (hdat x hx)
  rw [xD, List.mem_append, not_or]
  refine ⟨hk.2.2, fun h' => ?_⟩
  rcases hk.1 with h1 | h1
  ·exact (hok k h1).2 (by rw [xD]; exact List.mem_append_right _ h')
  ·exact absurd (hltN k h') (by omega)
def RB (mb : Nat) (es : Array MapEntry) (clock sb : Nat) (cs : List Value) (sh : Int) (x : V) (u : Value) (M' : List HA) (D' : List DA) : Prop :=
 ∃ p fv G es' clock', u = .pointer (some p) ∧ M' = [.blk sb cs 124, .many 124 (Gr.blks G), .obj mb (.map es' clock')] ∧ D' = [.fv u fv, .graph mb G] ∧ FvRel (fun b z => Unf G z b) sh x fv ∧ MapOk es' ∧ ((∀ z ∈ kidsOf sh x, NoId z) → es' = es ∧ clock' = clock)
def BC (ft : DA) (back : Bool) (f : FuncId) (sh : Int) (x : V) : Prop := ∀ sb nb mb cs es clock, cs[0]? = some (.map (some mb)) → MapOk es → Ct Tryz.prog f #[ptr sb, ptr nb] [.blk sb cs 124, .obj mb (.map es clock)] [.node nb (nodeV back x), ft] (RB mb es clock sb cs sh x)
theorem Ct.data {P : Program} {f : FuncId} {args : Array Value} {M : List HA} {D D2 : List DA} {R : Value → List HA → List DA → Prop} (h : Ct P f args M D R) (hs : ∀ d ∈ D, d ∈ D2) : Ct P f args M D2 R :=
 ⟨h.1, fun w ok hok hM hn hD => h.2 w ok hok hM hn (fun d hd => hD d (hs d hd))⟩
theorem bc_lift {ft : DA} {back : Bool} {f : FuncId} {sh : Int} {x : V} (h : ∀ sb nb, CtR Tryz.prog f #[ptr sb, ptr nb] [.node nb (nodeV back x), ft] (fun u D' => ∃ p fv, u = .pointer (some p) ∧ D' = [.fv u fv] ∧ FvRel (fun _ _ => False) sh x fv)) : BC ft back f sh x := by
 intro sb nb mb cs es clock hcs hes
 have hfr : Ct Tryz.prog f #[ptr sb, ptr nb] ([] ++ [.blk sb cs 124, .obj mb (.map es clock)]) [.node nb (nodeV back x), ft] _ := Ct.frame (N := [.blk sb cs 124, .obj mb (.map es clock)]) (h sb nb)
 refine ⟨hfr.1, fun w ok hok hM hn hD => Calls.mono (hfr.2 w ok hok hM hn hD) ?_⟩
 rintro e w' ⟨v, M', D', rfl, ⟨M1, rfl, rfl, p, fv, rfl, rfl, hrel⟩, hchg, hm, hn', hft, hd⟩
 refine ⟨_, [.blk sb cs 124, .many 124 (Gr.blks []), .obj mb (.map es clock)], [.fv (.pointer (some p)) fv, .graph mb []], rfl, ⟨p, fv, [], es, clock, rfl, rfl, rfl, hrel.mono (fun _ _ _ h => h.elim), hes, fun _ => ⟨rfl, rfl⟩⟩, hchg, ?_, ?_, ?_, ?_⟩
 ·intro y hy
  simp only [List.mem_cons, List.not_mem_nil, or_false] at hy
  rcases hy with rfl | rfl | rfl
  ·exact hm _ (by simp)
  ·intro g hg; cases hg
  ·exact hm _ (by simp)
 ·simpa [foots, HA.foot, Gr.blks] using hn'
 ·intro b hb; exact hft b (by simpa [foots, HA.foot, Gr.blks] using hb)
 ·intro y hy
  simp only [List.mem_cons, List.not_mem_nil, or_false] at hy
  rcases hy with rfl | rfl
  ·exact (hd _ List.mem_cons_self : _) |> DA.mono _ (fun k hk => ⟨hk.1, hk.2.1, by simpa [foots, HA.foot, Gr.blks] using hk.2.2⟩) (fun _ _ => rfl)
  ·intro g hg; cases hg
theorem CtR.mono {P : Program} {f : FuncId} {args : Array Value} {D : List DA} {R R' : Value → List DA → Prop} (h : CtR P f args D R) (hr : ∀ u D', R u D' → R' u D') : CtR P f args D R' :=
 ⟨h.1, fun w ok hok hM hn hD => Calls.mono (h.2 w ok hok hM hn hD) (by
  rintro e w' ⟨v, M', D', rfl, ⟨h1, h2⟩, rest⟩
  exact ⟨v, M', D', rfl, ⟨h1, hr _ _ h2⟩, rest⟩)⟩
theorem Ct.mono {P : Program} {f : FuncId} {args : Array Value} {M : List HA} {D : List DA} {R R' : Value → List HA → List DA → Prop} (h : Ct P f args M D R) (hr : ∀ u M' D', R u M' D' → R' u M' D') : Ct P f args M D R' :=
 ⟨h.1, fun w ok hok hM hn hD => Calls.mono (h.2 w ok hok hM hn hD) (by
  rintro e w' ⟨v, M', D', rfl, h2, rest⟩
  exact ⟨v, M', D', rfl, hr _ _ _ h2, rest⟩)⟩
theorem nodeV_str {back : Bool} {x : V} (h : x.kind = 3) : nodeV back x = scal tStr x.text := by rw [vS]; simp [h]
theorem nodeV_bool {back : Bool} {x : V} (h : x.kind = 1) : nodeV back x = scal tBool (fbB (decide (x.num = 1))) := by rw [vS]; simp [h]
theorem uH {f : FuncId} {sh : Int} {x : V} {back : Bool} {ft : DA} {fv : FVal} {y : Y} (hy : nodeV back x = y) (h : ∀ sp nb, CtR Tryz.prog f #[sp, ptr nb] [.node nb y] (RF fv)) (hr : FvRel (fun _ _ => False) sh x fv) : BC ft back f sh x :=
 bc_lift fun sb nb => by
  have h1 : CtR Tryz.prog f #[ptr sb, ptr nb] [.node nb y, ft] (RF fv) := Ct.data (h (ptr sb) nb) (fun d hd => by rw [List.mem_singleton.1 hd]; exact List.mem_cons_self)
  rw [hy]
  exact h1.mono (by rintro u D' ⟨p, rfl, rfl⟩; exact ⟨p, fv, rfl, rfl, hr⟩)
theorem bc1 {ft : DA} {back : Bool} {x : V} (h : x.kind = 3) : BC ft back 134 1 x := uH (nodeV_str h) (fun sp nb => c134 sp nb _ _) ⟨rfl, rfl⟩
theorem bc2 {ft : DA} {back : Bool} {x : V} (h : x.kind = 1) : BC ft back 136 2 x := uH (nodeV_bool h) (fun sp nb => c136 sp nb _) ⟨rfl, rfl⟩
theorem bc8 {ft : DA} {back : Bool} {x : V} (h : x.kind = 4) (hl : x.items.length ≤ 1000000) (h3 : ∀ y ∈ x.items, y.kind = 3) : BC ft back 140 8 x := uH (pL h h3) (fun sp nb => c140 sp nb _ (by simpa using hl)) ⟨rfl, rfl⟩
theorem bc12s {ft : DA} {back : Bool} {x : V} (h : x.kind = 3) : BC ft back 144 12 x := uH (nodeV_str h) (fun sp nb => c144s sp nb _ _) ⟨rfl, h, rfl⟩
theorem bc12l {ft : DA} {back : Bool} {x : V} (h : x.kind = 4) (hl : x.items.length ≤ 1000000) (h3 : ∀ y ∈ x.items, y.kind = 3) : BC ft back 144 12 x := uH (pL h h3) (fun sp nb => c144l sp nb _ (by simpa using hl)) ⟨rfl, h, rfl⟩
theorem nodeV_enums {back : Bool} {v : V} (h : v.kind = 4) (h3 : ∀ y ∈ v.items, y.kind = 3 ∨ y.kind = 1) : nodeV back v = .mk 2 tSeq ⟨#[]⟩ ((v.items.map evOf).map evY) := by
 rw [qT h]
 congr 1
 rw [List.map_map]
 refine List.map_congr_left fun y hy => ?_
 simp only [Function.comp]
 unfold evOf
 rcases h3 y hy with h1 | h1
 ·rw [if_pos h1, nodeV_str h1]; rfl
 ·rw [if_neg (by omega), nodeV_bool h1]; rfl
theorem bc11 {ft : DA} {back : Bool} {x : V} (h : x.kind = 4) (hl : x.items.length ≤ 1000000) (h3 : ∀ y ∈ x.items, y.kind = 3 ∨ y.kind = 1) : BC ft back 143 11 x := uH (nodeV_enums h h3) (fun sp nb => c143 sp nb _ (by simpa using hl)) ⟨rfl, rfl⟩
theorem tY (back : Bool) (v : V) : (prs back v).Perm (v.keys.zip v.items) := by
 unfold prs
 split
 ·exact List.reverse_perm _
 ·exact .refl _
theorem prs_item {back : Bool} {v : V} {p : ByteArray × V} (h : p ∈ prs back v) : p.2 ∈ v.items := (List.of_mem_zip ((tY back v).mem_iff.1 h)).2
theorem prs_len (back : Bool) (v : V) : (prs back v).length ≤ v.keys.length := by rw [(tY back v).length_eq, List.length_zip]; omega
theorem bc10 {ft : DA} {back : Bool} {x : V} (h : x.kind = 5) (hl : x.keys.length ≤ 1000000) (h3 : ∀ y ∈ x.items, y.kind = 4 ∧ y.items.length ≤ 1000000 ∧ ∀ z ∈ y.items, z.kind = 3) : BC ft back 142 10 x :=
 uH (nodeV_map h) (fun sp nb => c142 sp nb back (prs back x) (Nat.le_trans (prs_len back x) hl) (fun p hp => h3 _ (prs_item hp))) ⟨rfl, prs back x, tY back x, rfl⟩
theorem bc6b {ft : DA} {back : Bool} {x : V} (h : x.kind = 1) : BC ft back 138 6 x := uH (nodeV_bool h) (fun sp nb => c138b sp nb _) ⟨rfl, h, rfl⟩
theorem kids6 {x : V} (h : x.kind = 5) : kidsOf 6 x = [x] := by simp [kidsOf, h]
theorem kids7 {x : V} (h : x.kind = 5) : kidsOf 7 x = [x] := by simp [kidsOf, h]
theorem kids7l {x : V} (h : x.kind = 4) (h5 : ∀ y ∈ x.items, y.kind = 5) : kidsOf 7 x = x.items := by
 simp only [kidsOf, h]
 simp
 exact h5
theorem kids9 {x : V} (h5 : ∀ y ∈ x.items, y.kind = 5) : kidsOf 9 x = x.items := by simp [kidsOf]; exact h5
theorem kids13 {x : V} (h5 : ∀ y ∈ x.items, y.kind = 5) : kidsOf 13 x = x.items := by simp [kidsOf]; exact h5
theorem bc6s {ft : DA} {back : Bool} {x : V} (h : x.kind = 5) (H : ∀ mb, C103 ft mb back x) : BC ft back 138 6 x := by
 intro sb nb mb cs es clock hcs hes
 refine (c138s ft sb nb mb cs back x h hcs (H mb) es clock hes).mono ?_
 rintro u M' D' ⟨p, G, es', ck', b, rfl, rfl, rfl, hU, hO, hN⟩
 exact ⟨p, _, G, es', ck', rfl, rfl, rfl, ⟨rfl, h, hU⟩, hO, fun hz => hN (hz x (by rw [kids6 h]; simp))⟩
theorem bc7s {ft : DA} {back : Bool} {x : V} (h : x.kind = 5) (H : ∀ mb, C103 ft mb back x) : BC ft back 139 7 x := by
 intro sb nb mb cs es clock hcs hes
 refine (c139s ft sb nb mb cs back x h hcs (H mb) es clock hes).mono ?_
 rintro u M' D' ⟨p, G, es', ck', b, rfl, rfl, rfl, hU, hO, hN⟩
 exact ⟨p, _, G, es', ck', rfl, rfl, rfl, ⟨rfl, h, hU⟩, hO, fun hz => hN (hz x (by rw [kids7 h]; simp))⟩
theorem bc7l {ft : DA} {back : Bool} {x : V} (h : x.kind = 4) (hl : x.items.length ≤ 1000000) (h5 : ∀ y ∈ x.items, y.kind = 5) (H : ∀ y ∈ x.items, ∀ mb, C103 ft mb back y) : BC ft back 139 7 x := by
 intro sb nb mb cs es clock hcs hes
 rw [qT h]
 refine (c139l ft sb nb mb cs back x.items hl h5 hcs (fun y hy => H y hy mb) es clock hes).mono ?_
 rintro u M' D' ⟨p, G, es', ck', b, rfl, rfl, rfl, hU, hO, hN⟩
 exact ⟨p, _, G, es', ck', rfl, rfl, rfl, ⟨rfl, h, hU⟩, hO, fun hz => hN (by rwa [kids7l h h5] at hz)⟩
theorem bc13 {ft : DA} {back : Bool} {x : V} (h : x.kind = 4) (hl : x.items.length ≤ 1000000) (h5 : ∀ y ∈ x.items, y.kind = 5) (H : ∀ y ∈ x.items, ∀ mb, C103 ft mb back y) : BC ft back 145 13 x := by
 intro sb nb mb cs es clock hcs hes
 rw [qT h]
 refine (c145 ft sb nb mb cs back x.items hl h5 hcs (fun y hy => H y hy mb) es clock hes).mono ?_
 rintro u M' D' ⟨p, G, es', ck', b, rfl, rfl, rfl, hU, hO, hN⟩
 exact ⟨p, _, G, es', ck', rfl, rfl, rfl, ⟨rfl, hU⟩, hO, fun hz => hN (by rwa [kids13 h5] at hz)⟩
theorem bc9 {ft : DA} {back : Bool} {x : V} (h : x.kind = 5) (hl : x.keys.length ≤ 1000000) (h5 : ∀ y ∈ x.items, y.kind = 5) (H : ∀ y ∈ x.items, ∀ mb, C103 ft mb back y) : BC ft back 141 9 x := by
 intro sb nb mb cs es clock hcs hes
 rw [nodeV_map h]
 refine (c141 ft sb nb mb cs back (prs back x) (Nat.le_trans (prs_len back x) hl) hcs (fun p hp => H _ (prs_item hp) mb) es clock hes).mono ?_
 rintro u M' D' ⟨p, G, es', ck', l, rfl, rfl, rfl, hU, hO, hN⟩
 exact ⟨p, _, G, es', ck', rfl, rfl, rfl, ⟨rfl, _, tY back x, hU⟩, hO, fun hz => hN (fun p hp => hz _ (by rw [kids9 h5]; exact prs_item hp))⟩
end Go.Jw

namespace Go.Jw
open Go Go.RowKit
section rules
variable {P : Program} {n : Nat} {F : List Nat} {c : Ctx F} {ops : Array Oper} {d : Nat} {T : TypeId} {l : List Oper} {k : List KI} {Q : Post} {e : Env} {M : List HA} {D : List DA}
theorem yF {x : Operand} {p : Option Addr} {S S' : TypeId} (hS : P.underlying S = some (.pointer (P.pointee S))) (hd : Nat.blt d n = true) (hx : ev e x = some (.pointer p)) (next : RunOps P n c ops l k Q ((d, .bool p.isSome) :: e) M D) :
  RunOp P n c ops (some d) (.binOp .neq S x (.const (.pointer none)) S') T l k Q e M D :=
 wH hd (fun a w hf => by
  have h1 := run_neq_pointer_nil (P := P) (w := w) S p hS
  have h2 : a.eval (.const (.pointer none)) = .pointer none := rfl
  cases p <;> simp_all [execOp, opr, hf.ev hx, pC]) next
theorem rB {x : Operand} {p : Option Addr} {S S' : TypeId} (hS : P.underlying S = some (.pointer (P.pointee S))) (hd : Nat.blt d n = true) (hx : ev e x = some (.pointer p)) (next : RunOps P n c ops l k Q ((d, .bool p.isNone) :: e) M D) :
  RunOp P n c ops (some d) (.binOp .eql S x (.const (.pointer none)) S') T l k Q e M D :=
 wH hd (fun a w hf => by
  have h1 := run_eql_pointer_nil (P := P) (w := w) S p hS
  have h2 : a.eval (.const (.pointer none)) = .pointer none := rfl
  cases p <;> simp_all [execOp, opr, hf.ev hx, pC]) next
theorem op_eqlNilM {x : Operand} {r : Option Nat} {S S' kt et : TypeId} (hS : P.underlying S = some (.map kt et)) (hd : Nat.blt d n = true) (hx : ev e x = some (.map r)) (next : RunOps P n c ops l k Q ((d, .bool r.isNone) :: e) M D) :
  RunOp P n c ops (some d) (.binOp .eql S x (.const (.map none)) S') T l k Q e M D :=
 wH hd (fun a w hf => by
  have h1 := run_eql_map_nil (P := P) w S kt et r hS
  have h2 : a.eval (.const (.map none)) = .map none := rfl
  have h3 : (eqGuard .eql S x (.const (.map none)) (.map r) (.map none)).run P w = .ok () w := by simp [eqGuard]
  cases r <;> simp_all [execOp, opr, hf.ev hx]) next
end rules
end Go.Jw

