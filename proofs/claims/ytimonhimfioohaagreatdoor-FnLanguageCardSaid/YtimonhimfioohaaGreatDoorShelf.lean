/-
  DERIVED: THE SHELF's CONTRACTS AT THIS DUMP, IN PLAIN WORDS (tools/lay-plain.mjs out of 'TryzShelf.lean', which tools/lay-shelf.mjs wrote): THE SAME DECLARATIONS UNDER THE SAME NAMES: 'import', 'namespace', 'open', 'def', 'theorem' AND NOTHING ELSE: no command of the shelf's: FOR A HAND-IN. Each laying: the table of numbers ('.._ren') and one theorem, a field a fact of the dump's own or the kernel's comparison; each contract: ONE APPLICATION.
-/
import Derived.Shelf.Strconv.Atoi
import Derived.Shelf.Strconv.Itoa0
import Derived.Shelf.Strconv.Itoa1
import Derived.Shelf.LaysM
import Derived.Shelf.Strconv.Itoa2
import Derived.Shelf.Strconv.Itoa3
import Derived.Shelf.Strconv.AtoiErrFast
import Derived.Shelf.Strconv.ParseIntEmpty
import Derived.Shelf.Strconv.AtoiFail
import Derived.Shelf.Strconv.Clone
import Derived.Shelf.Strconv.SyntaxError
import Derived.Shelf.LaysC
import Derived.Shelf.Strconv.ToError
import Derived.Shelf.Strconv.Lower
import Derived.Shelf.Strconv.ParseUint10
import Derived.Shelf.Strconv.ParseUint10Empty
import Derived.Shelf.Strconv.ParseUint10Any
import Derived.Shelf.Strconv.ParseInt10
import Derived.Shelf.Strconv.AtoiLong
import Derived.Shelf.Strconv.AtoiInnerAll
import Derived.Shelf.Strconv.RangeError
import Derived.Shelf.Strconv.ToErrorRange
import Derived.Shelf.Strconv.AtoiAll
import Derived.Shelf.Strconv.ParseUintEmpty
import Derived.Shelf.Strconv.ParseUint10b64
import Derived.Shelf.Strconv.ParseUint10b32
import Derived.Shelf.Strconv.ParseUint10b16
import Derived.Shelf.Strconv.ParseUint10b8
import Derived.Shelf.Strconv.ParseUint10At
import Derived.Shelf.Strconv.ParseInt10At64
import Derived.Shelf.Strconv.ParseInt10At32
import Derived.Shelf.Strconv.ParseInt10At16
import Derived.Shelf.Strconv.ParseInt10At8
import Derived.Shelf.Strconv.ParseInt10All
import Derived.Shelf.Strconv.ParseIntPublic10
import Derived.Ground.MpProg
import Derived.Shelf.Pu.ParseUintPublic10
import Derived.Shelf.Strings.Prefix
import Derived.Shelf.Strings.Fields
import Derived.Shelf.Unicode.Latin
import Derived.Shelf.Unicode.Is16White
import Derived.Shelf.Unicode.IsSpaceAny
import Derived.Shelf.Unicode.Is16WhiteD
import Derived.Shelf.Unicode.IsSpaceAnyD
import Derived.Shelf.Strings.FieldsAny
import Derived.Shelf.Strings.FieldsFuncAny
import Derived.Shelf.Unicode.Is16Any
import Derived.Shelf.Unicode.Is32Any
import Derived.Shelf.Unicode.ExclAny
import Derived.Shelf.Slices.Turned
import Derived.Ground.Names2Prog
import Derived.Shelf.Slices.Clone
import Derived.Test.YtimonhimfioohaaGreatDoorProg
namespace Go.Proofs
open Go.Shelf
def Tryz.lays244_ren : Go.Shelf.Ren := ⟨fun | 244 => 153 | 247 => 144 | 287 => 157 | 321 => 180 | 322 => 181 | n => n, fun | 9 => 9 | 3 => 3 | 75 => 111 | 4 => 4 | 5 => 5 | 167 => 292 | 37 => 143 | 0 => 0 | 85 => 117 | 2 => 2 | 53 => 25 | 175 => 263 | 46 => 293 | 21 => 21 | 80 => 138 | n => n, fun | n => n⟩
theorem Tryz.lays244 : Go.Proofs.Lays.n244 Tryz.prog Tryz.lays244_ren := {
  mixed := by kernel_rfl
  f244 := Tryz.func153.trans (congrArg some (by kernel_rfl))
  f247 := Tryz.func144.trans (congrArg some (by kernel_rfl))
  f287 := Tryz.func157.trans (congrArg some (by kernel_rfl))
  f321 := Tryz.func180.trans (congrArg some (by kernel_rfl))
  f322 := Tryz.func181.trans (congrArg some (by kernel_rfl))
  t0 := Tryz.underlying0
  a0 := Tryz.isAgg0
  z0 := Tryz.sizeOf0
  v0 := Tryz.zeroValue0
  t2 := Tryz.underlying2
  a2 := Tryz.isAgg2
  z2 := Tryz.sizeOf2
  v2 := Tryz.zeroValue2
  t3 := Tryz.underlying3
  a3 := Tryz.isAgg3
  z3 := Tryz.sizeOf3
  v3 := Tryz.zeroValue3
  t4 := Tryz.underlying4
  a4 := Tryz.isAgg4
  z4 := Tryz.sizeOf4
  v4 := Tryz.zeroValue4
  t5 := Tryz.underlying5
  a5 := Tryz.isAgg5
  z5 := Tryz.sizeOf5
  v5 := Tryz.zeroValue5
  t9 := Tryz.underlying9
  a9 := Tryz.isAgg9
  z9 := Tryz.sizeOf9
  v9 := Tryz.zeroValue9
  t21 := Tryz.underlying21
  a21 := Tryz.isAgg21
  z21 := Tryz.sizeOf21
  v21 := Tryz.zeroValue21
  t37 := Tryz.underlying143
  a37 := Tryz.isAgg143
  z37 := Tryz.sizeOf143
  v37 := Tryz.zeroValue143
  t46 := Tryz.underlying293
  a46 := Tryz.isAgg293
  z46 := Tryz.sizeOf293
  v46 := Tryz.zeroValue293
  t53 := Tryz.underlying25
  a53 := Tryz.isAgg25
  z53 := Tryz.sizeOf25
  v53 := Tryz.zeroValue25
  t75 := Tryz.underlying111
  a75 := Tryz.isAgg111
  z75 := Tryz.sizeOf111
  v75 := Tryz.zeroValue111
  t85 := Tryz.underlying117
  a85 := Tryz.isAgg117
  z85 := Tryz.sizeOf117
  v85 := Tryz.zeroValue117
  t167 := Tryz.underlying292
  a167 := Tryz.isAgg292
  z167 := Tryz.sizeOf292
  v167 := Tryz.zeroValue292
  t175 := Tryz.underlying263
  a175 := Tryz.isAgg263
  z175 := Tryz.sizeOf263
  v175 := Tryz.zeroValue263 }
open Go.RowKit in
/-- internal/strconv.Atoi, at a decimal numeral of at most 18 bytes: ITS VALUE, AND NO ERROR. The world behind the call: the one new row that '[]byte(s)' lays. (LAID: no walk: one application.) -/
theorem Tryz.internal_strconv_Atoi (s : ByteArray) (n : Int) (hl : s.size ≤ 18) (h : Lib.atoi s.data.toList = some n) (w : World) :
    Calls Tryz.prog 153 #[.string s] w fun e w' => e = .returned (.tuple #[.int .i64 n, .nilIface]) ∧ ∃ t, w' = Lib.bytesWorld w 5 t := Any.internal_strconv_Atoi Tryz.lays244 s n hl h w
def Tryz.lays172_ren : Go.Shelf.Ren := ⟨fun | 172 => 131 | 244 => 153 | 245 => 145 | 247 => 144 | 279 => 166 | 280 => 167 | 281 => 168 | 282 => 169 | 287 => 157 | 316 => 189 | 171 => 117 | 205 => 190 | 321 => 180 | 322 => 181 | 243 => 140 | 246 => 164 | 283 => 159 | 284 => 160 | 285 => 161 | 286 => 162 | 129 => 183 | 317 => 182 | 318 => 184 | 319 => 185 | 320 => 186 | 337 => 195 | 338 => 196 | n => n, fun | 9 => 9 | 3 => 3 | 75 => 111 | 76 => 115 | 4 => 4 | 5 => 5 | 167 => 292 | 37 => 143 | 0 => 0 | 85 => 117 | 2 => 2 | 168 => 294 | 53 => 25 | 175 => 263 | 46 => 293 | 210 => 324 | 127 => 341 | 145 => 344 | 143 => 342 | 21 => 21 | 171 => 280 | 173 => 283 | 212 => 309 | 51 => 67 | 20 => 20 | 213 => 310 | 232 => 345 | 233 => 346 | 80 => 138 | n => n, fun | 15 => 9 | 16 => 10 | 17 => 8 | 18 => 13 | 19 => 14 | n => n⟩
theorem Tryz.lays172 : Go.Proofs.Lays.n172 Tryz.prog Tryz.lays172_ren := {
  mixed := by kernel_rfl
  f129 := Tryz.func183.trans (congrArg some (by kernel_rfl))
  f171 := Tryz.func117.trans (congrArg some (by kernel_rfl))
  f172 := Tryz.func131.trans (congrArg some (by kernel_rfl))
  f205 := Tryz.func190.trans (congrArg some (by kernel_rfl))
  f243 := Tryz.func140.trans (congrArg some (by kernel_rfl))
  f244 := Tryz.func153.trans (congrArg some (by kernel_rfl))
  f245 := Tryz.func145.trans (congrArg some (by kernel_rfl))
  f246 := Tryz.func164.trans (congrArg some (by kernel_rfl))
  f247 := Tryz.func144.trans (congrArg some (by kernel_rfl))
  f279 := Tryz.func166.trans (congrArg some (by kernel_rfl))
  f280 := Tryz.func167.trans (congrArg some (by kernel_rfl))
  f281 := Tryz.func168.trans (congrArg some (by kernel_rfl))
  f282 := Tryz.func169.trans (congrArg some (by kernel_rfl))
  f283 := Tryz.func159.trans (congrArg some (by kernel_rfl))
  f284 := Tryz.func160.trans (congrArg some (by kernel_rfl))
  f285 := Tryz.func161.trans (congrArg some (by kernel_rfl))
  f286 := Tryz.func162.trans (congrArg some (by kernel_rfl))
  f287 := Tryz.func157.trans (congrArg some (by kernel_rfl))
  f316 := Tryz.func189.trans (congrArg some (by kernel_rfl))
  f317 := Tryz.func182.trans (congrArg some (by kernel_rfl))
  f318 := Tryz.func184.trans (congrArg some (by kernel_rfl))
  f319 := Tryz.func185.trans (congrArg some (by kernel_rfl))
  f320 := Tryz.func186.trans (congrArg some (by kernel_rfl))
  f321 := Tryz.func180.trans (congrArg some (by kernel_rfl))
  f322 := Tryz.func181.trans (congrArg some (by kernel_rfl))
  f337 := Tryz.func195.trans (congrArg some (by kernel_rfl))
  f338 := Tryz.func196.trans (congrArg some (by kernel_rfl))
  t0 := Tryz.underlying0
  a0 := Tryz.isAgg0
  z0 := Tryz.sizeOf0
  v0 := Tryz.zeroValue0
  t2 := Tryz.underlying2
  a2 := Tryz.isAgg2
  z2 := Tryz.sizeOf2
  v2 := Tryz.zeroValue2
  t3 := Tryz.underlying3
  a3 := Tryz.isAgg3
  z3 := Tryz.sizeOf3
  v3 := Tryz.zeroValue3
  t4 := Tryz.underlying4
  a4 := Tryz.isAgg4
  z4 := Tryz.sizeOf4
  v4 := Tryz.zeroValue4
  t5 := Tryz.underlying5
  a5 := Tryz.isAgg5
  z5 := Tryz.sizeOf5
  v5 := Tryz.zeroValue5
  t9 := Tryz.underlying9
  a9 := Tryz.isAgg9
  z9 := Tryz.sizeOf9
  v9 := Tryz.zeroValue9
  t20 := Tryz.underlying20
  a20 := Tryz.isAgg20
  z20 := Tryz.sizeOf20
  v20 := Tryz.zeroValue20
  t21 := Tryz.underlying21
  a21 := Tryz.isAgg21
  z21 := Tryz.sizeOf21
  v21 := Tryz.zeroValue21
  t37 := Tryz.underlying143
  a37 := Tryz.isAgg143
  z37 := Tryz.sizeOf143
  v37 := Tryz.zeroValue143
  t46 := Tryz.underlying293
  a46 := Tryz.isAgg293
  z46 := Tryz.sizeOf293
  v46 := Tryz.zeroValue293
  t51 := Tryz.underlying67
  a51 := Tryz.isAgg67
  z51 := Tryz.sizeOf67
  v51 := Tryz.zeroValue67
  t53 := Tryz.underlying25
  a53 := Tryz.isAgg25
  z53 := Tryz.sizeOf25
  v53 := Tryz.zeroValue25
  t75 := Tryz.underlying111
  a75 := Tryz.isAgg111
  z75 := Tryz.sizeOf111
  v75 := Tryz.zeroValue111
  t76 := Tryz.underlying115
  a76 := Tryz.isAgg115
  z76 := Tryz.sizeOf115
  v76 := Tryz.zeroValue115
  t85 := Tryz.underlying117
  a85 := Tryz.isAgg117
  z85 := Tryz.sizeOf117
  v85 := Tryz.zeroValue117
  t127 := Tryz.underlying341
  a127 := Tryz.isAgg341
  z127 := Tryz.sizeOf341
  v127 := Tryz.zeroValue341
  t143 := Tryz.underlying342
  a143 := Tryz.isAgg342
  z143 := Tryz.sizeOf342
  v143 := Tryz.zeroValue342
  t145 := Tryz.underlying344
  a145 := Tryz.isAgg344
  z145 := Tryz.sizeOf344
  v145 := Tryz.zeroValue344
  t167 := Tryz.underlying292
  a167 := Tryz.isAgg292
  z167 := Tryz.sizeOf292
  v167 := Tryz.zeroValue292
  t168 := Tryz.underlying294
  a168 := Tryz.isAgg294
  z168 := Tryz.sizeOf294
  v168 := Tryz.zeroValue294
  t171 := Tryz.underlying280
  a171 := Tryz.isAgg280
  z171 := Tryz.sizeOf280
  v171 := Tryz.zeroValue280
  t173 := Tryz.underlying283
  a173 := Tryz.isAgg283
  z173 := Tryz.sizeOf283
  v173 := Tryz.zeroValue283
  t175 := Tryz.underlying263
  a175 := Tryz.isAgg263
  z175 := Tryz.sizeOf263
  v175 := Tryz.zeroValue263
  t210 := Tryz.underlying324
  a210 := Tryz.isAgg324
  z210 := Tryz.sizeOf324
  v210 := Tryz.zeroValue324
  t212 := Tryz.underlying309
  a212 := Tryz.isAgg309
  z212 := Tryz.sizeOf309
  v212 := Tryz.zeroValue309
  t213 := Tryz.underlying310
  a213 := Tryz.isAgg310
  z213 := Tryz.sizeOf310
  t232 := Tryz.underlying345
  a232 := Tryz.isAgg345
  z232 := Tryz.sizeOf345
  v232 := Tryz.zeroValue345
  t233 := Tryz.underlying346
  a233 := Tryz.isAgg346
  z233 := Tryz.sizeOf346
  v233 := Tryz.zeroValue346
  g15 := by kernel_rfl
  g16 := by kernel_rfl
  g17 := by kernel_rfl
  g18 := by kernel_rfl
  g19 := by kernel_rfl }
open Go.RowKit in
/-- strconv.Atoi: "Atoi is equivalent to ParseInt(s, 10, 0), converted to type int.": AT A DECIMAL NUMERAL OF AT MOST 18 BYTES: its value, and a nil error. The world behind the call: the one new row that the library's '[]byte(s)' lays. (LAID: no walk: one application.) -/
theorem Tryz.strconv_Atoi (s : ByteArray) (n : Int) (hl : s.size ≤ 18) (h : Lib.atoi s.data.toList = some n) (w : World) :
    Calls Tryz.prog 131 #[.string s] w fun e w' => e = .returned (.tuple #[.int .i64 n, .nilIface]) ∧ ∃ t, w' = Lib.bytesWorld w 5 t := Any.strconv_Atoi Tryz.lays172 s n hl h w
def Tryz.lays129_ren : Go.Shelf.Ren := ⟨fun | 129 => 183 | n => n, fun | 53 => 25 | 3 => 3 | 4 => 4 | 46 => 293 | 5 => 5 | 9 => 9 | n => n, fun | n => n⟩
theorem Tryz.lays129 : Go.Proofs.Lays.n129 Tryz.prog Tryz.lays129_ren := {
  mixed := by kernel_rfl
  f129 := Tryz.func183.trans (congrArg some (by kernel_rfl))
  t3 := Tryz.underlying3
  a3 := Tryz.isAgg3
  z3 := Tryz.sizeOf3
  v3 := Tryz.zeroValue3
  t4 := Tryz.underlying4
  a4 := Tryz.isAgg4
  z4 := Tryz.sizeOf4
  v4 := Tryz.zeroValue4
  t5 := Tryz.underlying5
  a5 := Tryz.isAgg5
  z5 := Tryz.sizeOf5
  v5 := Tryz.zeroValue5
  t9 := Tryz.underlying9
  a9 := Tryz.isAgg9
  z9 := Tryz.sizeOf9
  v9 := Tryz.zeroValue9
  t46 := Tryz.underlying293
  a46 := Tryz.isAgg293
  z46 := Tryz.sizeOf293
  v46 := Tryz.zeroValue293
  t53 := Tryz.underlying25
  a53 := Tryz.isAgg25
  z53 := Tryz.sizeOf25
  v53 := Tryz.zeroValue25 }
/-- bits.Len64: "Len64 returns the minimum number of bits required to represent x; the result is 0 for x == 0.": IT RETURNS 'Lib.bitLen x'; the world is as it was. ('h0', 'h1': x is a uint64.) (LAID: no walk: one application.) -/
theorem Tryz.bits_Len64 (x : Int) (w : World) (h0 : 0 ≤ x) (h1 : x ≤ 18446744073709551615) :
    Calls Tryz.prog 183 #[.int .u64 x] w fun e w' => e = .returned (.int .i64 (Lib.bitLen x.toNat)) ∧ w' = w := Any.bits_Len64 Tryz.lays129 x w h0 h1
def Tryz.lays317_ren : Go.Shelf.Ren := ⟨fun | 317 => 182 | n => n, fun | 3 => 3 | 46 => 293 | n => n, fun | n => n⟩
theorem Tryz.lays317 : Go.Proofs.Lays.n317 Tryz.prog Tryz.lays317_ren := {
  mixed := by kernel_rfl
  f317 := Tryz.func182.trans (congrArg some (by kernel_rfl))
  t3 := Tryz.underlying3
  a3 := Tryz.isAgg3
  z3 := Tryz.sizeOf3
  v3 := Tryz.zeroValue3
  t46 := Tryz.underlying293
  a46 := Tryz.isAgg293
  z46 := Tryz.sizeOf293
  v46 := Tryz.zeroValue293 }
open Go.Lib in
/-- internal/strconv.log10Pow2: "log10Pow2(x) returns ⌊log₁₀ 2**x⌋ = ⌊x * log₁₀ 2⌋.": '(x * 78913) >> 18', at an x up to 64 (a length in bits). The world is as it was. (LAID: no walk: one application.) -/
theorem Tryz.internal_strconv_log10Pow2 (x : Nat) (h : x ≤ 64) (w : World) :
    Calls Tryz.prog 182 #[.int .i64 x] w fun e w' => e = .returned (.int .i64 (Lib.l10 x)) ∧ w' = w := Any.internal_strconv_log10Pow2 Tryz.lays317 x h w
def Tryz.lays318_ren : Go.Shelf.Ren := ⟨fun | 318 => 184 | n => n, fun | 3 => 3 | 4 => 4 | n => n, fun | n => n⟩
theorem Tryz.lays318 : Go.Proofs.Lays.n318 Tryz.prog Tryz.lays318_ren := {
  mixed := by kernel_rfl
  f318 := Tryz.func184.trans (congrArg some (by kernel_rfl))
  t3 := Tryz.underlying3
  a3 := Tryz.isAgg3
  z3 := Tryz.sizeOf3
  v3 := Tryz.zeroValue3
  t4 := Tryz.underlying4
  a4 := Tryz.isAgg4
  z4 := Tryz.sizeOf4
  v4 := Tryz.zeroValue4 }
open Go.Lib in
/-- internal/strconv.bool2: "bool2 converts b to an integer: 1 for true, 0 for false." The world is as it was. (LAID: no walk: one application.) -/
theorem Tryz.internal_strconv_bool2_int (b : Bool) (w : World) :
    Calls Tryz.prog 184 #[.bool b] w fun e w' => e = .returned (.int .i64 (if b then 1 else 0)) ∧ w' = w := Any.internal_strconv_bool2_int Tryz.lays318 b w
def Tryz.lays283_ren : Go.Shelf.Ren := ⟨fun | 283 => 159 | n => n, fun | 3 => 3 | 9 => 9 | 4 => 4 | n => n, fun | n => n⟩
theorem Tryz.lays283 : Go.Proofs.Lays.n283 Tryz.prog Tryz.lays283_ren := {
  mixed := by kernel_rfl
  f283 := Tryz.func159.trans (congrArg some (by kernel_rfl))
  t3 := Tryz.underlying3
  a3 := Tryz.isAgg3
  z3 := Tryz.sizeOf3
  v3 := Tryz.zeroValue3
  t4 := Tryz.underlying4
  a4 := Tryz.isAgg4
  z4 := Tryz.sizeOf4
  v4 := Tryz.zeroValue4
  t9 := Tryz.underlying9
  a9 := Tryz.isAgg9
  z9 := Tryz.sizeOf9
  v9 := Tryz.zeroValue9 }
open Go.Lib in
/-- internal/strconv.small: "small returns the string for an i with 0 <= i < nSmalls.": i's decimal numeral. The world is as it was. (LAID: no walk: one application.) -/
theorem Tryz.internal_strconv_small (i : Nat) (h : i < 100) (w : World) :
    Calls Tryz.prog 159 #[.int .i64 i] w fun e w' => e = .returned (.string ⟨(Lib.decDigits i).toArray⟩) ∧ w' = w := Any.internal_strconv_small Tryz.lays283 i h w
def Tryz.laysM284_ren : Go.Shelf.Ren := ⟨fun | 284 => 160 | 129 => 183 | 317 => 182 | 318 => 184 | n => n, fun | 53 => 25 | 3 => 3 | 212 => 309 | 0 => 0 | 4 => 4 | 46 => 293 | 5 => 5 | 9 => 9 | n => n, fun | 17 => 8 | n => n⟩
theorem Tryz.laysM284 : Go.Proofs.LaysM.n284 Tryz.prog Tryz.laysM284_ren := {
  mixed := by kernel_rfl
  f129 := Tryz.func183.trans (congrArg some (by kernel_rfl))
  f284 := Tryz.func160.trans (congrArg some (by kernel_rfl))
  f317 := Tryz.func182.trans (congrArg some (by kernel_rfl))
  f318 := Tryz.func184.trans (congrArg some (by kernel_rfl))
  t0 := Tryz.underlying0
  a0 := Tryz.isAgg0
  z0 := Tryz.sizeOf0
  v0 := Tryz.zeroValue0
  t3 := Tryz.underlying3
  a3 := Tryz.isAgg3
  z3 := Tryz.sizeOf3
  v3 := Tryz.zeroValue3
  t4 := Tryz.underlying4
  a4 := Tryz.isAgg4
  z4 := Tryz.sizeOf4
  v4 := Tryz.zeroValue4
  t5 := Tryz.underlying5
  a5 := Tryz.isAgg5
  z5 := Tryz.sizeOf5
  v5 := Tryz.zeroValue5
  t9 := Tryz.underlying9
  a9 := Tryz.isAgg9
  z9 := Tryz.sizeOf9
  v9 := Tryz.zeroValue9
  t46 := Tryz.underlying293
  a46 := Tryz.isAgg293
  z46 := Tryz.sizeOf293
  v46 := Tryz.zeroValue293
  t53 := Tryz.underlying25
  a53 := Tryz.isAgg25
  z53 := Tryz.sizeOf25
  v53 := Tryz.zeroValue25
  t212 := Tryz.underlying309
  a212 := Tryz.isAgg309
  z212 := Tryz.sizeOf309
  v212 := Tryz.zeroValue309
  g17 := by kernel_rfl
  i0 := by kernel_rfl
  i3 := by kernel_rfl
  i4 := by kernel_rfl
  i5 := by kernel_rfl
  i9 := by kernel_rfl
  i46 := by kernel_rfl
  i53 := by kernel_rfl
  i212 := by kernel_rfl
  m17 := by kernel_rfl }
open Go.Lib in
/-- internal/strconv.numDigits, at a d that is not 0: THE NUMBER OF d's DECIMAL DIGITS. The world is as it was. (LAID: no walk: one application.) -/
theorem Tryz.internal_strconv_numDigits (u : Nat) (h1 : 1 ≤ u) (h2 : u < 18446744073709551616) (w : World) (htab : Lib.TabIs Tryz.prog w "internal/strconv.uint64pow10" .u64 Lib.pow10Tab) :
    Calls Tryz.prog 160 #[.int .u64 u] w fun e w' => e = .returned (.int .i64 (Lib.nDigits u)) ∧ w' = w := Any.internal_strconv_numDigits Tryz.laysM284 u h1 h2 w htab
def Tryz.lays285_ren : Go.Shelf.Ren := ⟨fun | 285 => 161 | n => n, fun | 37 => 143 | 53 => 25 | 3 => 3 | 4 => 4 | 51 => 67 | 9 => 9 | 5 => 5 | 0 => 0 | n => n, fun | n => n⟩
theorem Tryz.lays285 : Go.Proofs.Lays.n285 Tryz.prog Tryz.lays285_ren := {
  mixed := by kernel_rfl
  f285 := Tryz.func161.trans (congrArg some (by kernel_rfl))
  t0 := Tryz.underlying0
  a0 := Tryz.isAgg0
  z0 := Tryz.sizeOf0
  v0 := Tryz.zeroValue0
  t3 := Tryz.underlying3
  a3 := Tryz.isAgg3
  z3 := Tryz.sizeOf3
  v3 := Tryz.zeroValue3
  t4 := Tryz.underlying4
  a4 := Tryz.isAgg4
  z4 := Tryz.sizeOf4
  v4 := Tryz.zeroValue4
  t5 := Tryz.underlying5
  a5 := Tryz.isAgg5
  z5 := Tryz.sizeOf5
  v5 := Tryz.zeroValue5
  t9 := Tryz.underlying9
  a9 := Tryz.isAgg9
  z9 := Tryz.sizeOf9
  v9 := Tryz.zeroValue9
  t37 := Tryz.underlying143
  a37 := Tryz.isAgg143
  z37 := Tryz.sizeOf143
  v37 := Tryz.zeroValue143
  t51 := Tryz.underlying67
  a51 := Tryz.isAgg67
  z51 := Tryz.sizeOf67
  v51 := Tryz.zeroValue67
  t53 := Tryz.underlying25
  a53 := Tryz.isAgg25
  z53 := Tryz.sizeOf25
  v53 := Tryz.zeroValue25 }
open Go.RowKit Go.Sort Go.Lib in
/-- internal/strconv.formatBase10: "formatBase10 formats the decimal representation of u into a. The caller is responsible for ensuring that a is big enough to hold u. If a is too big, leading zeros will be filled in as needed.": THE ROW HOLDS u's DIGITS ('FmtInv .. 0 ..': every place t holds 'dg u (len - 1 - t)'); all else is as it was but for the count of draws. (LAID: no walk: one application.) -/
theorem Tryz.internal_strconv_formatBase10 (blk off cap : Nat) (u : Nat) (d : Array UInt8) (w : World) (hH : Holds (fun (b : UInt8) => Value.int .u8 (b.toNat : Int)) w blk off d) (hu : u < 10 ^ d.size) (hu64 : u < 18446744073709551616) (hsz : d.size < 4611686018427387904) :
    Calls Tryz.prog 161 #[.slice (some ⟨blk, off, none⟩) d.size cap, .int .u64 u] w fun e w' =>
      e = .returned (.tuple #[]) ∧ ∃ (n v' : Nat) (dk : Array UInt8), w' = (putRow (fun (b : UInt8) => Value.int .u8 (b.toNat : Int)) w blk off dk).drewN n ∧ FmtInv d.size u 0 v' dk := Any.internal_strconv_formatBase10 Tryz.lays285 blk off cap u d w hH hu hu64 hsz
def Tryz.laysM246_ren : Go.Shelf.Ren := ⟨fun | 246 => 164 | 283 => 159 | 284 => 160 | 285 => 161 | 286 => 162 | 129 => 183 | 317 => 182 | 318 => 184 | 319 => 185 | 320 => 186 | 337 => 195 | 338 => 196 | n => n, fun | 2 => 2 | 3 => 3 | 9 => 9 | 4 => 4 | 171 => 280 | 0 => 0 | 53 => 25 | 37 => 143 | 5 => 5 | 173 => 283 | 212 => 309 | 51 => 67 | 20 => 20 | 213 => 310 | 46 => 293 | 232 => 345 | 233 => 346 | n => n, fun | 17 => 8 | 18 => 13 | 19 => 14 | n => n⟩
theorem Tryz.laysM246 : Go.Proofs.LaysM.n246 Tryz.prog Tryz.laysM246_ren := {
  mixed := by kernel_rfl
  f129 := Tryz.func183.trans (congrArg some (by kernel_rfl))
  f246 := Tryz.func164.trans (congrArg some (by kernel_rfl))
  f283 := Tryz.func159.trans (congrArg some (by kernel_rfl))
  f284 := Tryz.func160.trans (congrArg some (by kernel_rfl))
  f285 := Tryz.func161.trans (congrArg some (by kernel_rfl))
  f286 := Tryz.func162.trans (congrArg some (by kernel_rfl))
  f317 := Tryz.func182.trans (congrArg some (by kernel_rfl))
  f318 := Tryz.func184.trans (congrArg some (by kernel_rfl))
  f319 := Tryz.func185.trans (congrArg some (by kernel_rfl))
  f320 := Tryz.func186.trans (congrArg some (by kernel_rfl))
  f337 := Tryz.func195.trans (congrArg some (by kernel_rfl))
  f338 := Tryz.func196.trans (congrArg some (by kernel_rfl))
  t0 := Tryz.underlying0
  a0 := Tryz.isAgg0
  z0 := Tryz.sizeOf0
  v0 := Tryz.zeroValue0
  t2 := Tryz.underlying2
  a2 := Tryz.isAgg2
  z2 := Tryz.sizeOf2
  v2 := Tryz.zeroValue2
  t3 := Tryz.underlying3
  a3 := Tryz.isAgg3
  z3 := Tryz.sizeOf3
  v3 := Tryz.zeroValue3
  t4 := Tryz.underlying4
  a4 := Tryz.isAgg4
  z4 := Tryz.sizeOf4
  v4 := Tryz.zeroValue4
  t5 := Tryz.underlying5
  a5 := Tryz.isAgg5
  z5 := Tryz.sizeOf5
  v5 := Tryz.zeroValue5
  t9 := Tryz.underlying9
  a9 := Tryz.isAgg9
  z9 := Tryz.sizeOf9
  v9 := Tryz.zeroValue9
  t20 := Tryz.underlying20
  a20 := Tryz.isAgg20
  z20 := Tryz.sizeOf20
  v20 := Tryz.zeroValue20
  t37 := Tryz.underlying143
  a37 := Tryz.isAgg143
  z37 := Tryz.sizeOf143
  v37 := Tryz.zeroValue143
  t46 := Tryz.underlying293
  a46 := Tryz.isAgg293
  z46 := Tryz.sizeOf293
  v46 := Tryz.zeroValue293
  t51 := Tryz.underlying67
  a51 := Tryz.isAgg67
  z51 := Tryz.sizeOf67
  v51 := Tryz.zeroValue67
  t53 := Tryz.underlying25
  a53 := Tryz.isAgg25
  z53 := Tryz.sizeOf25
  v53 := Tryz.zeroValue25
  t171 := Tryz.underlying280
  a171 := Tryz.isAgg280
  z171 := Tryz.sizeOf280
  v171 := Tryz.zeroValue280
  t173 := Tryz.underlying283
  a173 := Tryz.isAgg283
  z173 := Tryz.sizeOf283
  v173 := Tryz.zeroValue283
  t212 := Tryz.underlying309
  a212 := Tryz.isAgg309
  z212 := Tryz.sizeOf309
  v212 := Tryz.zeroValue309
  t213 := Tryz.underlying310
  a213 := Tryz.isAgg310
  z213 := Tryz.sizeOf310
  t232 := Tryz.underlying345
  a232 := Tryz.isAgg345
  z232 := Tryz.sizeOf345
  v232 := Tryz.zeroValue345
  t233 := Tryz.underlying346
  a233 := Tryz.isAgg346
  z233 := Tryz.sizeOf346
  v233 := Tryz.zeroValue346
  g17 := by kernel_rfl
  g18 := by kernel_rfl
  g19 := by kernel_rfl
  i0 := by kernel_rfl
  i2 := by kernel_rfl
  i3 := by kernel_rfl
  i4 := by kernel_rfl
  i5 := by kernel_rfl
  i9 := by kernel_rfl
  i20 := by kernel_rfl
  i37 := by kernel_rfl
  i46 := by kernel_rfl
  i51 := by kernel_rfl
  i53 := by kernel_rfl
  i171 := by kernel_rfl
  i173 := by kernel_rfl
  i212 := by kernel_rfl
  i232 := by kernel_rfl
  i233 := by kernel_rfl
  m17 := by kernel_rfl
  m18 := by kernel_rfl
  m19 := by kernel_rfl }
open Go.RowKit Go.Sort Go.Lib in
/-- internal/strconv.FormatInt: "FormatInt returns the string representation of i in the given base": AT BASE 10: i's decimal numeral, for every int64. The world behind the call: the world before it, new blocks behind the heap, draws. (LAID: no walk: one application.) -/
theorem Tryz.internal_strconv_FormatInt_10 (n : Int) (h0 : -9223372036854775808 ≤ n) (h1 : n ≤ 9223372036854775807) (w : World) (htab : Lib.TabIs Tryz.prog w "internal/strconv.uint64pow10" .u64 Lib.pow10Tab) :
    Calls Tryz.prog 164 #[.int .i64 n, .int .i64 10] w fun e w' => e = .returned (.string ⟨(Lib.itoa n).toArray⟩) ∧ ∃ k os, w' = grow (w.drewN k) os := Any.internal_strconv_FormatInt_10 Tryz.laysM246 n h0 h1 w htab
def Tryz.lays246_ren : Go.Shelf.Ren := ⟨fun | 246 => 164 | 283 => 159 | 284 => 160 | 285 => 161 | 286 => 162 | 129 => 183 | 317 => 182 | 318 => 184 | 319 => 185 | 320 => 186 | 337 => 195 | 338 => 196 | n => n, fun | 2 => 2 | 3 => 3 | 9 => 9 | 4 => 4 | 171 => 280 | 0 => 0 | 53 => 25 | 37 => 143 | 5 => 5 | 173 => 283 | 212 => 309 | 51 => 67 | 20 => 20 | 213 => 310 | 46 => 293 | 232 => 345 | 233 => 346 | n => n, fun | 17 => 8 | 18 => 13 | 19 => 14 | n => n⟩
theorem Tryz.lays246 : Go.Proofs.Lays.n246 Tryz.prog Tryz.lays246_ren := {
  mixed := by kernel_rfl
  f129 := Tryz.func183.trans (congrArg some (by kernel_rfl))
  f246 := Tryz.func164.trans (congrArg some (by kernel_rfl))
  f283 := Tryz.func159.trans (congrArg some (by kernel_rfl))
  f284 := Tryz.func160.trans (congrArg some (by kernel_rfl))
  f285 := Tryz.func161.trans (congrArg some (by kernel_rfl))
  f286 := Tryz.func162.trans (congrArg some (by kernel_rfl))
  f317 := Tryz.func182.trans (congrArg some (by kernel_rfl))
  f318 := Tryz.func184.trans (congrArg some (by kernel_rfl))
  f319 := Tryz.func185.trans (congrArg some (by kernel_rfl))
  f320 := Tryz.func186.trans (congrArg some (by kernel_rfl))
  f337 := Tryz.func195.trans (congrArg some (by kernel_rfl))
  f338 := Tryz.func196.trans (congrArg some (by kernel_rfl))
  t0 := Tryz.underlying0
  a0 := Tryz.isAgg0
  z0 := Tryz.sizeOf0
  v0 := Tryz.zeroValue0
  t2 := Tryz.underlying2
  a2 := Tryz.isAgg2
  z2 := Tryz.sizeOf2
  v2 := Tryz.zeroValue2
  t3 := Tryz.underlying3
  a3 := Tryz.isAgg3
  z3 := Tryz.sizeOf3
  v3 := Tryz.zeroValue3
  t4 := Tryz.underlying4
  a4 := Tryz.isAgg4
  z4 := Tryz.sizeOf4
  v4 := Tryz.zeroValue4
  t5 := Tryz.underlying5
  a5 := Tryz.isAgg5
  z5 := Tryz.sizeOf5
  v5 := Tryz.zeroValue5
  t9 := Tryz.underlying9
  a9 := Tryz.isAgg9
  z9 := Tryz.sizeOf9
  v9 := Tryz.zeroValue9
  t20 := Tryz.underlying20
  a20 := Tryz.isAgg20
  z20 := Tryz.sizeOf20
  v20 := Tryz.zeroValue20
  t37 := Tryz.underlying143
  a37 := Tryz.isAgg143
  z37 := Tryz.sizeOf143
  v37 := Tryz.zeroValue143
  t46 := Tryz.underlying293
  a46 := Tryz.isAgg293
  z46 := Tryz.sizeOf293
  v46 := Tryz.zeroValue293
  t51 := Tryz.underlying67
  a51 := Tryz.isAgg67
  z51 := Tryz.sizeOf67
  v51 := Tryz.zeroValue67
  t53 := Tryz.underlying25
  a53 := Tryz.isAgg25
  z53 := Tryz.sizeOf25
  v53 := Tryz.zeroValue25
  t171 := Tryz.underlying280
  a171 := Tryz.isAgg280
  z171 := Tryz.sizeOf280
  v171 := Tryz.zeroValue280
  t173 := Tryz.underlying283
  a173 := Tryz.isAgg283
  z173 := Tryz.sizeOf283
  v173 := Tryz.zeroValue283
  t212 := Tryz.underlying309
  a212 := Tryz.isAgg309
  z212 := Tryz.sizeOf309
  v212 := Tryz.zeroValue309
  t213 := Tryz.underlying310
  a213 := Tryz.isAgg310
  z213 := Tryz.sizeOf310
  t232 := Tryz.underlying345
  a232 := Tryz.isAgg345
  z232 := Tryz.sizeOf345
  v232 := Tryz.zeroValue345
  t233 := Tryz.underlying346
  a233 := Tryz.isAgg346
  z233 := Tryz.sizeOf346
  v233 := Tryz.zeroValue346
  g17 := by kernel_rfl
  g18 := by kernel_rfl
  g19 := by kernel_rfl }
open Go.RowKit Go.Sort Go.Lib in
/-- THE ROAD WITHOUT THE TABLE: 0 <= i < 100: two constants are read, nothing is laid: no premise on the world, and the world is as it was. (LAID: no walk: one application.) -/
theorem Tryz.internal_strconv_FormatInt_10_small (i : Nat) (hi : i < 100) (w : World) :
    Calls Tryz.prog 164 #[.int .i64 i, .int .i64 10] w fun e w' => e = .returned (.string ⟨(Lib.decDigits i).toArray⟩) ∧ w' = w := Any.internal_strconv_FormatInt_10_small Tryz.lays246 i hi w
def Tryz.laysM243_ren : Go.Shelf.Ren := ⟨fun | 243 => 140 | 246 => 164 | 283 => 159 | 284 => 160 | 285 => 161 | 286 => 162 | 129 => 183 | 317 => 182 | 318 => 184 | 319 => 185 | 320 => 186 | 337 => 195 | 338 => 196 | n => n, fun | 3 => 3 | 9 => 9 | 2 => 2 | 4 => 4 | 171 => 280 | 0 => 0 | 53 => 25 | 37 => 143 | 5 => 5 | 173 => 283 | 212 => 309 | 51 => 67 | 20 => 20 | 213 => 310 | 46 => 293 | 232 => 345 | 233 => 346 | n => n, fun | 17 => 8 | 18 => 13 | 19 => 14 | n => n⟩
theorem Tryz.laysM243 : Go.Proofs.LaysM.n243 Tryz.prog Tryz.laysM243_ren := {
  mixed := by kernel_rfl
  f129 := Tryz.func183.trans (congrArg some (by kernel_rfl))
  f243 := Tryz.func140.trans (congrArg some (by kernel_rfl))
  f246 := Tryz.func164.trans (congrArg some (by kernel_rfl))
  f283 := Tryz.func159.trans (congrArg some (by kernel_rfl))
  f284 := Tryz.func160.trans (congrArg some (by kernel_rfl))
  f285 := Tryz.func161.trans (congrArg some (by kernel_rfl))
  f286 := Tryz.func162.trans (congrArg some (by kernel_rfl))
  f317 := Tryz.func182.trans (congrArg some (by kernel_rfl))
  f318 := Tryz.func184.trans (congrArg some (by kernel_rfl))
  f319 := Tryz.func185.trans (congrArg some (by kernel_rfl))
  f320 := Tryz.func186.trans (congrArg some (by kernel_rfl))
  f337 := Tryz.func195.trans (congrArg some (by kernel_rfl))
  f338 := Tryz.func196.trans (congrArg some (by kernel_rfl))
  t0 := Tryz.underlying0
  a0 := Tryz.isAgg0
  z0 := Tryz.sizeOf0
  v0 := Tryz.zeroValue0
  t2 := Tryz.underlying2
  a2 := Tryz.isAgg2
  z2 := Tryz.sizeOf2
  v2 := Tryz.zeroValue2
  t3 := Tryz.underlying3
  a3 := Tryz.isAgg3
  z3 := Tryz.sizeOf3
  v3 := Tryz.zeroValue3
  t4 := Tryz.underlying4
  a4 := Tryz.isAgg4
  z4 := Tryz.sizeOf4
  v4 := Tryz.zeroValue4
  t5 := Tryz.underlying5
  a5 := Tryz.isAgg5
  z5 := Tryz.sizeOf5
  v5 := Tryz.zeroValue5
  t9 := Tryz.underlying9
  a9 := Tryz.isAgg9
  z9 := Tryz.sizeOf9
  v9 := Tryz.zeroValue9
  t20 := Tryz.underlying20
  a20 := Tryz.isAgg20
  z20 := Tryz.sizeOf20
  v20 := Tryz.zeroValue20
  t37 := Tryz.underlying143
  a37 := Tryz.isAgg143
  z37 := Tryz.sizeOf143
  v37 := Tryz.zeroValue143
  t46 := Tryz.underlying293
  a46 := Tryz.isAgg293
  z46 := Tryz.sizeOf293
  v46 := Tryz.zeroValue293
  t51 := Tryz.underlying67
  a51 := Tryz.isAgg67
  z51 := Tryz.sizeOf67
  v51 := Tryz.zeroValue67
  t53 := Tryz.underlying25
  a53 := Tryz.isAgg25
  z53 := Tryz.sizeOf25
  v53 := Tryz.zeroValue25
  t171 := Tryz.underlying280
  a171 := Tryz.isAgg280
  z171 := Tryz.sizeOf280
  v171 := Tryz.zeroValue280
  t173 := Tryz.underlying283
  a173 := Tryz.isAgg283
  z173 := Tryz.sizeOf283
  v173 := Tryz.zeroValue283
  t212 := Tryz.underlying309
  a212 := Tryz.isAgg309
  z212 := Tryz.sizeOf309
  v212 := Tryz.zeroValue309
  t213 := Tryz.underlying310
  a213 := Tryz.isAgg310
  z213 := Tryz.sizeOf310
  t232 := Tryz.underlying345
  a232 := Tryz.isAgg345
  z232 := Tryz.sizeOf345
  v232 := Tryz.zeroValue345
  t233 := Tryz.underlying346
  a233 := Tryz.isAgg346
  z233 := Tryz.sizeOf346
  v233 := Tryz.zeroValue346
  g17 := by kernel_rfl
  g18 := by kernel_rfl
  g19 := by kernel_rfl
  i0 := by kernel_rfl
  i2 := by kernel_rfl
  i3 := by kernel_rfl
  i4 := by kernel_rfl
  i5 := by kernel_rfl
  i9 := by kernel_rfl
  i20 := by kernel_rfl
  i37 := by kernel_rfl
  i46 := by kernel_rfl
  i51 := by kernel_rfl
  i53 := by kernel_rfl
  i171 := by kernel_rfl
  i173 := by kernel_rfl
  i212 := by kernel_rfl
  i232 := by kernel_rfl
  i233 := by kernel_rfl
  m17 := by kernel_rfl
  m18 := by kernel_rfl
  m19 := by kernel_rfl }
open Go.RowKit Go.Sort Go.Lib in
/-- internal/strconv.Itoa: "Itoa is equivalent to FormatInt(int64(i), 10).": i's decimal numeral, for every int. (LAID: no walk: one application.) -/
theorem Tryz.internal_strconv_Itoa (n : Int) (h0 : -9223372036854775808 ≤ n) (h1 : n ≤ 9223372036854775807) (w : World) (htab : Lib.TabIs Tryz.prog w "internal/strconv.uint64pow10" .u64 Lib.pow10Tab) :
    Calls Tryz.prog 140 #[.int .i64 n] w fun e w' => e = .returned (.string ⟨(Lib.itoa n).toArray⟩) ∧ ∃ k os, w' = grow (w.drewN k) os := Any.internal_strconv_Itoa Tryz.laysM243 n h0 h1 w htab
def Tryz.lays243_ren : Go.Shelf.Ren := ⟨fun | 243 => 140 | 246 => 164 | 283 => 159 | 284 => 160 | 285 => 161 | 286 => 162 | 129 => 183 | 317 => 182 | 318 => 184 | 319 => 185 | 320 => 186 | 337 => 195 | 338 => 196 | n => n, fun | 3 => 3 | 9 => 9 | 2 => 2 | 4 => 4 | 171 => 280 | 0 => 0 | 53 => 25 | 37 => 143 | 5 => 5 | 173 => 283 | 212 => 309 | 51 => 67 | 20 => 20 | 213 => 310 | 46 => 293 | 232 => 345 | 233 => 346 | n => n, fun | 17 => 8 | 18 => 13 | 19 => 14 | n => n⟩
theorem Tryz.lays243 : Go.Proofs.Lays.n243 Tryz.prog Tryz.lays243_ren := {
  mixed := by kernel_rfl
  f129 := Tryz.func183.trans (congrArg some (by kernel_rfl))
  f243 := Tryz.func140.trans (congrArg some (by kernel_rfl))
  f246 := Tryz.func164.trans (congrArg some (by kernel_rfl))
  f283 := Tryz.func159.trans (congrArg some (by kernel_rfl))
  f284 := Tryz.func160.trans (congrArg some (by kernel_rfl))
  f285 := Tryz.func161.trans (congrArg some (by kernel_rfl))
  f286 := Tryz.func162.trans (congrArg some (by kernel_rfl))
  f317 := Tryz.func182.trans (congrArg some (by kernel_rfl))
  f318 := Tryz.func184.trans (congrArg some (by kernel_rfl))
  f319 := Tryz.func185.trans (congrArg some (by kernel_rfl))
  f320 := Tryz.func186.trans (congrArg some (by kernel_rfl))
  f337 := Tryz.func195.trans (congrArg some (by kernel_rfl))
  f338 := Tryz.func196.trans (congrArg some (by kernel_rfl))
  t0 := Tryz.underlying0
  a0 := Tryz.isAgg0
  z0 := Tryz.sizeOf0
  v0 := Tryz.zeroValue0
  t2 := Tryz.underlying2
  a2 := Tryz.isAgg2
  z2 := Tryz.sizeOf2
  v2 := Tryz.zeroValue2
  t3 := Tryz.underlying3
  a3 := Tryz.isAgg3
  z3 := Tryz.sizeOf3
  v3 := Tryz.zeroValue3
  t4 := Tryz.underlying4
  a4 := Tryz.isAgg4
  z4 := Tryz.sizeOf4
  v4 := Tryz.zeroValue4
  t5 := Tryz.underlying5
  a5 := Tryz.isAgg5
  z5 := Tryz.sizeOf5
  v5 := Tryz.zeroValue5
  t9 := Tryz.underlying9
  a9 := Tryz.isAgg9
  z9 := Tryz.sizeOf9
  v9 := Tryz.zeroValue9
  t20 := Tryz.underlying20
  a20 := Tryz.isAgg20
  z20 := Tryz.sizeOf20
  v20 := Tryz.zeroValue20
  t37 := Tryz.underlying143
  a37 := Tryz.isAgg143
  z37 := Tryz.sizeOf143
  v37 := Tryz.zeroValue143
  t46 := Tryz.underlying293
  a46 := Tryz.isAgg293
  z46 := Tryz.sizeOf293
  v46 := Tryz.zeroValue293
  t51 := Tryz.underlying67
  a51 := Tryz.isAgg67
  z51 := Tryz.sizeOf67
  v51 := Tryz.zeroValue67
  t53 := Tryz.underlying25
  a53 := Tryz.isAgg25
  z53 := Tryz.sizeOf25
  v53 := Tryz.zeroValue25
  t171 := Tryz.underlying280
  a171 := Tryz.isAgg280
  z171 := Tryz.sizeOf280
  v171 := Tryz.zeroValue280
  t173 := Tryz.underlying283
  a173 := Tryz.isAgg283
  z173 := Tryz.sizeOf283
  v173 := Tryz.zeroValue283
  t212 := Tryz.underlying309
  a212 := Tryz.isAgg309
  z212 := Tryz.sizeOf309
  v212 := Tryz.zeroValue309
  t213 := Tryz.underlying310
  a213 := Tryz.isAgg310
  z213 := Tryz.sizeOf310
  t232 := Tryz.underlying345
  a232 := Tryz.isAgg345
  z232 := Tryz.sizeOf345
  v232 := Tryz.zeroValue345
  t233 := Tryz.underlying346
  a233 := Tryz.isAgg346
  z233 := Tryz.sizeOf346
  v233 := Tryz.zeroValue346
  g17 := by kernel_rfl
  g18 := by kernel_rfl
  g19 := by kernel_rfl }
open Go.RowKit Go.Sort Go.Lib in
/-- THE ROAD WITHOUT THE TABLE: 0 <= i < 100. (LAID: no walk: one application.) -/
theorem Tryz.internal_strconv_Itoa_small (i : Nat) (hi : i < 100) (w : World) :
    Calls Tryz.prog 140 #[.int .i64 i] w fun e w' => e = .returned (.string ⟨(Lib.decDigits i).toArray⟩) ∧ w' = w := Any.internal_strconv_Itoa_small Tryz.lays243 i hi w
def Tryz.laysM171_ren : Go.Shelf.Ren := ⟨fun | 171 => 117 | 243 => 140 | 246 => 164 | 283 => 159 | 284 => 160 | 285 => 161 | 286 => 162 | 129 => 183 | 317 => 182 | 318 => 184 | 319 => 185 | 320 => 186 | 337 => 195 | 338 => 196 | n => n, fun | 3 => 3 | 9 => 9 | 2 => 2 | 4 => 4 | 171 => 280 | 0 => 0 | 53 => 25 | 37 => 143 | 5 => 5 | 173 => 283 | 212 => 309 | 51 => 67 | 20 => 20 | 213 => 310 | 46 => 293 | 232 => 345 | 233 => 346 | n => n, fun | 17 => 8 | 18 => 13 | 19 => 14 | n => n⟩
theorem Tryz.laysM171 : Go.Proofs.LaysM.n171 Tryz.prog Tryz.laysM171_ren := {
  mixed := by kernel_rfl
  f129 := Tryz.func183.trans (congrArg some (by kernel_rfl))
  f171 := Tryz.func117.trans (congrArg some (by kernel_rfl))
  f243 := Tryz.func140.trans (congrArg some (by kernel_rfl))
  f246 := Tryz.func164.trans (congrArg some (by kernel_rfl))
  f283 := Tryz.func159.trans (congrArg some (by kernel_rfl))
  f284 := Tryz.func160.trans (congrArg some (by kernel_rfl))
  f285 := Tryz.func161.trans (congrArg some (by kernel_rfl))
  f286 := Tryz.func162.trans (congrArg some (by kernel_rfl))
  f317 := Tryz.func182.trans (congrArg some (by kernel_rfl))
  f318 := Tryz.func184.trans (congrArg some (by kernel_rfl))
  f319 := Tryz.func185.trans (congrArg some (by kernel_rfl))
  f320 := Tryz.func186.trans (congrArg some (by kernel_rfl))
  f337 := Tryz.func195.trans (congrArg some (by kernel_rfl))
  f338 := Tryz.func196.trans (congrArg some (by kernel_rfl))
  t0 := Tryz.underlying0
  a0 := Tryz.isAgg0
  z0 := Tryz.sizeOf0
  v0 := Tryz.zeroValue0
  t2 := Tryz.underlying2
  a2 := Tryz.isAgg2
  z2 := Tryz.sizeOf2
  v2 := Tryz.zeroValue2
  t3 := Tryz.underlying3
  a3 := Tryz.isAgg3
  z3 := Tryz.sizeOf3
  v3 := Tryz.zeroValue3
  t4 := Tryz.underlying4
  a4 := Tryz.isAgg4
  z4 := Tryz.sizeOf4
  v4 := Tryz.zeroValue4
  t5 := Tryz.underlying5
  a5 := Tryz.isAgg5
  z5 := Tryz.sizeOf5
  v5 := Tryz.zeroValue5
  t9 := Tryz.underlying9
  a9 := Tryz.isAgg9
  z9 := Tryz.sizeOf9
  v9 := Tryz.zeroValue9
  t20 := Tryz.underlying20
  a20 := Tryz.isAgg20
  z20 := Tryz.sizeOf20
  v20 := Tryz.zeroValue20
  t37 := Tryz.underlying143
  a37 := Tryz.isAgg143
  z37 := Tryz.sizeOf143
  v37 := Tryz.zeroValue143
  t46 := Tryz.underlying293
  a46 := Tryz.isAgg293
  z46 := Tryz.sizeOf293
  v46 := Tryz.zeroValue293
  t51 := Tryz.underlying67
  a51 := Tryz.isAgg67
  z51 := Tryz.sizeOf67
  v51 := Tryz.zeroValue67
  t53 := Tryz.underlying25
  a53 := Tryz.isAgg25
  z53 := Tryz.sizeOf25
  v53 := Tryz.zeroValue25
  t171 := Tryz.underlying280
  a171 := Tryz.isAgg280
  z171 := Tryz.sizeOf280
  v171 := Tryz.zeroValue280
  t173 := Tryz.underlying283
  a173 := Tryz.isAgg283
  z173 := Tryz.sizeOf283
  v173 := Tryz.zeroValue283
  t212 := Tryz.underlying309
  a212 := Tryz.isAgg309
  z212 := Tryz.sizeOf309
  v212 := Tryz.zeroValue309
  t213 := Tryz.underlying310
  a213 := Tryz.isAgg310
  z213 := Tryz.sizeOf310
  t232 := Tryz.underlying345
  a232 := Tryz.isAgg345
  z232 := Tryz.sizeOf345
  v232 := Tryz.zeroValue345
  t233 := Tryz.underlying346
  a233 := Tryz.isAgg346
  z233 := Tryz.sizeOf346
  v233 := Tryz.zeroValue346
  g17 := by kernel_rfl
  g18 := by kernel_rfl
  g19 := by kernel_rfl
  i0 := by kernel_rfl
  i2 := by kernel_rfl
  i3 := by kernel_rfl
  i4 := by kernel_rfl
  i5 := by kernel_rfl
  i9 := by kernel_rfl
  i20 := by kernel_rfl
  i37 := by kernel_rfl
  i46 := by kernel_rfl
  i51 := by kernel_rfl
  i53 := by kernel_rfl
  i171 := by kernel_rfl
  i173 := by kernel_rfl
  i212 := by kernel_rfl
  i232 := by kernel_rfl
  i233 := by kernel_rfl
  m17 := by kernel_rfl
  m18 := by kernel_rfl
  m19 := by kernel_rfl }
open Go.RowKit Go.Sort Go.Lib in
/-- strconv.Itoa: "Itoa is equivalent to FormatInt(int64(i), 10).": i's DECIMAL NUMERAL ('Lib.itoa': a '-' where i is negative, then the digits), FOR EVERY int. The world behind the call: the world before it, new blocks behind the heap (the library's 'var a [24]byte'), draws. (LAID: no walk: one application.) -/
theorem Tryz.strconv_Itoa (n : Int) (h0 : -9223372036854775808 ≤ n) (h1 : n ≤ 9223372036854775807) (w : World) (htab : Lib.TabIs Tryz.prog w "internal/strconv.uint64pow10" .u64 Lib.pow10Tab) :
    Calls Tryz.prog 117 #[.int .i64 n] w fun e w' => e = .returned (.string ⟨(Lib.itoa n).toArray⟩) ∧ ∃ k os, w' = grow (w.drewN k) os := Any.strconv_Itoa Tryz.laysM171 n h0 h1 w htab
def Tryz.lays171_ren : Go.Shelf.Ren := ⟨fun | 171 => 117 | 243 => 140 | 246 => 164 | 283 => 159 | 284 => 160 | 285 => 161 | 286 => 162 | 129 => 183 | 317 => 182 | 318 => 184 | 319 => 185 | 320 => 186 | 337 => 195 | 338 => 196 | n => n, fun | 3 => 3 | 9 => 9 | 2 => 2 | 4 => 4 | 171 => 280 | 0 => 0 | 53 => 25 | 37 => 143 | 5 => 5 | 173 => 283 | 212 => 309 | 51 => 67 | 20 => 20 | 213 => 310 | 46 => 293 | 232 => 345 | 233 => 346 | n => n, fun | 17 => 8 | 18 => 13 | 19 => 14 | n => n⟩
theorem Tryz.lays171 : Go.Proofs.Lays.n171 Tryz.prog Tryz.lays171_ren := {
  mixed := by kernel_rfl
  f129 := Tryz.func183.trans (congrArg some (by kernel_rfl))
  f171 := Tryz.func117.trans (congrArg some (by kernel_rfl))
  f243 := Tryz.func140.trans (congrArg some (by kernel_rfl))
  f246 := Tryz.func164.trans (congrArg some (by kernel_rfl))
  f283 := Tryz.func159.trans (congrArg some (by kernel_rfl))
  f284 := Tryz.func160.trans (congrArg some (by kernel_rfl))
  f285 := Tryz.func161.trans (congrArg some (by kernel_rfl))
  f286 := Tryz.func162.trans (congrArg some (by kernel_rfl))
  f317 := Tryz.func182.trans (congrArg some (by kernel_rfl))
  f318 := Tryz.func184.trans (congrArg some (by kernel_rfl))
  f319 := Tryz.func185.trans (congrArg some (by kernel_rfl))
  f320 := Tryz.func186.trans (congrArg some (by kernel_rfl))
  f337 := Tryz.func195.trans (congrArg some (by kernel_rfl))
  f338 := Tryz.func196.trans (congrArg some (by kernel_rfl))
  t0 := Tryz.underlying0
  a0 := Tryz.isAgg0
  z0 := Tryz.sizeOf0
  v0 := Tryz.zeroValue0
  t2 := Tryz.underlying2
  a2 := Tryz.isAgg2
  z2 := Tryz.sizeOf2
  v2 := Tryz.zeroValue2
  t3 := Tryz.underlying3
  a3 := Tryz.isAgg3
  z3 := Tryz.sizeOf3
  v3 := Tryz.zeroValue3
  t4 := Tryz.underlying4
  a4 := Tryz.isAgg4
  z4 := Tryz.sizeOf4
  v4 := Tryz.zeroValue4
  t5 := Tryz.underlying5
  a5 := Tryz.isAgg5
  z5 := Tryz.sizeOf5
  v5 := Tryz.zeroValue5
  t9 := Tryz.underlying9
  a9 := Tryz.isAgg9
  z9 := Tryz.sizeOf9
  v9 := Tryz.zeroValue9
  t20 := Tryz.underlying20
  a20 := Tryz.isAgg20
  z20 := Tryz.sizeOf20
  v20 := Tryz.zeroValue20
  t37 := Tryz.underlying143
  a37 := Tryz.isAgg143
  z37 := Tryz.sizeOf143
  v37 := Tryz.zeroValue143
  t46 := Tryz.underlying293
  a46 := Tryz.isAgg293
  z46 := Tryz.sizeOf293
  v46 := Tryz.zeroValue293
  t51 := Tryz.underlying67
  a51 := Tryz.isAgg67
  z51 := Tryz.sizeOf67
  v51 := Tryz.zeroValue67
  t53 := Tryz.underlying25
  a53 := Tryz.isAgg25
  z53 := Tryz.sizeOf25
  v53 := Tryz.zeroValue25
  t171 := Tryz.underlying280
  a171 := Tryz.isAgg280
  z171 := Tryz.sizeOf280
  v171 := Tryz.zeroValue280
  t173 := Tryz.underlying283
  a173 := Tryz.isAgg283
  z173 := Tryz.sizeOf283
  v173 := Tryz.zeroValue283
  t212 := Tryz.underlying309
  a212 := Tryz.isAgg309
  z212 := Tryz.sizeOf309
  v212 := Tryz.zeroValue309
  t213 := Tryz.underlying310
  a213 := Tryz.isAgg310
  z213 := Tryz.sizeOf310
  t232 := Tryz.underlying345
  a232 := Tryz.isAgg345
  z232 := Tryz.sizeOf345
  v232 := Tryz.zeroValue345
  t233 := Tryz.underlying346
  a233 := Tryz.isAgg346
  z233 := Tryz.sizeOf346
  v233 := Tryz.zeroValue346
  g17 := by kernel_rfl
  g18 := by kernel_rfl
  g19 := by kernel_rfl }
open Go.RowKit Go.Sort Go.Lib in
/-- THE ROAD WITHOUT THE TABLE: 0 <= i < 100: NO PREMISE ON THE WORLD, AND THE WORLD IS AS IT WAS: a row that keeps its argument in that range need list no table ('laid = []'). (LAID: no walk: one application.) -/
theorem Tryz.strconv_Itoa_small (i : Nat) (hi : i < 100) (w : World) :
    Calls Tryz.prog 117 #[.int .i64 i] w fun e w' => e = .returned (.string ⟨(Lib.decDigits i).toArray⟩) ∧ w' = w := Any.strconv_Itoa_small Tryz.lays171 i hi w
open Go.RowKit in
/-- internal/strconv.Atoi, at a string of 1 to 18 bytes THAT IS NO DECIMAL NUMERAL: 0, AND ErrSyntax (the package's own error number 2). The world behind the call: as it was, or with the one new row that '[]byte(s)' lays. (LAID: no walk: one application.) -/
theorem Tryz.internal_strconv_Atoi_err (s : ByteArray) (hl0 : 1 ≤ s.size) (hl : s.size ≤ 18) (h : Lib.atoi s.data.toList = none) (w : World) :
    Calls Tryz.prog 153 #[.string s] w fun e w' => e = .returned (.tuple #[.int .i64 0, (.iface 292 (.int .i64 2))]) ∧ (w' = w ∨ ∃ t, w' = Lib.bytesWorld w 5 t) := Any.internal_strconv_Atoi_err Tryz.lays244 s hl0 hl h w
def Tryz.lays247_ren : Go.Shelf.Ren := ⟨fun | 247 => 144 | 287 => 157 | 321 => 180 | 322 => 181 | n => n, fun | 9 => 9 | 3 => 3 | 2 => 2 | 75 => 111 | 4 => 4 | 167 => 292 | 5 => 5 | 53 => 25 | 175 => 263 | 46 => 293 | 37 => 143 | 0 => 0 | 21 => 21 | 80 => 138 | n => n, fun | n => n⟩
theorem Tryz.lays247 : Go.Proofs.Lays.n247 Tryz.prog Tryz.lays247_ren := {
  mixed := by kernel_rfl
  f247 := Tryz.func144.trans (congrArg some (by kernel_rfl))
  f287 := Tryz.func157.trans (congrArg some (by kernel_rfl))
  f321 := Tryz.func180.trans (congrArg some (by kernel_rfl))
  f322 := Tryz.func181.trans (congrArg some (by kernel_rfl))
  t0 := Tryz.underlying0
  a0 := Tryz.isAgg0
  z0 := Tryz.sizeOf0
  v0 := Tryz.zeroValue0
  t2 := Tryz.underlying2
  a2 := Tryz.isAgg2
  z2 := Tryz.sizeOf2
  v2 := Tryz.zeroValue2
  t3 := Tryz.underlying3
  a3 := Tryz.isAgg3
  z3 := Tryz.sizeOf3
  v3 := Tryz.zeroValue3
  t4 := Tryz.underlying4
  a4 := Tryz.isAgg4
  z4 := Tryz.sizeOf4
  v4 := Tryz.zeroValue4
  t5 := Tryz.underlying5
  a5 := Tryz.isAgg5
  z5 := Tryz.sizeOf5
  v5 := Tryz.zeroValue5
  t9 := Tryz.underlying9
  a9 := Tryz.isAgg9
  z9 := Tryz.sizeOf9
  v9 := Tryz.zeroValue9
  t21 := Tryz.underlying21
  a21 := Tryz.isAgg21
  z21 := Tryz.sizeOf21
  v21 := Tryz.zeroValue21
  t37 := Tryz.underlying143
  a37 := Tryz.isAgg143
  z37 := Tryz.sizeOf143
  v37 := Tryz.zeroValue143
  t46 := Tryz.underlying293
  a46 := Tryz.isAgg293
  z46 := Tryz.sizeOf293
  v46 := Tryz.zeroValue293
  t53 := Tryz.underlying25
  a53 := Tryz.isAgg25
  z53 := Tryz.sizeOf25
  v53 := Tryz.zeroValue25
  t75 := Tryz.underlying111
  a75 := Tryz.isAgg111
  z75 := Tryz.sizeOf111
  v75 := Tryz.zeroValue111
  t167 := Tryz.underlying292
  a167 := Tryz.isAgg292
  z167 := Tryz.sizeOf292
  v167 := Tryz.zeroValue292
  t175 := Tryz.underlying263
  a175 := Tryz.isAgg263
  z175 := Tryz.sizeOf263
  v175 := Tryz.zeroValue263 }
open Go.RowKit in
/-- internal/strconv.ParseInt at "": 'if s == "" { return 0, ErrSyntax }'. The world is as it was. (LAID: no walk: one application.) -/
theorem Tryz.internal_strconv_ParseInt_empty (base bits : Int) (w : World) :
    Calls Tryz.prog 144 #[.string ⟨#[]⟩, .int .i64 base, .int .i64 bits] w fun e w' => e = .returned (.tuple #[.int .i64 0, (.iface 292 (.int .i64 2))]) ∧ w' = w := Any.internal_strconv_ParseInt_empty Tryz.lays247 base bits w
open Go.RowKit in
/-- internal/strconv.Atoi at "". (LAID: no walk: one application.) -/
theorem Tryz.internal_strconv_Atoi_empty (w : World) :
    Calls Tryz.prog 153 #[.string ⟨#[]⟩] w fun e w' => e = .returned (.tuple #[.int .i64 0, (.iface 292 (.int .i64 2))]) ∧ w' = w := Any.internal_strconv_Atoi_empty Tryz.lays244 w
open Go.RowKit in
/-- internal/strconv.Atoi, AT EVERY STRING OF AT MOST 18 BYTES THAT IS NO DECIMAL NUMERAL: 0, and ErrSyntax. (LAID: no walk: one application.) -/
theorem Tryz.internal_strconv_Atoi_fail (s : ByteArray) (hl : s.size ≤ 18) (h : Lib.atoi s.data.toList = none) (w : World) :
    Calls Tryz.prog 153 #[.string s] w fun e w' => e = .returned (.tuple #[.int .i64 0, (.iface 292 (.int .i64 2))]) ∧ (w' = w ∨ ∃ t, w' = Lib.bytesWorld w 5 t) := Any.internal_strconv_Atoi_fail Tryz.lays244 s hl h w
def Tryz.laysM316_ren : Go.Shelf.Ren := ⟨fun | 316 => 189 | n => n, fun | 9 => 9 | 3 => 3 | 4 => 4 | 37 => 143 | 0 => 0 | 127 => 341 | 5 => 5 | n => n, fun | n => n⟩
theorem Tryz.laysM316 : Go.Proofs.LaysM.n316 Tryz.prog Tryz.laysM316_ren := {
  mixed := by kernel_rfl
  f316 := Tryz.func189.trans (congrArg some (by kernel_rfl))
  t0 := Tryz.underlying0
  a0 := Tryz.isAgg0
  z0 := Tryz.sizeOf0
  v0 := Tryz.zeroValue0
  t3 := Tryz.underlying3
  a3 := Tryz.isAgg3
  z3 := Tryz.sizeOf3
  v3 := Tryz.zeroValue3
  t4 := Tryz.underlying4
  a4 := Tryz.isAgg4
  z4 := Tryz.sizeOf4
  v4 := Tryz.zeroValue4
  t9 := Tryz.underlying9
  a9 := Tryz.isAgg9
  z9 := Tryz.sizeOf9
  v9 := Tryz.zeroValue9
  t37 := Tryz.underlying143
  a37 := Tryz.isAgg143
  z37 := Tryz.sizeOf143
  v37 := Tryz.zeroValue143
  t127 := Tryz.underlying341
  a127 := Tryz.isAgg341
  z127 := Tryz.sizeOf341
  v127 := Tryz.zeroValue341
  t5 := Tryz.underlying5
  a5 := Tryz.isAgg5
  z5 := Tryz.sizeOf5
  v5 := Tryz.zeroValue5
  i0 := by kernel_rfl
  i3 := by kernel_rfl
  i4 := by kernel_rfl
  i5 := by kernel_rfl
  i9 := by kernel_rfl
  i37 := by kernel_rfl
  i127 := by kernel_rfl }
open Go.RowKit in
/-- internal/stringslite.Clone (what strings.Clone calls): "Clone returns a fresh copy of s.": THE SAME BYTES. Of what was there nothing has turned (a new row is laid, and frozen, where s is not empty). (LAID: no walk: one application.) -/
theorem Tryz.stringslite_Clone (s : ByteArray) (w : World) (hlim : s.size ≤ 281474976710656) :
    Calls Tryz.prog 189 #[.string s] w fun e w' => e = .returned (.string s) ∧ Below w.heap.size w w' := Any.stringslite_Clone Tryz.laysM316 s w hlim
def Tryz.laysM279_ren : Go.Shelf.Ren := ⟨fun | 279 => 166 | 316 => 189 | n => n, fun | 9 => 9 | 168 => 294 | 75 => 111 | 210 => 324 | 3 => 3 | 4 => 4 | 37 => 143 | 0 => 0 | 127 => 341 | 80 => 138 | 5 => 5 | n => n, fun | 15 => 9 | n => n⟩
theorem Tryz.laysM279 : Go.Proofs.LaysM.n279 Tryz.prog Tryz.laysM279_ren := {
  mixed := by kernel_rfl
  f279 := Tryz.func166.trans (congrArg some (by kernel_rfl))
  f316 := Tryz.func189.trans (congrArg some (by kernel_rfl))
  t0 := Tryz.underlying0
  a0 := Tryz.isAgg0
  z0 := Tryz.sizeOf0
  v0 := Tryz.zeroValue0
  t3 := Tryz.underlying3
  a3 := Tryz.isAgg3
  z3 := Tryz.sizeOf3
  v3 := Tryz.zeroValue3
  t4 := Tryz.underlying4
  a4 := Tryz.isAgg4
  z4 := Tryz.sizeOf4
  v4 := Tryz.zeroValue4
  t9 := Tryz.underlying9
  a9 := Tryz.isAgg9
  z9 := Tryz.sizeOf9
  v9 := Tryz.zeroValue9
  t37 := Tryz.underlying143
  a37 := Tryz.isAgg143
  z37 := Tryz.sizeOf143
  v37 := Tryz.zeroValue143
  t75 := Tryz.underlying111
  a75 := Tryz.isAgg111
  z75 := Tryz.sizeOf111
  v75 := Tryz.zeroValue111
  t127 := Tryz.underlying341
  a127 := Tryz.isAgg341
  z127 := Tryz.sizeOf341
  v127 := Tryz.zeroValue341
  t168 := Tryz.underlying294
  a168 := Tryz.isAgg294
  z168 := Tryz.sizeOf294
  v168 := Tryz.zeroValue294
  t210 := Tryz.underlying324
  a210 := Tryz.isAgg324
  z210 := Tryz.sizeOf324
  v210 := Tryz.zeroValue324
  g15 := by kernel_rfl
  t5 := Tryz.underlying5
  a5 := Tryz.isAgg5
  z5 := Tryz.sizeOf5
  v5 := Tryz.zeroValue5
  t80 := Tryz.underlying138
  a80 := Tryz.isAgg138
  z80 := Tryz.sizeOf138
  v80 := Tryz.zeroValue138
  i0 := by kernel_rfl
  i3 := by kernel_rfl
  i4 := by kernel_rfl
  i5 := by kernel_rfl
  i9 := by kernel_rfl
  i37 := by kernel_rfl
  i75 := by kernel_rfl
  i80 := by kernel_rfl
  i127 := by kernel_rfl
  i168 := by kernel_rfl
  i210 := by kernel_rfl
  m15 := by kernel_rfl }
open Go.RowKit in
/-- strconv.syntaxError: '&NumError{fn, stringslite.Clone(str), ErrSyntax}': A POINTER TO A NEW BLOCK that holds fn, str's bytes, and what the variable ErrSyntax holds. Of what was there nothing has turned. (LAID: no walk: one application.) -/
theorem Tryz.strconv_syntaxError (fn s : ByteArray) (ev : Value) (w : World) (hlim : s.size ≤ 281474976710656) (hv : w.cell? ⟨9, 0, none⟩ = some ev) (hev : ev = .nilIface ∨ ∃ te pe, ev = .iface te pe) :
    Calls Tryz.prog 166 #[.string fn, .string s] w fun e w' => ∃ N, e = .returned (.pointer (some ⟨N, 0, none⟩)) ∧ w.heap.size ≤ N ∧ w'.heap[N]? = some (.cells #[.string fn, .string s, ev] 324 (0, 0)) ∧ Below w.heap.size w w' := Any.strconv_syntaxError Tryz.laysM279 fn s ev w hlim hv hev
def Tryz.laysC245_ren : Go.Shelf.Ren := ⟨fun | 245 => 145 | 279 => 166 | 280 => 167 | 281 => 168 | 282 => 169 | 316 => 189 | 171 => 117 | 205 => 190 | 243 => 140 | 246 => 164 | 283 => 159 | 284 => 160 | 285 => 161 | 286 => 162 | 129 => 183 | 317 => 182 | 318 => 184 | 319 => 185 | 320 => 186 | 337 => 195 | 338 => 196 | n => n, fun | 9 => 9 | 3 => 3 | 75 => 111 | 167 => 292 | 4 => 4 | 168 => 294 | 210 => 324 | 37 => 143 | 0 => 0 | 127 => 341 | 145 => 344 | 143 => 342 | 2 => 2 | 171 => 280 | 53 => 25 | 5 => 5 | 173 => 283 | 212 => 309 | 51 => 67 | 20 => 20 | 213 => 310 | 46 => 293 | 232 => 345 | 233 => 346 | 80 => 138 | n => n, fun | 15 => 9 | 16 => 10 | 17 => 8 | 18 => 13 | 19 => 14 | n => n⟩
theorem Tryz.laysC245 : Go.Proofs.LaysC.n245 Tryz.prog Tryz.laysC245_ren := {
  mixed := by kernel_rfl
  f129 := Tryz.func183.trans (congrArg some (by kernel_rfl))
  f171 := Tryz.func117.trans (congrArg some (by kernel_rfl))
  f205 := Tryz.func190.trans (congrArg some (by kernel_rfl))
  f243 := Tryz.func140.trans (congrArg some (by kernel_rfl))
  f245 := Tryz.func145.trans (congrArg some (by kernel_rfl))
  f246 := Tryz.func164.trans (congrArg some (by kernel_rfl))
  f279 := Tryz.func166.trans (congrArg some (by kernel_rfl))
  f280 := Tryz.func167.trans (congrArg some (by kernel_rfl))
  f281 := Tryz.func168.trans (congrArg some (by kernel_rfl))
  f282 := Tryz.func169.trans (congrArg some (by kernel_rfl))
  f283 := Tryz.func159.trans (congrArg some (by kernel_rfl))
  f284 := Tryz.func160.trans (congrArg some (by kernel_rfl))
  f285 := Tryz.func161.trans (congrArg some (by kernel_rfl))
  f286 := Tryz.func162.trans (congrArg some (by kernel_rfl))
  f316 := Tryz.func189.trans (congrArg some (by kernel_rfl))
  f317 := Tryz.func182.trans (congrArg some (by kernel_rfl))
  f318 := Tryz.func184.trans (congrArg some (by kernel_rfl))
  f319 := Tryz.func185.trans (congrArg some (by kernel_rfl))
  f320 := Tryz.func186.trans (congrArg some (by kernel_rfl))
  f337 := Tryz.func195.trans (congrArg some (by kernel_rfl))
  f338 := Tryz.func196.trans (congrArg some (by kernel_rfl))
  t0 := Tryz.underlying0
  a0 := Tryz.isAgg0
  z0 := Tryz.sizeOf0
  v0 := Tryz.zeroValue0
  t2 := Tryz.underlying2
  a2 := Tryz.isAgg2
  z2 := Tryz.sizeOf2
  v2 := Tryz.zeroValue2
  t3 := Tryz.underlying3
  a3 := Tryz.isAgg3
  z3 := Tryz.sizeOf3
  v3 := Tryz.zeroValue3
  t4 := Tryz.underlying4
  a4 := Tryz.isAgg4
  z4 := Tryz.sizeOf4
  v4 := Tryz.zeroValue4
  t5 := Tryz.underlying5
  a5 := Tryz.isAgg5
  z5 := Tryz.sizeOf5
  v5 := Tryz.zeroValue5
  t9 := Tryz.underlying9
  a9 := Tryz.isAgg9
  z9 := Tryz.sizeOf9
  v9 := Tryz.zeroValue9
  t20 := Tryz.underlying20
  a20 := Tryz.isAgg20
  z20 := Tryz.sizeOf20
  v20 := Tryz.zeroValue20
  t37 := Tryz.underlying143
  a37 := Tryz.isAgg143
  z37 := Tryz.sizeOf143
  v37 := Tryz.zeroValue143
  t46 := Tryz.underlying293
  a46 := Tryz.isAgg293
  z46 := Tryz.sizeOf293
  v46 := Tryz.zeroValue293
  t51 := Tryz.underlying67
  a51 := Tryz.isAgg67
  z51 := Tryz.sizeOf67
  v51 := Tryz.zeroValue67
  t53 := Tryz.underlying25
  a53 := Tryz.isAgg25
  z53 := Tryz.sizeOf25
  v53 := Tryz.zeroValue25
  t75 := Tryz.underlying111
  a75 := Tryz.isAgg111
  z75 := Tryz.sizeOf111
  v75 := Tryz.zeroValue111
  t127 := Tryz.underlying341
  a127 := Tryz.isAgg341
  z127 := Tryz.sizeOf341
  v127 := Tryz.zeroValue341
  t143 := Tryz.underlying342
  a143 := Tryz.isAgg342
  z143 := Tryz.sizeOf342
  v143 := Tryz.zeroValue342
  t145 := Tryz.underlying344
  a145 := Tryz.isAgg344
  z145 := Tryz.sizeOf344
  v145 := Tryz.zeroValue344
  t167 := Tryz.underlying292
  a167 := Tryz.isAgg292
  z167 := Tryz.sizeOf292
  v167 := Tryz.zeroValue292
  t168 := Tryz.underlying294
  a168 := Tryz.isAgg294
  z168 := Tryz.sizeOf294
  v168 := Tryz.zeroValue294
  t171 := Tryz.underlying280
  a171 := Tryz.isAgg280
  z171 := Tryz.sizeOf280
  v171 := Tryz.zeroValue280
  t173 := Tryz.underlying283
  a173 := Tryz.isAgg283
  z173 := Tryz.sizeOf283
  v173 := Tryz.zeroValue283
  t210 := Tryz.underlying324
  a210 := Tryz.isAgg324
  z210 := Tryz.sizeOf324
  v210 := Tryz.zeroValue324
  t212 := Tryz.underlying309
  a212 := Tryz.isAgg309
  z212 := Tryz.sizeOf309
  v212 := Tryz.zeroValue309
  t213 := Tryz.underlying310
  a213 := Tryz.isAgg310
  z213 := Tryz.sizeOf310
  t232 := Tryz.underlying345
  a232 := Tryz.isAgg345
  z232 := Tryz.sizeOf345
  v232 := Tryz.zeroValue345
  t233 := Tryz.underlying346
  a233 := Tryz.isAgg346
  z233 := Tryz.sizeOf346
  v233 := Tryz.zeroValue346
  g15 := by kernel_rfl
  g16 := by kernel_rfl
  g17 := by kernel_rfl
  g18 := by kernel_rfl
  g19 := by kernel_rfl
  t80 := Tryz.underlying138
  a80 := Tryz.isAgg138
  z80 := Tryz.sizeOf138
  v80 := Tryz.zeroValue138
  i0 := by kernel_rfl
  i2 := by kernel_rfl
  i3 := by kernel_rfl
  i4 := by kernel_rfl
  i5 := by kernel_rfl
  i9 := by kernel_rfl
  i20 := by kernel_rfl
  i37 := by kernel_rfl
  i46 := by kernel_rfl
  i51 := by kernel_rfl
  i53 := by kernel_rfl
  i75 := by kernel_rfl
  i80 := by kernel_rfl
  i127 := by kernel_rfl
  i143 := by kernel_rfl
  i145 := by kernel_rfl
  i167 := by kernel_rfl
  i168 := by kernel_rfl
  i171 := by kernel_rfl
  i173 := by kernel_rfl
  i210 := by kernel_rfl
  i212 := by kernel_rfl
  i232 := by kernel_rfl
  i233 := by kernel_rfl
  m15 := by kernel_rfl
  m16 := by kernel_rfl
  m17 := by kernel_rfl
  m18 := by kernel_rfl
  m19 := by kernel_rfl
  c0 := by kernel_rfl
  c2 := by kernel_rfl
  c3 := by kernel_rfl
  c4 := by kernel_rfl
  c5 := by kernel_rfl
  c9 := by kernel_rfl
  c20 := by kernel_rfl
  c37 := by kernel_rfl
  c46 := by kernel_rfl
  c51 := by kernel_rfl
  c53 := by kernel_rfl
  c75 := by kernel_rfl
  c80 := by kernel_rfl
  c127 := by kernel_rfl
  c143 := by kernel_rfl
  c145 := by kernel_rfl
  c167 := by kernel_rfl
  c168 := by kernel_rfl
  c171 := by kernel_rfl
  c173 := by kernel_rfl
  c210 := by kernel_rfl
  c212 := by kernel_rfl
  c213 := by kernel_rfl
  c232 := by kernel_rfl
  c233 := by kernel_rfl }
open Go.RowKit in
/-- strconv.toError, at the inner package's ErrSyntax: 'syntaxError(fn, s)' as an error: A *NumError IN A NEW BLOCK. (LAID: no walk: one application.) -/
theorem Tryz.strconv_toError_syntax (fn s : ByteArray) (base bits : Int) (ev : Value) (w : World) (hlim : s.size ≤ 281474976710656) (hv : w.cell? ⟨9, 0, none⟩ = some ev) (hev : ev = .nilIface ∨ ∃ te pe, ev = .iface te pe) :
    Calls Tryz.prog 145 #[.string fn, .string s, .int .i64 base, .int .i64 bits, .iface 292 (.int .i64 2)] w fun e w' => ∃ N, e = .returned (.iface 294 (.pointer (some ⟨N, 0, none⟩))) ∧ w.heap.size ≤ N ∧ w'.heap[N]? = some (.cells #[.string fn, .string s, ev] 324 (0, 0)) ∧ Below w.heap.size w w' := Any.strconv_toError_syntax Tryz.laysC245 fn s base bits ev w hlim hv hev
def Tryz.lays321_ren : Go.Shelf.Ren := ⟨fun | 321 => 180 | n => n, fun | 5 => 5 | n => n, fun | n => n⟩
theorem Tryz.lays321 : Go.Proofs.Lays.n321 Tryz.prog Tryz.lays321_ren := {
  mixed := by kernel_rfl
  f321 := Tryz.func180.trans (congrArg some (by kernel_rfl))
  t5 := Tryz.underlying5
  a5 := Tryz.isAgg5
  z5 := Tryz.sizeOf5
  v5 := Tryz.zeroValue5 }
open Go.RowKit in
/-- internal/strconv.lower: 'c | ('x' - 'X')': the bit 32 set. The world is as it was. (LAID: no walk: one application.) -/
theorem Tryz.internal_strconv_lower (c : Int) (w : World) :
    Calls Tryz.prog 180 #[.int .u8 c] w fun e w' => e = .returned (.int .u8 (bits .or .u8 c 32)) ∧ w' = w := Any.internal_strconv_lower Tryz.lays321 c w
def Tryz.lays287_ren : Go.Shelf.Ren := ⟨fun | 287 => 157 | 321 => 180 | 322 => 181 | n => n, fun | 9 => 9 | 3 => 3 | 53 => 25 | 75 => 111 | 4 => 4 | 167 => 292 | 5 => 5 | 46 => 293 | 37 => 143 | 0 => 0 | 21 => 21 | 80 => 138 | n => n, fun | n => n⟩
theorem Tryz.lays287 : Go.Proofs.Lays.n287 Tryz.prog Tryz.lays287_ren := {
  mixed := by kernel_rfl
  f287 := Tryz.func157.trans (congrArg some (by kernel_rfl))
  f321 := Tryz.func180.trans (congrArg some (by kernel_rfl))
  f322 := Tryz.func181.trans (congrArg some (by kernel_rfl))
  t0 := Tryz.underlying0
  a0 := Tryz.isAgg0
  z0 := Tryz.sizeOf0
  v0 := Tryz.zeroValue0
  t3 := Tryz.underlying3
  a3 := Tryz.isAgg3
  z3 := Tryz.sizeOf3
  v3 := Tryz.zeroValue3
  t4 := Tryz.underlying4
  a4 := Tryz.isAgg4
  z4 := Tryz.sizeOf4
  v4 := Tryz.zeroValue4
  t5 := Tryz.underlying5
  a5 := Tryz.isAgg5
  z5 := Tryz.sizeOf5
  v5 := Tryz.zeroValue5
  t9 := Tryz.underlying9
  a9 := Tryz.isAgg9
  z9 := Tryz.sizeOf9
  v9 := Tryz.zeroValue9
  t21 := Tryz.underlying21
  a21 := Tryz.isAgg21
  z21 := Tryz.sizeOf21
  v21 := Tryz.zeroValue21
  t37 := Tryz.underlying143
  a37 := Tryz.isAgg143
  z37 := Tryz.sizeOf143
  v37 := Tryz.zeroValue143
  t46 := Tryz.underlying293
  a46 := Tryz.isAgg293
  z46 := Tryz.sizeOf293
  v46 := Tryz.zeroValue293
  t53 := Tryz.underlying25
  a53 := Tryz.isAgg25
  z53 := Tryz.sizeOf25
  v53 := Tryz.zeroValue25
  t75 := Tryz.underlying111
  a75 := Tryz.isAgg111
  z75 := Tryz.sizeOf111
  v75 := Tryz.zeroValue111
  t167 := Tryz.underlying292
  a167 := Tryz.isAgg292
  z167 := Tryz.sizeOf292
  v167 := Tryz.zeroValue292 }
open Go.RowKit in
/-- internal/strconv.ParseUint(s, 10, 0), s NOT EMPTY: 'Lib.parseUint10 0' OF ITS BYTES: the number; or (0, ErrSyntax); or (the greatest uint64, ErrRange). The world behind the call: the one new row that '[]byte(s)' lays. (LAID: no walk: one application.) -/
theorem Tryz.internal_strconv_ParseUint_10 (t : ByteArray) (hne : t.size ≠ 0) (hmax : t.size ≤ 9223372036854775806) (w : World) :
    Calls Tryz.prog 157 #[.string t, .int .i64 10, .int .i64 0] w fun e w' => e = .returned (Lib.uintTuple 292 (Lib.parseUint10 0 t.data.toList)) ∧ w' = Lib.bytesWorld w 5 t := Any.internal_strconv_ParseUint_10 Tryz.lays287 t hne hmax w
open Go.RowKit in
/-- internal/strconv.ParseUint(s, 10, 0): 'Lib.parseMag' OF ITS BYTES. The world: as it was (the empty string), or with the one new row that '[]byte(s)' lays. (LAID: no walk: one application.) -/
theorem Tryz.internal_strconv_ParseUint_10_any (t : ByteArray) (hmax : t.size ≤ 9223372036854775806) (w : World) :
    Calls Tryz.prog 157 #[.string t, .int .i64 10, .int .i64 0] w fun e w' => e = .returned (Lib.uintTuple 292 (Lib.parseMag t.data.toList)) ∧ (w' = w ∨ w' = Lib.bytesWorld w 5 t) := Any.internal_strconv_ParseUint_10_any Tryz.lays287 t hmax w
def Tryz.laysC247_ren : Go.Shelf.Ren := ⟨fun | 247 => 144 | 287 => 157 | 321 => 180 | 322 => 181 | n => n, fun | 9 => 9 | 3 => 3 | 2 => 2 | 75 => 111 | 4 => 4 | 167 => 292 | 5 => 5 | 53 => 25 | 175 => 263 | 46 => 293 | 37 => 143 | 0 => 0 | 21 => 21 | 80 => 138 | n => n, fun | n => n⟩
theorem Tryz.laysC247 : Go.Proofs.LaysC.n247 Tryz.prog Tryz.laysC247_ren := {
  mixed := by kernel_rfl
  f247 := Tryz.func144.trans (congrArg some (by kernel_rfl))
  f287 := Tryz.func157.trans (congrArg some (by kernel_rfl))
  f321 := Tryz.func180.trans (congrArg some (by kernel_rfl))
  f322 := Tryz.func181.trans (congrArg some (by kernel_rfl))
  t0 := Tryz.underlying0
  a0 := Tryz.isAgg0
  z0 := Tryz.sizeOf0
  v0 := Tryz.zeroValue0
  t2 := Tryz.underlying2
  a2 := Tryz.isAgg2
  z2 := Tryz.sizeOf2
  v2 := Tryz.zeroValue2
  t3 := Tryz.underlying3
  a3 := Tryz.isAgg3
  z3 := Tryz.sizeOf3
  v3 := Tryz.zeroValue3
  t4 := Tryz.underlying4
  a4 := Tryz.isAgg4
  z4 := Tryz.sizeOf4
  v4 := Tryz.zeroValue4
  t5 := Tryz.underlying5
  a5 := Tryz.isAgg5
  z5 := Tryz.sizeOf5
  v5 := Tryz.zeroValue5
  t9 := Tryz.underlying9
  a9 := Tryz.isAgg9
  z9 := Tryz.sizeOf9
  v9 := Tryz.zeroValue9
  t21 := Tryz.underlying21
  a21 := Tryz.isAgg21
  z21 := Tryz.sizeOf21
  v21 := Tryz.zeroValue21
  t37 := Tryz.underlying143
  a37 := Tryz.isAgg143
  z37 := Tryz.sizeOf143
  v37 := Tryz.zeroValue143
  t46 := Tryz.underlying293
  a46 := Tryz.isAgg293
  z46 := Tryz.sizeOf293
  v46 := Tryz.zeroValue293
  t53 := Tryz.underlying25
  a53 := Tryz.isAgg25
  z53 := Tryz.sizeOf25
  v53 := Tryz.zeroValue25
  t75 := Tryz.underlying111
  a75 := Tryz.isAgg111
  z75 := Tryz.sizeOf111
  v75 := Tryz.zeroValue111
  t167 := Tryz.underlying292
  a167 := Tryz.isAgg292
  z167 := Tryz.sizeOf292
  v167 := Tryz.zeroValue292
  t175 := Tryz.underlying263
  a175 := Tryz.isAgg263
  z175 := Tryz.sizeOf263
  v175 := Tryz.zeroValue263
  t80 := Tryz.underlying138
  a80 := Tryz.isAgg138
  z80 := Tryz.sizeOf138
  v80 := Tryz.zeroValue138
  i0 := by kernel_rfl
  i2 := by kernel_rfl
  i3 := by kernel_rfl
  i4 := by kernel_rfl
  i5 := by kernel_rfl
  i9 := by kernel_rfl
  i21 := by kernel_rfl
  i37 := by kernel_rfl
  i46 := by kernel_rfl
  i53 := by kernel_rfl
  i75 := by kernel_rfl
  i80 := by kernel_rfl
  i167 := by kernel_rfl
  i175 := by kernel_rfl
  c0 := by kernel_rfl
  c2 := by kernel_rfl
  c3 := by kernel_rfl
  c4 := by kernel_rfl
  c5 := by kernel_rfl
  c9 := by kernel_rfl
  c21 := by kernel_rfl
  c37 := by kernel_rfl
  c46 := by kernel_rfl
  c53 := by kernel_rfl
  c75 := by kernel_rfl
  c80 := by kernel_rfl
  c167 := by kernel_rfl
  c175 := by kernel_rfl }
open Go.RowKit in
/-- internal/strconv.ParseInt(s, 10, 0), s NOT EMPTY: 'Lib.atoiAll' OF ITS BYTES: (the number, nil); (0, ErrSyntax); (the greatest or the least int64 by the sign, ErrRange). The world: as it was, or with the one new row that '[]byte(..)' lays. (LAID: no walk: one application.) -/
theorem Tryz.internal_strconv_ParseInt_10 (s : ByteArray) (hne : s.size ≠ 0) (hmax : s.size ≤ 9223372036854775806) (w : World) :
    Calls Tryz.prog 144 #[.string s, .int .i64 10, .int .i64 0] w fun e w' => e = .returned (Lib.intTuple 292 (Lib.atoiSat s.data.toList) (Lib.atoiAll s.data.toList)) ∧ (w' = w ∨ ∃ t, w' = Lib.bytesWorld w 5 t) := Any.internal_strconv_ParseInt_10 Tryz.laysC247 s hne hmax w
def Tryz.laysC244_ren : Go.Shelf.Ren := ⟨fun | 244 => 153 | 247 => 144 | 287 => 157 | 321 => 180 | 322 => 181 | n => n, fun | 9 => 9 | 3 => 3 | 75 => 111 | 4 => 4 | 5 => 5 | 167 => 292 | 37 => 143 | 0 => 0 | 85 => 117 | 2 => 2 | 53 => 25 | 175 => 263 | 46 => 293 | 21 => 21 | 80 => 138 | n => n, fun | n => n⟩
theorem Tryz.laysC244 : Go.Proofs.LaysC.n244 Tryz.prog Tryz.laysC244_ren := {
  mixed := by kernel_rfl
  f244 := Tryz.func153.trans (congrArg some (by kernel_rfl))
  f247 := Tryz.func144.trans (congrArg some (by kernel_rfl))
  f287 := Tryz.func157.trans (congrArg some (by kernel_rfl))
  f321 := Tryz.func180.trans (congrArg some (by kernel_rfl))
  f322 := Tryz.func181.trans (congrArg some (by kernel_rfl))
  t0 := Tryz.underlying0
  a0 := Tryz.isAgg0
  z0 := Tryz.sizeOf0
  v0 := Tryz.zeroValue0
  t2 := Tryz.underlying2
  a2 := Tryz.isAgg2
  z2 := Tryz.sizeOf2
  v2 := Tryz.zeroValue2
  t3 := Tryz.underlying3
  a3 := Tryz.isAgg3
  z3 := Tryz.sizeOf3
  v3 := Tryz.zeroValue3
  t4 := Tryz.underlying4
  a4 := Tryz.isAgg4
  z4 := Tryz.sizeOf4
  v4 := Tryz.zeroValue4
  t5 := Tryz.underlying5
  a5 := Tryz.isAgg5
  z5 := Tryz.sizeOf5
  v5 := Tryz.zeroValue5
  t9 := Tryz.underlying9
  a9 := Tryz.isAgg9
  z9 := Tryz.sizeOf9
  v9 := Tryz.zeroValue9
  t21 := Tryz.underlying21
  a21 := Tryz.isAgg21
  z21 := Tryz.sizeOf21
  v21 := Tryz.zeroValue21
  t37 := Tryz.underlying143
  a37 := Tryz.isAgg143
  z37 := Tryz.sizeOf143
  v37 := Tryz.zeroValue143
  t46 := Tryz.underlying293
  a46 := Tryz.isAgg293
  z46 := Tryz.sizeOf293
  v46 := Tryz.zeroValue293
  t53 := Tryz.underlying25
  a53 := Tryz.isAgg25
  z53 := Tryz.sizeOf25
  v53 := Tryz.zeroValue25
  t75 := Tryz.underlying111
  a75 := Tryz.isAgg111
  z75 := Tryz.sizeOf111
  v75 := Tryz.zeroValue111
  t85 := Tryz.underlying117
  a85 := Tryz.isAgg117
  z85 := Tryz.sizeOf117
  v85 := Tryz.zeroValue117
  t167 := Tryz.underlying292
  a167 := Tryz.isAgg292
  z167 := Tryz.sizeOf292
  v167 := Tryz.zeroValue292
  t175 := Tryz.underlying263
  a175 := Tryz.isAgg263
  z175 := Tryz.sizeOf263
  v175 := Tryz.zeroValue263
  t80 := Tryz.underlying138
  a80 := Tryz.isAgg138
  z80 := Tryz.sizeOf138
  v80 := Tryz.zeroValue138
  i0 := by kernel_rfl
  i2 := by kernel_rfl
  i3 := by kernel_rfl
  i4 := by kernel_rfl
  i5 := by kernel_rfl
  i9 := by kernel_rfl
  i21 := by kernel_rfl
  i37 := by kernel_rfl
  i46 := by kernel_rfl
  i53 := by kernel_rfl
  i75 := by kernel_rfl
  i80 := by kernel_rfl
  i85 := by kernel_rfl
  i167 := by kernel_rfl
  i175 := by kernel_rfl
  c0 := by kernel_rfl
  c2 := by kernel_rfl
  c3 := by kernel_rfl
  c4 := by kernel_rfl
  c5 := by kernel_rfl
  c9 := by kernel_rfl
  c21 := by kernel_rfl
  c37 := by kernel_rfl
  c46 := by kernel_rfl
  c53 := by kernel_rfl
  c75 := by kernel_rfl
  c80 := by kernel_rfl
  c85 := by kernel_rfl
  c167 := by kernel_rfl
  c175 := by kernel_rfl }
open Go.RowKit in
/-- internal/strconv.Atoi, AT EVERY STRING OF 19 BYTES OR MORE: 'Lib.atoiAll' OF ITS BYTES: (the number, nil); (0, ErrSyntax); (the greatest or the least int by the sign, ErrRange). (LAID: no walk: one application.) -/
theorem Tryz.internal_strconv_Atoi_long (s : ByteArray) (h19 : 19 ≤ s.size) (hmax : s.size ≤ 9223372036854775806) (w : World) :
    Calls Tryz.prog 153 #[.string s] w fun e w' => e = .returned (Lib.intTuple 292 (Lib.atoiSat s.data.toList) (Lib.atoiAll s.data.toList)) ∧ (w' = w ∨ ∃ t, w' = Lib.bytesWorld w 5 t) := Any.internal_strconv_Atoi_long Tryz.laysC244 s h19 hmax w
open Go.RowKit in
/-- internal/strconv.Atoi, AT EVERY STRING: 'Lib.atoiAll' OF ITS BYTES: (the number, nil); (0, ErrSyntax); (the greatest or the least int by the sign, ErrRange). The world: as it was, or with the one new row that '[]byte(..)' lays. (LAID: no walk: one application.) -/
theorem Tryz.internal_strconv_Atoi_all (s : ByteArray) (hmax : s.size ≤ 9223372036854775806) (w : World) :
    Calls Tryz.prog 153 #[.string s] w fun e w' => e = .returned (Lib.intTuple 292 (Lib.atoiSat s.data.toList) (Lib.atoiAll s.data.toList)) ∧ (w' = w ∨ ∃ t, w' = Lib.bytesWorld w 5 t) := Any.internal_strconv_Atoi_all Tryz.laysC244 s hmax w
def Tryz.laysM280_ren : Go.Shelf.Ren := ⟨fun | 280 => 167 | 316 => 189 | n => n, fun | 9 => 9 | 168 => 294 | 75 => 111 | 210 => 324 | 3 => 3 | 4 => 4 | 37 => 143 | 0 => 0 | 127 => 341 | 80 => 138 | 5 => 5 | n => n, fun | 16 => 10 | n => n⟩
theorem Tryz.laysM280 : Go.Proofs.LaysM.n280 Tryz.prog Tryz.laysM280_ren := {
  mixed := by kernel_rfl
  f280 := Tryz.func167.trans (congrArg some (by kernel_rfl))
  f316 := Tryz.func189.trans (congrArg some (by kernel_rfl))
  t0 := Tryz.underlying0
  a0 := Tryz.isAgg0
  z0 := Tryz.sizeOf0
  v0 := Tryz.zeroValue0
  t3 := Tryz.underlying3
  a3 := Tryz.isAgg3
  z3 := Tryz.sizeOf3
  v3 := Tryz.zeroValue3
  t4 := Tryz.underlying4
  a4 := Tryz.isAgg4
  z4 := Tryz.sizeOf4
  v4 := Tryz.zeroValue4
  t9 := Tryz.underlying9
  a9 := Tryz.isAgg9
  z9 := Tryz.sizeOf9
  v9 := Tryz.zeroValue9
  t37 := Tryz.underlying143
  a37 := Tryz.isAgg143
  z37 := Tryz.sizeOf143
  v37 := Tryz.zeroValue143
  t75 := Tryz.underlying111
  a75 := Tryz.isAgg111
  z75 := Tryz.sizeOf111
  v75 := Tryz.zeroValue111
  t127 := Tryz.underlying341
  a127 := Tryz.isAgg341
  z127 := Tryz.sizeOf341
  v127 := Tryz.zeroValue341
  t168 := Tryz.underlying294
  a168 := Tryz.isAgg294
  z168 := Tryz.sizeOf294
  v168 := Tryz.zeroValue294
  t210 := Tryz.underlying324
  a210 := Tryz.isAgg324
  z210 := Tryz.sizeOf324
  v210 := Tryz.zeroValue324
  g16 := by kernel_rfl
  t5 := Tryz.underlying5
  a5 := Tryz.isAgg5
  z5 := Tryz.sizeOf5
  v5 := Tryz.zeroValue5
  t80 := Tryz.underlying138
  a80 := Tryz.isAgg138
  z80 := Tryz.sizeOf138
  v80 := Tryz.zeroValue138
  i0 := by kernel_rfl
  i3 := by kernel_rfl
  i4 := by kernel_rfl
  i5 := by kernel_rfl
  i9 := by kernel_rfl
  i37 := by kernel_rfl
  i75 := by kernel_rfl
  i80 := by kernel_rfl
  i127 := by kernel_rfl
  i168 := by kernel_rfl
  i210 := by kernel_rfl
  m16 := by kernel_rfl }
open Go.RowKit in
/-- strconv.rangeError: '&NumError{fn, stringslite.Clone(str), ErrRange}': A POINTER TO A NEW BLOCK that holds fn, str's bytes, and what the variable ErrRange holds. Of what was there nothing has turned. (LAID: no walk: one application.) -/
theorem Tryz.strconv_rangeError (fn s : ByteArray) (ev : Value) (w : World) (hlim : s.size ≤ 281474976710656) (hv : w.cell? ⟨10, 0, none⟩ = some ev) (hev : ev = .nilIface ∨ ∃ te pe, ev = .iface te pe) :
    Calls Tryz.prog 167 #[.string fn, .string s] w fun e w' => ∃ N, e = .returned (.pointer (some ⟨N, 0, none⟩)) ∧ w.heap.size ≤ N ∧ w'.heap[N]? = some (.cells #[.string fn, .string s, ev] 324 (0, 0)) ∧ Below w.heap.size w w' := Any.strconv_rangeError Tryz.laysM280 fn s ev w hlim hv hev
open Go.RowKit in
/-- strconv.toError, at the inner package's ErrRange: 'rangeError(fn, s)' as an error: A *NumError IN A NEW BLOCK. (LAID: no walk: one application.) -/
theorem Tryz.strconv_toError_range (fn s : ByteArray) (base bits : Int) (ev : Value) (w : World) (hlim : s.size ≤ 281474976710656) (hv : w.cell? ⟨10, 0, none⟩ = some ev) (hev : ev = .nilIface ∨ ∃ te pe, ev = .iface te pe) :
    Calls Tryz.prog 145 #[.string fn, .string s, .int .i64 base, .int .i64 bits, .iface 292 (.int .i64 1)] w fun e w' => ∃ N, e = .returned (.iface 294 (.pointer (some ⟨N, 0, none⟩))) ∧ w.heap.size ≤ N ∧ w'.heap[N]? = some (.cells #[.string fn, .string s, ev] 324 (0, 0)) ∧ Below w.heap.size w w' := Any.strconv_toError_range Tryz.laysC245 fn s base bits ev w hlim hv hev
def Tryz.laysC172_ren : Go.Shelf.Ren := ⟨fun | 172 => 131 | 244 => 153 | 245 => 145 | 247 => 144 | 279 => 166 | 280 => 167 | 281 => 168 | 282 => 169 | 287 => 157 | 316 => 189 | 171 => 117 | 205 => 190 | 321 => 180 | 322 => 181 | 243 => 140 | 246 => 164 | 283 => 159 | 284 => 160 | 285 => 161 | 286 => 162 | 129 => 183 | 317 => 182 | 318 => 184 | 319 => 185 | 320 => 186 | 337 => 195 | 338 => 196 | n => n, fun | 9 => 9 | 3 => 3 | 75 => 111 | 76 => 115 | 4 => 4 | 5 => 5 | 167 => 292 | 37 => 143 | 0 => 0 | 85 => 117 | 2 => 2 | 168 => 294 | 53 => 25 | 175 => 263 | 46 => 293 | 210 => 324 | 127 => 341 | 145 => 344 | 143 => 342 | 21 => 21 | 171 => 280 | 173 => 283 | 212 => 309 | 51 => 67 | 20 => 20 | 213 => 310 | 232 => 345 | 233 => 346 | 80 => 138 | n => n, fun | 15 => 9 | 16 => 10 | 17 => 8 | 18 => 13 | 19 => 14 | n => n⟩
theorem Tryz.laysC172 : Go.Proofs.LaysC.n172 Tryz.prog Tryz.laysC172_ren := {
  mixed := by kernel_rfl
  f129 := Tryz.func183.trans (congrArg some (by kernel_rfl))
  f171 := Tryz.func117.trans (congrArg some (by kernel_rfl))
  f172 := Tryz.func131.trans (congrArg some (by kernel_rfl))
  f205 := Tryz.func190.trans (congrArg some (by kernel_rfl))
  f243 := Tryz.func140.trans (congrArg some (by kernel_rfl))
  f244 := Tryz.func153.trans (congrArg some (by kernel_rfl))
  f245 := Tryz.func145.trans (congrArg some (by kernel_rfl))
  f246 := Tryz.func164.trans (congrArg some (by kernel_rfl))
  f247 := Tryz.func144.trans (congrArg some (by kernel_rfl))
  f279 := Tryz.func166.trans (congrArg some (by kernel_rfl))
  f280 := Tryz.func167.trans (congrArg some (by kernel_rfl))
  f281 := Tryz.func168.trans (congrArg some (by kernel_rfl))
  f282 := Tryz.func169.trans (congrArg some (by kernel_rfl))
  f283 := Tryz.func159.trans (congrArg some (by kernel_rfl))
  f284 := Tryz.func160.trans (congrArg some (by kernel_rfl))
  f285 := Tryz.func161.trans (congrArg some (by kernel_rfl))
  f286 := Tryz.func162.trans (congrArg some (by kernel_rfl))
  f287 := Tryz.func157.trans (congrArg some (by kernel_rfl))
  f316 := Tryz.func189.trans (congrArg some (by kernel_rfl))
  f317 := Tryz.func182.trans (congrArg some (by kernel_rfl))
  f318 := Tryz.func184.trans (congrArg some (by kernel_rfl))
  f319 := Tryz.func185.trans (congrArg some (by kernel_rfl))
  f320 := Tryz.func186.trans (congrArg some (by kernel_rfl))
  f321 := Tryz.func180.trans (congrArg some (by kernel_rfl))
  f322 := Tryz.func181.trans (congrArg some (by kernel_rfl))
  f337 := Tryz.func195.trans (congrArg some (by kernel_rfl))
  f338 := Tryz.func196.trans (congrArg some (by kernel_rfl))
  t0 := Tryz.underlying0
  a0 := Tryz.isAgg0
  z0 := Tryz.sizeOf0
  v0 := Tryz.zeroValue0
  t2 := Tryz.underlying2
  a2 := Tryz.isAgg2
  z2 := Tryz.sizeOf2
  v2 := Tryz.zeroValue2
  t3 := Tryz.underlying3
  a3 := Tryz.isAgg3
  z3 := Tryz.sizeOf3
  v3 := Tryz.zeroValue3
  t4 := Tryz.underlying4
  a4 := Tryz.isAgg4
  z4 := Tryz.sizeOf4
  v4 := Tryz.zeroValue4
  t5 := Tryz.underlying5
  a5 := Tryz.isAgg5
  z5 := Tryz.sizeOf5
  v5 := Tryz.zeroValue5
  t9 := Tryz.underlying9
  a9 := Tryz.isAgg9
  z9 := Tryz.sizeOf9
  v9 := Tryz.zeroValue9
  t20 := Tryz.underlying20
  a20 := Tryz.isAgg20
  z20 := Tryz.sizeOf20
  v20 := Tryz.zeroValue20
  t21 := Tryz.underlying21
  a21 := Tryz.isAgg21
  z21 := Tryz.sizeOf21
  v21 := Tryz.zeroValue21
  t37 := Tryz.underlying143
  a37 := Tryz.isAgg143
  z37 := Tryz.sizeOf143
  v37 := Tryz.zeroValue143
  t46 := Tryz.underlying293
  a46 := Tryz.isAgg293
  z46 := Tryz.sizeOf293
  v46 := Tryz.zeroValue293
  t51 := Tryz.underlying67
  a51 := Tryz.isAgg67
  z51 := Tryz.sizeOf67
  v51 := Tryz.zeroValue67
  t53 := Tryz.underlying25
  a53 := Tryz.isAgg25
  z53 := Tryz.sizeOf25
  v53 := Tryz.zeroValue25
  t75 := Tryz.underlying111
  a75 := Tryz.isAgg111
  z75 := Tryz.sizeOf111
  v75 := Tryz.zeroValue111
  t76 := Tryz.underlying115
  a76 := Tryz.isAgg115
  z76 := Tryz.sizeOf115
  v76 := Tryz.zeroValue115
  t85 := Tryz.underlying117
  a85 := Tryz.isAgg117
  z85 := Tryz.sizeOf117
  v85 := Tryz.zeroValue117
  t127 := Tryz.underlying341
  a127 := Tryz.isAgg341
  z127 := Tryz.sizeOf341
  v127 := Tryz.zeroValue341
  t143 := Tryz.underlying342
  a143 := Tryz.isAgg342
  z143 := Tryz.sizeOf342
  v143 := Tryz.zeroValue342
  t145 := Tryz.underlying344
  a145 := Tryz.isAgg344
  z145 := Tryz.sizeOf344
  v145 := Tryz.zeroValue344
  t167 := Tryz.underlying292
  a167 := Tryz.isAgg292
  z167 := Tryz.sizeOf292
  v167 := Tryz.zeroValue292
  t168 := Tryz.underlying294
  a168 := Tryz.isAgg294
  z168 := Tryz.sizeOf294
  v168 := Tryz.zeroValue294
  t171 := Tryz.underlying280
  a171 := Tryz.isAgg280
  z171 := Tryz.sizeOf280
  v171 := Tryz.zeroValue280
  t173 := Tryz.underlying283
  a173 := Tryz.isAgg283
  z173 := Tryz.sizeOf283
  v173 := Tryz.zeroValue283
  t175 := Tryz.underlying263
  a175 := Tryz.isAgg263
  z175 := Tryz.sizeOf263
  v175 := Tryz.zeroValue263
  t210 := Tryz.underlying324
  a210 := Tryz.isAgg324
  z210 := Tryz.sizeOf324
  v210 := Tryz.zeroValue324
  t212 := Tryz.underlying309
  a212 := Tryz.isAgg309
  z212 := Tryz.sizeOf309
  v212 := Tryz.zeroValue309
  t213 := Tryz.underlying310
  a213 := Tryz.isAgg310
  z213 := Tryz.sizeOf310
  t232 := Tryz.underlying345
  a232 := Tryz.isAgg345
  z232 := Tryz.sizeOf345
  v232 := Tryz.zeroValue345
  t233 := Tryz.underlying346
  a233 := Tryz.isAgg346
  z233 := Tryz.sizeOf346
  v233 := Tryz.zeroValue346
  g15 := by kernel_rfl
  g16 := by kernel_rfl
  g17 := by kernel_rfl
  g18 := by kernel_rfl
  g19 := by kernel_rfl
  t80 := Tryz.underlying138
  a80 := Tryz.isAgg138
  z80 := Tryz.sizeOf138
  v80 := Tryz.zeroValue138
  i0 := by kernel_rfl
  i2 := by kernel_rfl
  i3 := by kernel_rfl
  i4 := by kernel_rfl
  i5 := by kernel_rfl
  i9 := by kernel_rfl
  i20 := by kernel_rfl
  i21 := by kernel_rfl
  i37 := by kernel_rfl
  i46 := by kernel_rfl
  i51 := by kernel_rfl
  i53 := by kernel_rfl
  i75 := by kernel_rfl
  i76 := by kernel_rfl
  i80 := by kernel_rfl
  i85 := by kernel_rfl
  i127 := by kernel_rfl
  i143 := by kernel_rfl
  i145 := by kernel_rfl
  i167 := by kernel_rfl
  i168 := by kernel_rfl
  i171 := by kernel_rfl
  i173 := by kernel_rfl
  i175 := by kernel_rfl
  i210 := by kernel_rfl
  i212 := by kernel_rfl
  i232 := by kernel_rfl
  i233 := by kernel_rfl
  m15 := by kernel_rfl
  m16 := by kernel_rfl
  m17 := by kernel_rfl
  m18 := by kernel_rfl
  m19 := by kernel_rfl
  c0 := by kernel_rfl
  c2 := by kernel_rfl
  c3 := by kernel_rfl
  c4 := by kernel_rfl
  c5 := by kernel_rfl
  c9 := by kernel_rfl
  c20 := by kernel_rfl
  c21 := by kernel_rfl
  c37 := by kernel_rfl
  c46 := by kernel_rfl
  c51 := by kernel_rfl
  c53 := by kernel_rfl
  c75 := by kernel_rfl
  c76 := by kernel_rfl
  c80 := by kernel_rfl
  c85 := by kernel_rfl
  c127 := by kernel_rfl
  c143 := by kernel_rfl
  c145 := by kernel_rfl
  c167 := by kernel_rfl
  c168 := by kernel_rfl
  c171 := by kernel_rfl
  c173 := by kernel_rfl
  c175 := by kernel_rfl
  c210 := by kernel_rfl
  c212 := by kernel_rfl
  c213 := by kernel_rfl
  c232 := by kernel_rfl
  c233 := by kernel_rfl }
open Go.RowKit in
/-- strconv.Atoi, AT EVERY STRING THAT SPELLS AN int ('Lib.atoiAll .. = .ok v'; of whatever length: leading zeros count): v, AND NO ERROR. The world: as it was, or with the one new row that '[]byte(..)' lays. (LAID: no walk: one application.) -/
theorem Tryz.strconv_Atoi_ok (s : ByteArray) (hmax : s.size ≤ 9223372036854775806) (v : Int) (h : Lib.atoiAll s.data.toList = .ok v) (w : World) :
    Calls Tryz.prog 131 #[.string s] w fun e w' => e = .returned (.tuple #[.int .i64 v, .nilIface]) ∧ (w' = w ∨ ∃ t, w' = Lib.bytesWorld w 5 t) := Any.strconv_Atoi_ok Tryz.laysC172 s hmax v h w
open Go.RowKit in
/-- strconv.Atoi, AT EVERY NUMERAL THAT NO int HOLDS ('.range'): THE GREATEST OR THE LEAST int, BY THE SIGN ('Lib.atoiSat'), AND AN ERROR THAT IS NOT nil: a *NumError in a new block N: {Func: "Atoi", Num: s's bytes, Err: what the variable ErrRange holds}. Of what was there nothing has turned. (LAID: no walk: one application.) -/
theorem Tryz.strconv_Atoi_range (s : ByteArray) (hlim : s.size ≤ 281474976710656) (h : Lib.atoiAll s.data.toList = .range) (ev : Value) (w : World) (hv : w.cell? ⟨10, 0, none⟩ = some ev) (hev : ev = .nilIface ∨ ∃ te pe, ev = .iface te pe) :
    Calls Tryz.prog 131 #[.string s] w fun e w' => ∃ N, e = .returned (.tuple #[.int .i64 (Lib.atoiSat s.data.toList), .iface 294 (.pointer (some ⟨N, 0, none⟩))]) ∧ w.heap.size ≤ N ∧ w'.heap[N]? = some (.cells #[.string ⟨#[65, 116, 111, 105]⟩, .string s, ev] 324 (0, 0)) ∧ Below w.heap.size w w' := Any.strconv_Atoi_range Tryz.laysC172 s hlim h ev w hv hev
open Go.RowKit in
/-- internal/strconv.ParseUint("", base, bitSize): (0, ErrSyntax): the first test of the text. The world is as it was. (LAID: no walk: one application.) -/
theorem Tryz.internal_strconv_ParseUint_empty (base bits : Int) (w : World) :
    Calls Tryz.prog 157 #[.string ⟨#[]⟩, .int .i64 base, .int .i64 bits] w fun e w' => e = .returned (.tuple #[.int .u64 0, .iface 292 (.int .i64 2)]) ∧ w' = w := Any.internal_strconv_ParseUint_empty Tryz.lays287 base bits w
open Go.RowKit in
/-- internal/strconv.ParseUint(s, 10, 64), s NOT EMPTY: 'Lib.parseUint10 0' OF ITS BYTES: the number; or (0, ErrSyntax); or (the greatest uint64, ErrRange). The world behind the call: the one new row that '[]byte(s)' lays. (LAID: no walk: one application.) -/
theorem Tryz.internal_strconv_ParseUint_10_b64 (t : ByteArray) (hne : t.size ≠ 0) (hmax : t.size ≤ 9223372036854775806) (w : World) :
    Calls Tryz.prog 157 #[.string t, .int .i64 10, .int .i64 64] w fun e w' => e = .returned (Lib.uintTuple 292 (Lib.parseUint10 0 t.data.toList)) ∧ w' = Lib.bytesWorld w 5 t := Any.internal_strconv_ParseUint_10_b64 Tryz.lays287 t hne hmax w
open Go.RowKit in
/-- internal/strconv.ParseUint(s, 10, 32), s NOT EMPTY: 'Lib.parseUintM 4294967295 0' OF ITS BYTES: the number; or (0, ErrSyntax); or (the greatest uint32, ErrRange). The world behind the call: the one new row that '[]byte(s)' lays. (LAID: no walk: one application.) -/
theorem Tryz.internal_strconv_ParseUint_10_b32 (t : ByteArray) (hne : t.size ≠ 0) (hmax : t.size ≤ 9223372036854775806) (w : World) :
    Calls Tryz.prog 157 #[.string t, .int .i64 10, .int .i64 32] w fun e w' => e = .returned (Lib.uintTupleM 292 4294967295 (Lib.parseUintM 4294967295 0 t.data.toList)) ∧ w' = Lib.bytesWorld w 5 t := Any.internal_strconv_ParseUint_10_b32 Tryz.lays287 t hne hmax w
open Go.RowKit in
/-- internal/strconv.ParseUint(s, 10, 16), s NOT EMPTY: 'Lib.parseUintM 65535 0' OF ITS BYTES: the number; or (0, ErrSyntax); or (the greatest uint16, ErrRange). The world behind the call: the one new row that '[]byte(s)' lays. (LAID: no walk: one application.) -/
theorem Tryz.internal_strconv_ParseUint_10_b16 (t : ByteArray) (hne : t.size ≠ 0) (hmax : t.size ≤ 9223372036854775806) (w : World) :
    Calls Tryz.prog 157 #[.string t, .int .i64 10, .int .i64 16] w fun e w' => e = .returned (Lib.uintTupleM 292 65535 (Lib.parseUintM 65535 0 t.data.toList)) ∧ w' = Lib.bytesWorld w 5 t := Any.internal_strconv_ParseUint_10_b16 Tryz.lays287 t hne hmax w
open Go.RowKit in
/-- internal/strconv.ParseUint(s, 10, 8), s NOT EMPTY: 'Lib.parseUintM 255 0' OF ITS BYTES: the number; or (0, ErrSyntax); or (the greatest uint8, ErrRange). The world behind the call: the one new row that '[]byte(s)' lays. (LAID: no walk: one application.) -/
theorem Tryz.internal_strconv_ParseUint_10_b8 (t : ByteArray) (hne : t.size ≠ 0) (hmax : t.size ≤ 9223372036854775806) (w : World) :
    Calls Tryz.prog 157 #[.string t, .int .i64 10, .int .i64 8] w fun e w' => e = .returned (Lib.uintTupleM 292 255 (Lib.parseUintM 255 0 t.data.toList)) ∧ w' = Lib.bytesWorld w 5 t := Any.internal_strconv_ParseUint_10_b8 Tryz.lays287 t hne hmax w
open Go.RowKit in
/-- internal/strconv.ParseUint(s, 10, 0): 'Lib.parseUintB 64' OF ITS BYTES. The world: as it was (the empty string), or with the one new row that '[]byte(s)' lays. (LAID: no walk: one application.) -/
theorem Tryz.internal_strconv_ParseUint_10_at0 (t : ByteArray) (hmax : t.size ≤ 9223372036854775806) (w : World) :
    Calls Tryz.prog 157 #[.string t, .int .i64 10, .int .i64 0] w fun e w' => e = .returned (Lib.uintTupleM 292 18446744073709551615 (Lib.parseUintB 64 t.data.toList)) ∧ (w' = w ∨ w' = Lib.bytesWorld w 5 t) := Any.internal_strconv_ParseUint_10_at0 Tryz.lays287 t hmax w
open Go.RowKit in
/-- internal/strconv.ParseUint(s, 10, 64): 'Lib.parseUintB 64' OF ITS BYTES. The world: as it was (the empty string), or with the one new row that '[]byte(s)' lays. (LAID: no walk: one application.) -/
theorem Tryz.internal_strconv_ParseUint_10_at64 (t : ByteArray) (hmax : t.size ≤ 9223372036854775806) (w : World) :
    Calls Tryz.prog 157 #[.string t, .int .i64 10, .int .i64 64] w fun e w' => e = .returned (Lib.uintTupleM 292 18446744073709551615 (Lib.parseUintB 64 t.data.toList)) ∧ (w' = w ∨ w' = Lib.bytesWorld w 5 t) := Any.internal_strconv_ParseUint_10_at64 Tryz.lays287 t hmax w
open Go.RowKit in
/-- internal/strconv.ParseUint(s, 10, 32): 'Lib.parseUintB 32' OF ITS BYTES. The world: as it was (the empty string), or with the one new row that '[]byte(s)' lays. (LAID: no walk: one application.) -/
theorem Tryz.internal_strconv_ParseUint_10_at32 (t : ByteArray) (hmax : t.size ≤ 9223372036854775806) (w : World) :
    Calls Tryz.prog 157 #[.string t, .int .i64 10, .int .i64 32] w fun e w' => e = .returned (Lib.uintTupleM 292 4294967295 (Lib.parseUintB 32 t.data.toList)) ∧ (w' = w ∨ w' = Lib.bytesWorld w 5 t) := Any.internal_strconv_ParseUint_10_at32 Tryz.lays287 t hmax w
open Go.RowKit in
/-- internal/strconv.ParseUint(s, 10, 16): 'Lib.parseUintB 16' OF ITS BYTES. The world: as it was (the empty string), or with the one new row that '[]byte(s)' lays. (LAID: no walk: one application.) -/
theorem Tryz.internal_strconv_ParseUint_10_at16 (t : ByteArray) (hmax : t.size ≤ 9223372036854775806) (w : World) :
    Calls Tryz.prog 157 #[.string t, .int .i64 10, .int .i64 16] w fun e w' => e = .returned (Lib.uintTupleM 292 65535 (Lib.parseUintB 16 t.data.toList)) ∧ (w' = w ∨ w' = Lib.bytesWorld w 5 t) := Any.internal_strconv_ParseUint_10_at16 Tryz.lays287 t hmax w
open Go.RowKit in
/-- internal/strconv.ParseUint(s, 10, 8): 'Lib.parseUintB 8' OF ITS BYTES. The world: as it was (the empty string), or with the one new row that '[]byte(s)' lays. (LAID: no walk: one application.) -/
theorem Tryz.internal_strconv_ParseUint_10_at8 (t : ByteArray) (hmax : t.size ≤ 9223372036854775806) (w : World) :
    Calls Tryz.prog 157 #[.string t, .int .i64 10, .int .i64 8] w fun e w' => e = .returned (Lib.uintTupleM 292 255 (Lib.parseUintB 8 t.data.toList)) ∧ (w' = w ∨ w' = Lib.bytesWorld w 5 t) := Any.internal_strconv_ParseUint_10_at8 Tryz.lays287 t hmax w
open Go.RowKit in
/-- internal/strconv.ParseInt(s, 10, 64), s NOT EMPTY: 'Lib.parseIntB 64' OF ITS BYTES: (the number, nil); (0, ErrSyntax); (the greatest or the least int64 by the sign, ErrRange). The world: as it was, or with the one new row that '[]byte(..)' lays. (LAID: no walk: one application.) -/
theorem Tryz.internal_strconv_ParseInt_10_at64 (s : ByteArray) (hne : s.size ≠ 0) (hmax : s.size ≤ 9223372036854775806) (w : World) :
    Calls Tryz.prog 144 #[.string s, .int .i64 10, .int .i64 64] w fun e w' => e = .returned (Lib.intTuple 292 (Lib.intSat 64 s.data.toList) (Lib.parseIntB 64 s.data.toList)) ∧ (w' = w ∨ ∃ t, w' = Lib.bytesWorld w 5 t) := Any.internal_strconv_ParseInt_10_at64 Tryz.laysC247 s hne hmax w
open Go.RowKit in
/-- internal/strconv.ParseInt(s, 10, 32), s NOT EMPTY: 'Lib.parseIntB 32' OF ITS BYTES: (the number, nil); (0, ErrSyntax); (the greatest or the least int32 by the sign, ErrRange). The world: as it was, or with the one new row that '[]byte(..)' lays. (LAID: no walk: one application.) -/
theorem Tryz.internal_strconv_ParseInt_10_at32 (s : ByteArray) (hne : s.size ≠ 0) (hmax : s.size ≤ 9223372036854775806) (w : World) :
    Calls Tryz.prog 144 #[.string s, .int .i64 10, .int .i64 32] w fun e w' => e = .returned (Lib.intTuple 292 (Lib.intSat 32 s.data.toList) (Lib.parseIntB 32 s.data.toList)) ∧ (w' = w ∨ ∃ t, w' = Lib.bytesWorld w 5 t) := Any.internal_strconv_ParseInt_10_at32 Tryz.laysC247 s hne hmax w
open Go.RowKit in
/-- internal/strconv.ParseInt(s, 10, 16), s NOT EMPTY: 'Lib.parseIntB 16' OF ITS BYTES: (the number, nil); (0, ErrSyntax); (the greatest or the least int16 by the sign, ErrRange). The world: as it was, or with the one new row that '[]byte(..)' lays. (LAID: no walk: one application.) -/
theorem Tryz.internal_strconv_ParseInt_10_at16 (s : ByteArray) (hne : s.size ≠ 0) (hmax : s.size ≤ 9223372036854775806) (w : World) :
    Calls Tryz.prog 144 #[.string s, .int .i64 10, .int .i64 16] w fun e w' => e = .returned (Lib.intTuple 292 (Lib.intSat 16 s.data.toList) (Lib.parseIntB 16 s.data.toList)) ∧ (w' = w ∨ ∃ t, w' = Lib.bytesWorld w 5 t) := Any.internal_strconv_ParseInt_10_at16 Tryz.laysC247 s hne hmax w
open Go.RowKit in
/-- internal/strconv.ParseInt(s, 10, 8), s NOT EMPTY: 'Lib.parseIntB 8' OF ITS BYTES: (the number, nil); (0, ErrSyntax); (the greatest or the least int8 by the sign, ErrRange). The world: as it was, or with the one new row that '[]byte(..)' lays. (LAID: no walk: one application.) -/
theorem Tryz.internal_strconv_ParseInt_10_at8 (s : ByteArray) (hne : s.size ≠ 0) (hmax : s.size ≤ 9223372036854775806) (w : World) :
    Calls Tryz.prog 144 #[.string s, .int .i64 10, .int .i64 8] w fun e w' => e = .returned (Lib.intTuple 292 (Lib.intSat 8 s.data.toList) (Lib.parseIntB 8 s.data.toList)) ∧ (w' = w ∨ ∃ t, w' = Lib.bytesWorld w 5 t) := Any.internal_strconv_ParseInt_10_at8 Tryz.laysC247 s hne hmax w
open Go.RowKit in
/-- internal/strconv.ParseInt(s, 10, 0), AT EVERY STRING: 'Lib.parseIntB 64' OF ITS BYTES. (LAID: no walk: one application.) -/
theorem Tryz.internal_strconv_ParseInt_10_all0 (s : ByteArray) (hmax : s.size ≤ 9223372036854775806) (w : World) :
    Calls Tryz.prog 144 #[.string s, .int .i64 10, .int .i64 0] w fun e w' => e = .returned (Lib.intTuple 292 (Lib.intSat 64 s.data.toList) (Lib.parseIntB 64 s.data.toList)) ∧ (w' = w ∨ ∃ t, w' = Lib.bytesWorld w 5 t) := Any.internal_strconv_ParseInt_10_all0 Tryz.laysC247 s hmax w
open Go.RowKit in
/-- internal/strconv.ParseInt(s, 10, 64), AT EVERY STRING: 'Lib.parseIntB 64' OF ITS BYTES. (LAID: no walk: one application.) -/
theorem Tryz.internal_strconv_ParseInt_10_all64 (s : ByteArray) (hmax : s.size ≤ 9223372036854775806) (w : World) :
    Calls Tryz.prog 144 #[.string s, .int .i64 10, .int .i64 64] w fun e w' => e = .returned (Lib.intTuple 292 (Lib.intSat 64 s.data.toList) (Lib.parseIntB 64 s.data.toList)) ∧ (w' = w ∨ ∃ t, w' = Lib.bytesWorld w 5 t) := Any.internal_strconv_ParseInt_10_all64 Tryz.laysC247 s hmax w
open Go.RowKit in
/-- internal/strconv.ParseInt(s, 10, 32), AT EVERY STRING: 'Lib.parseIntB 32' OF ITS BYTES. (LAID: no walk: one application.) -/
theorem Tryz.internal_strconv_ParseInt_10_all32 (s : ByteArray) (hmax : s.size ≤ 9223372036854775806) (w : World) :
    Calls Tryz.prog 144 #[.string s, .int .i64 10, .int .i64 32] w fun e w' => e = .returned (Lib.intTuple 292 (Lib.intSat 32 s.data.toList) (Lib.parseIntB 32 s.data.toList)) ∧ (w' = w ∨ ∃ t, w' = Lib.bytesWorld w 5 t) := Any.internal_strconv_ParseInt_10_all32 Tryz.laysC247 s hmax w
open Go.RowKit in
/-- internal/strconv.ParseInt(s, 10, 16), AT EVERY STRING: 'Lib.parseIntB 16' OF ITS BYTES. (LAID: no walk: one application.) -/
theorem Tryz.internal_strconv_ParseInt_10_all16 (s : ByteArray) (hmax : s.size ≤ 9223372036854775806) (w : World) :
    Calls Tryz.prog 144 #[.string s, .int .i64 10, .int .i64 16] w fun e w' => e = .returned (Lib.intTuple 292 (Lib.intSat 16 s.data.toList) (Lib.parseIntB 16 s.data.toList)) ∧ (w' = w ∨ ∃ t, w' = Lib.bytesWorld w 5 t) := Any.internal_strconv_ParseInt_10_all16 Tryz.laysC247 s hmax w
open Go.RowKit in
/-- internal/strconv.ParseInt(s, 10, 8), AT EVERY STRING: 'Lib.parseIntB 8' OF ITS BYTES. (LAID: no walk: one application.) -/
theorem Tryz.internal_strconv_ParseInt_10_all8 (s : ByteArray) (hmax : s.size ≤ 9223372036854775806) (w : World) :
    Calls Tryz.prog 144 #[.string s, .int .i64 10, .int .i64 8] w fun e w' => e = .returned (Lib.intTuple 292 (Lib.intSat 8 s.data.toList) (Lib.parseIntB 8 s.data.toList)) ∧ (w' = w ∨ ∃ t, w' = Lib.bytesWorld w 5 t) := Any.internal_strconv_ParseInt_10_all8 Tryz.laysC247 s hmax w
def Tryz.laysC174_ren : Go.Shelf.Ren := ⟨fun | 174 => 121 | 247 => 144 | 245 => 145 | 287 => 157 | 279 => 166 | 280 => 167 | 281 => 168 | 282 => 169 | 321 => 180 | 322 => 181 | 316 => 189 | 171 => 117 | 205 => 190 | 243 => 140 | 246 => 164 | 283 => 159 | 284 => 160 | 285 => 161 | 286 => 162 | 129 => 183 | 317 => 182 | 318 => 184 | 319 => 185 | 320 => 186 | 337 => 195 | 338 => 196 | n => n, fun | 9 => 9 | 3 => 3 | 2 => 2 | 75 => 111 | 85 => 117 | 4 => 4 | 167 => 292 | 5 => 5 | 53 => 25 | 175 => 263 | 46 => 293 | 168 => 294 | 37 => 143 | 0 => 0 | 210 => 324 | 21 => 21 | 127 => 341 | 145 => 344 | 143 => 342 | 171 => 280 | 173 => 283 | 212 => 309 | 51 => 67 | 20 => 20 | 213 => 310 | 232 => 345 | 233 => 346 | 80 => 138 | n => n, fun | 15 => 9 | 16 => 10 | 17 => 8 | 18 => 13 | 19 => 14 | n => n⟩
theorem Tryz.laysC174 : Go.Proofs.LaysC.n174 Tryz.prog Tryz.laysC174_ren := {
  mixed := by kernel_rfl
  f129 := Tryz.func183.trans (congrArg some (by kernel_rfl))
  f171 := Tryz.func117.trans (congrArg some (by kernel_rfl))
  f174 := Tryz.func121.trans (congrArg some (by kernel_rfl))
  f205 := Tryz.func190.trans (congrArg some (by kernel_rfl))
  f243 := Tryz.func140.trans (congrArg some (by kernel_rfl))
  f245 := Tryz.func145.trans (congrArg some (by kernel_rfl))
  f246 := Tryz.func164.trans (congrArg some (by kernel_rfl))
  f247 := Tryz.func144.trans (congrArg some (by kernel_rfl))
  f279 := Tryz.func166.trans (congrArg some (by kernel_rfl))
  f280 := Tryz.func167.trans (congrArg some (by kernel_rfl))
  f281 := Tryz.func168.trans (congrArg some (by kernel_rfl))
  f282 := Tryz.func169.trans (congrArg some (by kernel_rfl))
  f283 := Tryz.func159.trans (congrArg some (by kernel_rfl))
  f284 := Tryz.func160.trans (congrArg some (by kernel_rfl))
  f285 := Tryz.func161.trans (congrArg some (by kernel_rfl))
  f286 := Tryz.func162.trans (congrArg some (by kernel_rfl))
  f287 := Tryz.func157.trans (congrArg some (by kernel_rfl))
  f316 := Tryz.func189.trans (congrArg some (by kernel_rfl))
  f317 := Tryz.func182.trans (congrArg some (by kernel_rfl))
  f318 := Tryz.func184.trans (congrArg some (by kernel_rfl))
  f319 := Tryz.func185.trans (congrArg some (by kernel_rfl))
  f320 := Tryz.func186.trans (congrArg some (by kernel_rfl))
  f321 := Tryz.func180.trans (congrArg some (by kernel_rfl))
  f322 := Tryz.func181.trans (congrArg some (by kernel_rfl))
  f337 := Tryz.func195.trans (congrArg some (by kernel_rfl))
  f338 := Tryz.func196.trans (congrArg some (by kernel_rfl))
  t0 := Tryz.underlying0
  a0 := Tryz.isAgg0
  z0 := Tryz.sizeOf0
  v0 := Tryz.zeroValue0
  t2 := Tryz.underlying2
  a2 := Tryz.isAgg2
  z2 := Tryz.sizeOf2
  v2 := Tryz.zeroValue2
  t3 := Tryz.underlying3
  a3 := Tryz.isAgg3
  z3 := Tryz.sizeOf3
  v3 := Tryz.zeroValue3
  t4 := Tryz.underlying4
  a4 := Tryz.isAgg4
  z4 := Tryz.sizeOf4
  v4 := Tryz.zeroValue4
  t5 := Tryz.underlying5
  a5 := Tryz.isAgg5
  z5 := Tryz.sizeOf5
  v5 := Tryz.zeroValue5
  t9 := Tryz.underlying9
  a9 := Tryz.isAgg9
  z9 := Tryz.sizeOf9
  v9 := Tryz.zeroValue9
  t20 := Tryz.underlying20
  a20 := Tryz.isAgg20
  z20 := Tryz.sizeOf20
  v20 := Tryz.zeroValue20
  t21 := Tryz.underlying21
  a21 := Tryz.isAgg21
  z21 := Tryz.sizeOf21
  v21 := Tryz.zeroValue21
  t37 := Tryz.underlying143
  a37 := Tryz.isAgg143
  z37 := Tryz.sizeOf143
  v37 := Tryz.zeroValue143
  t46 := Tryz.underlying293
  a46 := Tryz.isAgg293
  z46 := Tryz.sizeOf293
  v46 := Tryz.zeroValue293
  t51 := Tryz.underlying67
  a51 := Tryz.isAgg67
  z51 := Tryz.sizeOf67
  v51 := Tryz.zeroValue67
  t53 := Tryz.underlying25
  a53 := Tryz.isAgg25
  z53 := Tryz.sizeOf25
  v53 := Tryz.zeroValue25
  t75 := Tryz.underlying111
  a75 := Tryz.isAgg111
  z75 := Tryz.sizeOf111
  v75 := Tryz.zeroValue111
  t85 := Tryz.underlying117
  a85 := Tryz.isAgg117
  z85 := Tryz.sizeOf117
  v85 := Tryz.zeroValue117
  t127 := Tryz.underlying341
  a127 := Tryz.isAgg341
  z127 := Tryz.sizeOf341
  v127 := Tryz.zeroValue341
  t143 := Tryz.underlying342
  a143 := Tryz.isAgg342
  z143 := Tryz.sizeOf342
  v143 := Tryz.zeroValue342
  t145 := Tryz.underlying344
  a145 := Tryz.isAgg344
  z145 := Tryz.sizeOf344
  v145 := Tryz.zeroValue344
  t167 := Tryz.underlying292
  a167 := Tryz.isAgg292
  z167 := Tryz.sizeOf292
  v167 := Tryz.zeroValue292
  t168 := Tryz.underlying294
  a168 := Tryz.isAgg294
  z168 := Tryz.sizeOf294
  v168 := Tryz.zeroValue294
  t171 := Tryz.underlying280
  a171 := Tryz.isAgg280
  z171 := Tryz.sizeOf280
  v171 := Tryz.zeroValue280
  t173 := Tryz.underlying283
  a173 := Tryz.isAgg283
  z173 := Tryz.sizeOf283
  v173 := Tryz.zeroValue283
  t175 := Tryz.underlying263
  a175 := Tryz.isAgg263
  z175 := Tryz.sizeOf263
  v175 := Tryz.zeroValue263
  t210 := Tryz.underlying324
  a210 := Tryz.isAgg324
  z210 := Tryz.sizeOf324
  v210 := Tryz.zeroValue324
  t212 := Tryz.underlying309
  a212 := Tryz.isAgg309
  z212 := Tryz.sizeOf309
  v212 := Tryz.zeroValue309
  t213 := Tryz.underlying310
  a213 := Tryz.isAgg310
  z213 := Tryz.sizeOf310
  t232 := Tryz.underlying345
  a232 := Tryz.isAgg345
  z232 := Tryz.sizeOf345
  v232 := Tryz.zeroValue345
  t233 := Tryz.underlying346
  a233 := Tryz.isAgg346
  z233 := Tryz.sizeOf346
  v233 := Tryz.zeroValue346
  g15 := by kernel_rfl
  g16 := by kernel_rfl
  g17 := by kernel_rfl
  g18 := by kernel_rfl
  g19 := by kernel_rfl
  t80 := Tryz.underlying138
  a80 := Tryz.isAgg138
  z80 := Tryz.sizeOf138
  v80 := Tryz.zeroValue138
  i0 := by kernel_rfl
  i2 := by kernel_rfl
  i3 := by kernel_rfl
  i4 := by kernel_rfl
  i5 := by kernel_rfl
  i9 := by kernel_rfl
  i20 := by kernel_rfl
  i21 := by kernel_rfl
  i37 := by kernel_rfl
  i46 := by kernel_rfl
  i51 := by kernel_rfl
  i53 := by kernel_rfl
  i75 := by kernel_rfl
  i80 := by kernel_rfl
  i85 := by kernel_rfl
  i127 := by kernel_rfl
  i143 := by kernel_rfl
  i145 := by kernel_rfl
  i167 := by kernel_rfl
  i168 := by kernel_rfl
  i171 := by kernel_rfl
  i173 := by kernel_rfl
  i175 := by kernel_rfl
  i210 := by kernel_rfl
  i212 := by kernel_rfl
  i232 := by kernel_rfl
  i233 := by kernel_rfl
  m15 := by kernel_rfl
  m16 := by kernel_rfl
  m17 := by kernel_rfl
  m18 := by kernel_rfl
  m19 := by kernel_rfl
  c0 := by kernel_rfl
  c2 := by kernel_rfl
  c3 := by kernel_rfl
  c4 := by kernel_rfl
  c5 := by kernel_rfl
  c9 := by kernel_rfl
  c20 := by kernel_rfl
  c21 := by kernel_rfl
  c37 := by kernel_rfl
  c46 := by kernel_rfl
  c51 := by kernel_rfl
  c53 := by kernel_rfl
  c75 := by kernel_rfl
  c80 := by kernel_rfl
  c85 := by kernel_rfl
  c127 := by kernel_rfl
  c143 := by kernel_rfl
  c145 := by kernel_rfl
  c167 := by kernel_rfl
  c168 := by kernel_rfl
  c171 := by kernel_rfl
  c173 := by kernel_rfl
  c175 := by kernel_rfl
  c210 := by kernel_rfl
  c212 := by kernel_rfl
  c213 := by kernel_rfl
  c232 := by kernel_rfl
  c233 := by kernel_rfl }
open Go.RowKit in
/-- strconv.ParseInt(s, 10, 0), AT EVERY STRING THAT SPELLS AN int64 ('Lib.parseIntB 64 s.data.toList = .ok v'): v, AND NO ERROR. (LAID: no walk: one application.) -/
theorem Tryz.strconv_ParseInt_10_at0_ok (s : ByteArray) (hmax : s.size ≤ 9223372036854775806) (v : Int) (h : Lib.parseIntB 64 s.data.toList = .ok v) (w : World) :
    Calls Tryz.prog 121 #[.string s, .int .i64 10, .int .i64 0] w fun e w' => e = .returned (.tuple #[.int .i64 v, .nilIface]) ∧ (w' = w ∨ ∃ t, w' = Lib.bytesWorld w 5 t) := Any.strconv_ParseInt_10_at0_ok Tryz.laysC174 s hmax v h w
open Go.RowKit in
/-- strconv.ParseInt(s, 10, 0), AT EVERY NUMERAL THAT NO int64 HOLDS: THE GREATEST OR THE LEAST int64, BY THE SIGN ('Lib.intSat 64'), AND AN ERROR THAT IS NOT nil: a *NumError in a new block N: {Func: "ParseInt", Num: s's bytes, Err: what the variable ErrRange holds}. Of what was there nothing has turned. (LAID: no walk: one application.) -/
theorem Tryz.strconv_ParseInt_10_at0_range (s : ByteArray) (hlim : s.size ≤ 281474976710656) (h : Lib.parseIntB 64 s.data.toList = .range) (ev : Value) (w : World) (hv : w.cell? ⟨10, 0, none⟩ = some ev) (hev : ev = .nilIface ∨ ∃ te pe, ev = .iface te pe) :
    Calls Tryz.prog 121 #[.string s, .int .i64 10, .int .i64 0] w fun e w' => ∃ N, e = .returned (.tuple #[.int .i64 (Lib.intSat 64 s.data.toList), .iface 294 (.pointer (some ⟨N, 0, none⟩))]) ∧ w.heap.size ≤ N ∧ w'.heap[N]? = some (.cells #[.string ⟨#[80, 97, 114, 115, 101, 73, 110, 116]⟩, .string s, ev] 324 (0, 0)) ∧ Below w.heap.size w w' := Any.strconv_ParseInt_10_at0_range Tryz.laysC174 s hlim h ev w hv hev
open Go.RowKit in
/-- strconv.ParseInt(s, 10, 64), AT EVERY STRING THAT SPELLS AN int64 ('Lib.parseIntB 64 s.data.toList = .ok v'): v, AND NO ERROR. (LAID: no walk: one application.) -/
theorem Tryz.strconv_ParseInt_10_at64_ok (s : ByteArray) (hmax : s.size ≤ 9223372036854775806) (v : Int) (h : Lib.parseIntB 64 s.data.toList = .ok v) (w : World) :
    Calls Tryz.prog 121 #[.string s, .int .i64 10, .int .i64 64] w fun e w' => e = .returned (.tuple #[.int .i64 v, .nilIface]) ∧ (w' = w ∨ ∃ t, w' = Lib.bytesWorld w 5 t) := Any.strconv_ParseInt_10_at64_ok Tryz.laysC174 s hmax v h w
open Go.RowKit in
/-- strconv.ParseInt(s, 10, 64), AT EVERY NUMERAL THAT NO int64 HOLDS: THE GREATEST OR THE LEAST int64, BY THE SIGN ('Lib.intSat 64'), AND AN ERROR THAT IS NOT nil: a *NumError in a new block N: {Func: "ParseInt", Num: s's bytes, Err: what the variable ErrRange holds}. Of what was there nothing has turned. (LAID: no walk: one application.) -/
theorem Tryz.strconv_ParseInt_10_at64_range (s : ByteArray) (hlim : s.size ≤ 281474976710656) (h : Lib.parseIntB 64 s.data.toList = .range) (ev : Value) (w : World) (hv : w.cell? ⟨10, 0, none⟩ = some ev) (hev : ev = .nilIface ∨ ∃ te pe, ev = .iface te pe) :
    Calls Tryz.prog 121 #[.string s, .int .i64 10, .int .i64 64] w fun e w' => ∃ N, e = .returned (.tuple #[.int .i64 (Lib.intSat 64 s.data.toList), .iface 294 (.pointer (some ⟨N, 0, none⟩))]) ∧ w.heap.size ≤ N ∧ w'.heap[N]? = some (.cells #[.string ⟨#[80, 97, 114, 115, 101, 73, 110, 116]⟩, .string s, ev] 324 (0, 0)) ∧ Below w.heap.size w w' := Any.strconv_ParseInt_10_at64_range Tryz.laysC174 s hlim h ev w hv hev
open Go.RowKit in
/-- strconv.ParseInt(s, 10, 32), AT EVERY STRING THAT SPELLS AN int32 ('Lib.parseIntB 32 s.data.toList = .ok v'): v, AND NO ERROR. (LAID: no walk: one application.) -/
theorem Tryz.strconv_ParseInt_10_at32_ok (s : ByteArray) (hmax : s.size ≤ 9223372036854775806) (v : Int) (h : Lib.parseIntB 32 s.data.toList = .ok v) (w : World) :
    Calls Tryz.prog 121 #[.string s, .int .i64 10, .int .i64 32] w fun e w' => e = .returned (.tuple #[.int .i64 v, .nilIface]) ∧ (w' = w ∨ ∃ t, w' = Lib.bytesWorld w 5 t) := Any.strconv_ParseInt_10_at32_ok Tryz.laysC174 s hmax v h w
open Go.RowKit in
/-- strconv.ParseInt(s, 10, 32), AT EVERY NUMERAL THAT NO int32 HOLDS: THE GREATEST OR THE LEAST int32, BY THE SIGN ('Lib.intSat 32'), AND AN ERROR THAT IS NOT nil: a *NumError in a new block N: {Func: "ParseInt", Num: s's bytes, Err: what the variable ErrRange holds}. Of what was there nothing has turned. (LAID: no walk: one application.) -/
theorem Tryz.strconv_ParseInt_10_at32_range (s : ByteArray) (hlim : s.size ≤ 281474976710656) (h : Lib.parseIntB 32 s.data.toList = .range) (ev : Value) (w : World) (hv : w.cell? ⟨10, 0, none⟩ = some ev) (hev : ev = .nilIface ∨ ∃ te pe, ev = .iface te pe) :
    Calls Tryz.prog 121 #[.string s, .int .i64 10, .int .i64 32] w fun e w' => ∃ N, e = .returned (.tuple #[.int .i64 (Lib.intSat 32 s.data.toList), .iface 294 (.pointer (some ⟨N, 0, none⟩))]) ∧ w.heap.size ≤ N ∧ w'.heap[N]? = some (.cells #[.string ⟨#[80, 97, 114, 115, 101, 73, 110, 116]⟩, .string s, ev] 324 (0, 0)) ∧ Below w.heap.size w w' := Any.strconv_ParseInt_10_at32_range Tryz.laysC174 s hlim h ev w hv hev
open Go.RowKit in
/-- strconv.ParseInt(s, 10, 16), AT EVERY STRING THAT SPELLS AN int16 ('Lib.parseIntB 16 s.data.toList = .ok v'): v, AND NO ERROR. (LAID: no walk: one application.) -/
theorem Tryz.strconv_ParseInt_10_at16_ok (s : ByteArray) (hmax : s.size ≤ 9223372036854775806) (v : Int) (h : Lib.parseIntB 16 s.data.toList = .ok v) (w : World) :
    Calls Tryz.prog 121 #[.string s, .int .i64 10, .int .i64 16] w fun e w' => e = .returned (.tuple #[.int .i64 v, .nilIface]) ∧ (w' = w ∨ ∃ t, w' = Lib.bytesWorld w 5 t) := Any.strconv_ParseInt_10_at16_ok Tryz.laysC174 s hmax v h w
open Go.RowKit in
/-- strconv.ParseInt(s, 10, 16), AT EVERY NUMERAL THAT NO int16 HOLDS: THE GREATEST OR THE LEAST int16, BY THE SIGN ('Lib.intSat 16'), AND AN ERROR THAT IS NOT nil: a *NumError in a new block N: {Func: "ParseInt", Num: s's bytes, Err: what the variable ErrRange holds}. Of what was there nothing has turned. (LAID: no walk: one application.) -/
theorem Tryz.strconv_ParseInt_10_at16_range (s : ByteArray) (hlim : s.size ≤ 281474976710656) (h : Lib.parseIntB 16 s.data.toList = .range) (ev : Value) (w : World) (hv : w.cell? ⟨10, 0, none⟩ = some ev) (hev : ev = .nilIface ∨ ∃ te pe, ev = .iface te pe) :
    Calls Tryz.prog 121 #[.string s, .int .i64 10, .int .i64 16] w fun e w' => ∃ N, e = .returned (.tuple #[.int .i64 (Lib.intSat 16 s.data.toList), .iface 294 (.pointer (some ⟨N, 0, none⟩))]) ∧ w.heap.size ≤ N ∧ w'.heap[N]? = some (.cells #[.string ⟨#[80, 97, 114, 115, 101, 73, 110, 116]⟩, .string s, ev] 324 (0, 0)) ∧ Below w.heap.size w w' := Any.strconv_ParseInt_10_at16_range Tryz.laysC174 s hlim h ev w hv hev
open Go.RowKit in
/-- strconv.ParseInt(s, 10, 8), AT EVERY STRING THAT SPELLS AN int8 ('Lib.parseIntB 8 s.data.toList = .ok v'): v, AND NO ERROR. (LAID: no walk: one application.) -/
theorem Tryz.strconv_ParseInt_10_at8_ok (s : ByteArray) (hmax : s.size ≤ 9223372036854775806) (v : Int) (h : Lib.parseIntB 8 s.data.toList = .ok v) (w : World) :
    Calls Tryz.prog 121 #[.string s, .int .i64 10, .int .i64 8] w fun e w' => e = .returned (.tuple #[.int .i64 v, .nilIface]) ∧ (w' = w ∨ ∃ t, w' = Lib.bytesWorld w 5 t) := Any.strconv_ParseInt_10_at8_ok Tryz.laysC174 s hmax v h w
open Go.RowKit in
/-- strconv.ParseInt(s, 10, 8), AT EVERY NUMERAL THAT NO int8 HOLDS: THE GREATEST OR THE LEAST int8, BY THE SIGN ('Lib.intSat 8'), AND AN ERROR THAT IS NOT nil: a *NumError in a new block N: {Func: "ParseInt", Num: s's bytes, Err: what the variable ErrRange holds}. Of what was there nothing has turned. (LAID: no walk: one application.) -/
theorem Tryz.strconv_ParseInt_10_at8_range (s : ByteArray) (hlim : s.size ≤ 281474976710656) (h : Lib.parseIntB 8 s.data.toList = .range) (ev : Value) (w : World) (hv : w.cell? ⟨10, 0, none⟩ = some ev) (hev : ev = .nilIface ∨ ∃ te pe, ev = .iface te pe) :
    Calls Tryz.prog 121 #[.string s, .int .i64 10, .int .i64 8] w fun e w' => ∃ N, e = .returned (.tuple #[.int .i64 (Lib.intSat 8 s.data.toList), .iface 294 (.pointer (some ⟨N, 0, none⟩))]) ∧ w.heap.size ≤ N ∧ w'.heap[N]? = some (.cells #[.string ⟨#[80, 97, 114, 115, 101, 73, 110, 116]⟩, .string s, ev] 324 (0, 0)) ∧ Below w.heap.size w w' := Any.strconv_ParseInt_10_at8_range Tryz.laysC174 s hlim h ev w hv hev
def Tryz.laysPu14_ren : Go.Shelf.Ren := ⟨fun | 14 => 136 | 16 => 157 | 17 => 145 | 19 => 180 | 20 => 181 | 21 => 166 | 22 => 167 | 23 => 168 | 24 => 169 | 25 => 189 | 27 => 117 | 26 => 190 | 28 => 140 | 29 => 164 | 30 => 159 | 31 => 160 | 32 => 161 | 33 => 162 | 35 => 183 | 34 => 182 | 36 => 184 | 37 => 185 | 38 => 186 | 39 => 195 | 40 => 196 | n => n, fun | 9 => 9 | 3 => 3 | 22 => 25 | 24 => 111 | 25 => 263 | 4 => 4 | 34 => 292 | 5 => 5 | 36 => 293 | 37 => 143 | 0 => 0 | 39 => 294 | 21 => 21 | 44 => 324 | 47 => 341 | 50 => 344 | 48 => 342 | 2 => 2 | 52 => 280 | 55 => 283 | 59 => 309 | 60 => 67 | 20 => 20 | 61 => 310 | 65 => 345 | 66 => 346 | 67 => 138 | n => n, fun | 0 => 9 | 1 => 10 | 2 => 8 | 3 => 13 | 4 => 14 | n => n⟩
theorem Tryz.laysPu14 : Go.Proofs.LaysPu.n14 Tryz.prog Tryz.laysPu14_ren := {
  mixed := by kernel_rfl
  f14 := Tryz.func136.trans (congrArg some (by kernel_rfl))
  f16 := Tryz.func157.trans (congrArg some (by kernel_rfl))
  f17 := Tryz.func145.trans (congrArg some (by kernel_rfl))
  f19 := Tryz.func180.trans (congrArg some (by kernel_rfl))
  f20 := Tryz.func181.trans (congrArg some (by kernel_rfl))
  f21 := Tryz.func166.trans (congrArg some (by kernel_rfl))
  f22 := Tryz.func167.trans (congrArg some (by kernel_rfl))
  f23 := Tryz.func168.trans (congrArg some (by kernel_rfl))
  f24 := Tryz.func169.trans (congrArg some (by kernel_rfl))
  f25 := Tryz.func189.trans (congrArg some (by kernel_rfl))
  f26 := Tryz.func190.trans (congrArg some (by kernel_rfl))
  f27 := Tryz.func117.trans (congrArg some (by kernel_rfl))
  f28 := Tryz.func140.trans (congrArg some (by kernel_rfl))
  f29 := Tryz.func164.trans (congrArg some (by kernel_rfl))
  f30 := Tryz.func159.trans (congrArg some (by kernel_rfl))
  f31 := Tryz.func160.trans (congrArg some (by kernel_rfl))
  f32 := Tryz.func161.trans (congrArg some (by kernel_rfl))
  f33 := Tryz.func162.trans (congrArg some (by kernel_rfl))
  f34 := Tryz.func182.trans (congrArg some (by kernel_rfl))
  f35 := Tryz.func183.trans (congrArg some (by kernel_rfl))
  f36 := Tryz.func184.trans (congrArg some (by kernel_rfl))
  f37 := Tryz.func185.trans (congrArg some (by kernel_rfl))
  f38 := Tryz.func186.trans (congrArg some (by kernel_rfl))
  f39 := Tryz.func195.trans (congrArg some (by kernel_rfl))
  f40 := Tryz.func196.trans (congrArg some (by kernel_rfl))
  t0 := Tryz.underlying0
  a0 := Tryz.isAgg0
  z0 := Tryz.sizeOf0
  v0 := Tryz.zeroValue0
  i0 := by kernel_rfl
  t2 := Tryz.underlying2
  a2 := Tryz.isAgg2
  z2 := Tryz.sizeOf2
  v2 := Tryz.zeroValue2
  i2 := by kernel_rfl
  t3 := Tryz.underlying3
  a3 := Tryz.isAgg3
  z3 := Tryz.sizeOf3
  v3 := Tryz.zeroValue3
  i3 := by kernel_rfl
  t4 := Tryz.underlying4
  a4 := Tryz.isAgg4
  z4 := Tryz.sizeOf4
  v4 := Tryz.zeroValue4
  i4 := by kernel_rfl
  t5 := Tryz.underlying5
  a5 := Tryz.isAgg5
  z5 := Tryz.sizeOf5
  v5 := Tryz.zeroValue5
  i5 := by kernel_rfl
  t9 := Tryz.underlying9
  a9 := Tryz.isAgg9
  z9 := Tryz.sizeOf9
  v9 := Tryz.zeroValue9
  i9 := by kernel_rfl
  t20 := Tryz.underlying20
  a20 := Tryz.isAgg20
  z20 := Tryz.sizeOf20
  v20 := Tryz.zeroValue20
  i20 := by kernel_rfl
  t21 := Tryz.underlying21
  a21 := Tryz.isAgg21
  z21 := Tryz.sizeOf21
  v21 := Tryz.zeroValue21
  i21 := by kernel_rfl
  t22 := Tryz.underlying25
  a22 := Tryz.isAgg25
  z22 := Tryz.sizeOf25
  v22 := Tryz.zeroValue25
  i22 := by kernel_rfl
  t24 := Tryz.underlying111
  a24 := Tryz.isAgg111
  z24 := Tryz.sizeOf111
  v24 := Tryz.zeroValue111
  i24 := by kernel_rfl
  t25 := Tryz.underlying263
  a25 := Tryz.isAgg263
  z25 := Tryz.sizeOf263
  v25 := Tryz.zeroValue263
  i25 := by kernel_rfl
  t34 := Tryz.underlying292
  a34 := Tryz.isAgg292
  z34 := Tryz.sizeOf292
  v34 := Tryz.zeroValue292
  i34 := by kernel_rfl
  c34 := by kernel_rfl
  t36 := Tryz.underlying293
  a36 := Tryz.isAgg293
  z36 := Tryz.sizeOf293
  v36 := Tryz.zeroValue293
  i36 := by kernel_rfl
  t37 := Tryz.underlying143
  a37 := Tryz.isAgg143
  z37 := Tryz.sizeOf143
  v37 := Tryz.zeroValue143
  i37 := by kernel_rfl
  t39 := Tryz.underlying294
  a39 := Tryz.isAgg294
  z39 := Tryz.sizeOf294
  v39 := Tryz.zeroValue294
  i39 := by kernel_rfl
  t44 := Tryz.underlying324
  a44 := Tryz.isAgg324
  z44 := Tryz.sizeOf324
  v44 := Tryz.zeroValue324
  i44 := by kernel_rfl
  t47 := Tryz.underlying341
  a47 := Tryz.isAgg341
  z47 := Tryz.sizeOf341
  v47 := Tryz.zeroValue341
  i47 := by kernel_rfl
  t48 := Tryz.underlying342
  a48 := Tryz.isAgg342
  z48 := Tryz.sizeOf342
  v48 := Tryz.zeroValue342
  i48 := by kernel_rfl
  t50 := Tryz.underlying344
  a50 := Tryz.isAgg344
  z50 := Tryz.sizeOf344
  v50 := Tryz.zeroValue344
  i50 := by kernel_rfl
  t52 := Tryz.underlying280
  a52 := Tryz.isAgg280
  z52 := Tryz.sizeOf280
  v52 := Tryz.zeroValue280
  i52 := by kernel_rfl
  t55 := Tryz.underlying283
  a55 := Tryz.isAgg283
  z55 := Tryz.sizeOf283
  v55 := Tryz.zeroValue283
  i55 := by kernel_rfl
  t59 := Tryz.underlying309
  a59 := Tryz.isAgg309
  z59 := Tryz.sizeOf309
  v59 := Tryz.zeroValue309
  i59 := by kernel_rfl
  t60 := Tryz.underlying67
  a60 := Tryz.isAgg67
  z60 := Tryz.sizeOf67
  v60 := Tryz.zeroValue67
  i60 := by kernel_rfl
  t61 := Tryz.underlying310
  a61 := Tryz.isAgg310
  z61 := Tryz.sizeOf310
  t65 := Tryz.underlying345
  a65 := Tryz.isAgg345
  z65 := Tryz.sizeOf345
  v65 := Tryz.zeroValue345
  i65 := by kernel_rfl
  t66 := Tryz.underlying346
  a66 := Tryz.isAgg346
  z66 := Tryz.sizeOf346
  v66 := Tryz.zeroValue346
  i66 := by kernel_rfl
  t67 := Tryz.underlying138
  a67 := Tryz.isAgg138
  z67 := Tryz.sizeOf138
  v67 := Tryz.zeroValue138
  i67 := by kernel_rfl
  g0 := by kernel_rfl
  m0 := by kernel_rfl
  g1 := by kernel_rfl
  m1 := by kernel_rfl
  g2 := by kernel_rfl
  m2 := by kernel_rfl
  g3 := by kernel_rfl
  m3 := by kernel_rfl
  g4 := by kernel_rfl
  m4 := by kernel_rfl }
open Go.RowKit in
/-- strconv.ParseUint(s, 10, 0), AT EVERY STRING THAT SPELLS A uint64 ('Lib.parseUintB 64 s.data.toList = .ok u'): u, AND NO ERROR. (LAID: no walk: one application.) -/
theorem Tryz.strconv_ParseUint_10_at0_ok (s : ByteArray) (hmax : s.size ≤ 9223372036854775806) (u : Nat) (h : Lib.parseUintB 64 s.data.toList = .ok u) (w : World) :
    Calls Tryz.prog 136 #[.string s, .int .i64 10, .int .i64 0] w fun e w' => e = .returned (.tuple #[.int .u64 u, .nilIface]) ∧ (w' = w ∨ w' = Lib.bytesWorld w 5 s) := Any.strconv_ParseUint_10_at0_ok Tryz.laysPu14 s hmax u h w
open Go.RowKit in
/-- strconv.ParseUint(s, 10, 0), AT EVERY NUMERAL THAT NO uint64 HOLDS: THE GREATEST uint64, AND AN ERROR THAT IS NOT nil: a *NumError in a new block N: {Func: "ParseUint", Num: s's bytes, Err: what the variable ErrRange holds}. Of what was there nothing has turned. (LAID: no walk: one application.) -/
theorem Tryz.strconv_ParseUint_10_at0_range (s : ByteArray) (hlim : s.size ≤ 281474976710656) (h : Lib.parseUintB 64 s.data.toList = .range) (ev : Value) (w : World) (hv : w.cell? ⟨10, 0, none⟩ = some ev) (hev : ev = .nilIface ∨ ∃ te pe, ev = .iface te pe) :
    Calls Tryz.prog 136 #[.string s, .int .i64 10, .int .i64 0] w fun e w' => ∃ N, e = .returned (.tuple #[.int .u64 18446744073709551615, .iface 294 (.pointer (some ⟨N, 0, none⟩))]) ∧ w.heap.size ≤ N ∧ w'.heap[N]? = some (.cells #[.string ⟨#[80, 97, 114, 115, 101, 85, 105, 110, 116]⟩, .string s, ev] 324 (0, 0)) ∧ Below w.heap.size w w' := Any.strconv_ParseUint_10_at0_range Tryz.laysPu14 s hlim h ev w hv hev
open Go.RowKit in
/-- strconv.ParseUint(s, 10, 64), AT EVERY STRING THAT SPELLS A uint64 ('Lib.parseUintB 64 s.data.toList = .ok u'): u, AND NO ERROR. (LAID: no walk: one application.) -/
theorem Tryz.strconv_ParseUint_10_at64_ok (s : ByteArray) (hmax : s.size ≤ 9223372036854775806) (u : Nat) (h : Lib.parseUintB 64 s.data.toList = .ok u) (w : World) :
    Calls Tryz.prog 136 #[.string s, .int .i64 10, .int .i64 64] w fun e w' => e = .returned (.tuple #[.int .u64 u, .nilIface]) ∧ (w' = w ∨ w' = Lib.bytesWorld w 5 s) := Any.strconv_ParseUint_10_at64_ok Tryz.laysPu14 s hmax u h w
open Go.RowKit in
/-- strconv.ParseUint(s, 10, 64), AT EVERY NUMERAL THAT NO uint64 HOLDS: THE GREATEST uint64, AND AN ERROR THAT IS NOT nil: a *NumError in a new block N: {Func: "ParseUint", Num: s's bytes, Err: what the variable ErrRange holds}. Of what was there nothing has turned. (LAID: no walk: one application.) -/
theorem Tryz.strconv_ParseUint_10_at64_range (s : ByteArray) (hlim : s.size ≤ 281474976710656) (h : Lib.parseUintB 64 s.data.toList = .range) (ev : Value) (w : World) (hv : w.cell? ⟨10, 0, none⟩ = some ev) (hev : ev = .nilIface ∨ ∃ te pe, ev = .iface te pe) :
    Calls Tryz.prog 136 #[.string s, .int .i64 10, .int .i64 64] w fun e w' => ∃ N, e = .returned (.tuple #[.int .u64 18446744073709551615, .iface 294 (.pointer (some ⟨N, 0, none⟩))]) ∧ w.heap.size ≤ N ∧ w'.heap[N]? = some (.cells #[.string ⟨#[80, 97, 114, 115, 101, 85, 105, 110, 116]⟩, .string s, ev] 324 (0, 0)) ∧ Below w.heap.size w w' := Any.strconv_ParseUint_10_at64_range Tryz.laysPu14 s hlim h ev w hv hev
open Go.RowKit in
/-- strconv.ParseUint(s, 10, 32), AT EVERY STRING THAT SPELLS A uint32 ('Lib.parseUintB 32 s.data.toList = .ok u'): u, AND NO ERROR. (LAID: no walk: one application.) -/
theorem Tryz.strconv_ParseUint_10_at32_ok (s : ByteArray) (hmax : s.size ≤ 9223372036854775806) (u : Nat) (h : Lib.parseUintB 32 s.data.toList = .ok u) (w : World) :
    Calls Tryz.prog 136 #[.string s, .int .i64 10, .int .i64 32] w fun e w' => e = .returned (.tuple #[.int .u64 u, .nilIface]) ∧ (w' = w ∨ w' = Lib.bytesWorld w 5 s) := Any.strconv_ParseUint_10_at32_ok Tryz.laysPu14 s hmax u h w
open Go.RowKit in
/-- strconv.ParseUint(s, 10, 32), AT EVERY NUMERAL THAT NO uint32 HOLDS: THE GREATEST uint32, AND AN ERROR THAT IS NOT nil: a *NumError in a new block N: {Func: "ParseUint", Num: s's bytes, Err: what the variable ErrRange holds}. Of what was there nothing has turned. (LAID: no walk: one application.) -/
theorem Tryz.strconv_ParseUint_10_at32_range (s : ByteArray) (hlim : s.size ≤ 281474976710656) (h : Lib.parseUintB 32 s.data.toList = .range) (ev : Value) (w : World) (hv : w.cell? ⟨10, 0, none⟩ = some ev) (hev : ev = .nilIface ∨ ∃ te pe, ev = .iface te pe) :
    Calls Tryz.prog 136 #[.string s, .int .i64 10, .int .i64 32] w fun e w' => ∃ N, e = .returned (.tuple #[.int .u64 4294967295, .iface 294 (.pointer (some ⟨N, 0, none⟩))]) ∧ w.heap.size ≤ N ∧ w'.heap[N]? = some (.cells #[.string ⟨#[80, 97, 114, 115, 101, 85, 105, 110, 116]⟩, .string s, ev] 324 (0, 0)) ∧ Below w.heap.size w w' := Any.strconv_ParseUint_10_at32_range Tryz.laysPu14 s hlim h ev w hv hev
open Go.RowKit in
/-- strconv.ParseUint(s, 10, 16), AT EVERY STRING THAT SPELLS A uint16 ('Lib.parseUintB 16 s.data.toList = .ok u'): u, AND NO ERROR. (LAID: no walk: one application.) -/
theorem Tryz.strconv_ParseUint_10_at16_ok (s : ByteArray) (hmax : s.size ≤ 9223372036854775806) (u : Nat) (h : Lib.parseUintB 16 s.data.toList = .ok u) (w : World) :
    Calls Tryz.prog 136 #[.string s, .int .i64 10, .int .i64 16] w fun e w' => e = .returned (.tuple #[.int .u64 u, .nilIface]) ∧ (w' = w ∨ w' = Lib.bytesWorld w 5 s) := Any.strconv_ParseUint_10_at16_ok Tryz.laysPu14 s hmax u h w
open Go.RowKit in
/-- strconv.ParseUint(s, 10, 16), AT EVERY NUMERAL THAT NO uint16 HOLDS: THE GREATEST uint16, AND AN ERROR THAT IS NOT nil: a *NumError in a new block N: {Func: "ParseUint", Num: s's bytes, Err: what the variable ErrRange holds}. Of what was there nothing has turned. (LAID: no walk: one application.) -/
theorem Tryz.strconv_ParseUint_10_at16_range (s : ByteArray) (hlim : s.size ≤ 281474976710656) (h : Lib.parseUintB 16 s.data.toList = .range) (ev : Value) (w : World) (hv : w.cell? ⟨10, 0, none⟩ = some ev) (hev : ev = .nilIface ∨ ∃ te pe, ev = .iface te pe) :
    Calls Tryz.prog 136 #[.string s, .int .i64 10, .int .i64 16] w fun e w' => ∃ N, e = .returned (.tuple #[.int .u64 65535, .iface 294 (.pointer (some ⟨N, 0, none⟩))]) ∧ w.heap.size ≤ N ∧ w'.heap[N]? = some (.cells #[.string ⟨#[80, 97, 114, 115, 101, 85, 105, 110, 116]⟩, .string s, ev] 324 (0, 0)) ∧ Below w.heap.size w w' := Any.strconv_ParseUint_10_at16_range Tryz.laysPu14 s hlim h ev w hv hev
open Go.RowKit in
/-- strconv.ParseUint(s, 10, 8), AT EVERY STRING THAT SPELLS A uint8 ('Lib.parseUintB 8 s.data.toList = .ok u'): u, AND NO ERROR. (LAID: no walk: one application.) -/
theorem Tryz.strconv_ParseUint_10_at8_ok (s : ByteArray) (hmax : s.size ≤ 9223372036854775806) (u : Nat) (h : Lib.parseUintB 8 s.data.toList = .ok u) (w : World) :
    Calls Tryz.prog 136 #[.string s, .int .i64 10, .int .i64 8] w fun e w' => e = .returned (.tuple #[.int .u64 u, .nilIface]) ∧ (w' = w ∨ w' = Lib.bytesWorld w 5 s) := Any.strconv_ParseUint_10_at8_ok Tryz.laysPu14 s hmax u h w
open Go.RowKit in
/-- strconv.ParseUint(s, 10, 8), AT EVERY NUMERAL THAT NO uint8 HOLDS: THE GREATEST uint8, AND AN ERROR THAT IS NOT nil: a *NumError in a new block N: {Func: "ParseUint", Num: s's bytes, Err: what the variable ErrRange holds}. Of what was there nothing has turned. (LAID: no walk: one application.) -/
theorem Tryz.strconv_ParseUint_10_at8_range (s : ByteArray) (hlim : s.size ≤ 281474976710656) (h : Lib.parseUintB 8 s.data.toList = .range) (ev : Value) (w : World) (hv : w.cell? ⟨10, 0, none⟩ = some ev) (hev : ev = .nilIface ∨ ∃ te pe, ev = .iface te pe) :
    Calls Tryz.prog 136 #[.string s, .int .i64 10, .int .i64 8] w fun e w' => ∃ N, e = .returned (.tuple #[.int .u64 255, .iface 294 (.pointer (some ⟨N, 0, none⟩))]) ∧ w.heap.size ≤ N ∧ w'.heap[N]? = some (.cells #[.string ⟨#[80, 97, 114, 115, 101, 85, 105, 110, 116]⟩, .string s, ev] 324 (0, 0)) ∧ Below w.heap.size w w' := Any.strconv_ParseUint_10_at8_range Tryz.laysPu14 s hlim h ev w hv hev
def Tryz.lays206_ren : Go.Shelf.Ren := ⟨fun | 206 => 154 | n => n, fun | 9 => 9 | 4 => 4 | 3 => 3 | n => n, fun | n => n⟩
theorem Tryz.lays206 : Go.Proofs.Lays.n206 Tryz.prog Tryz.lays206_ren := {
  mixed := by kernel_rfl
  f206 := Tryz.func154.trans (congrArg some (by kernel_rfl))
  t3 := Tryz.underlying3
  a3 := Tryz.isAgg3
  z3 := Tryz.sizeOf3
  v3 := Tryz.zeroValue3
  t4 := Tryz.underlying4
  a4 := Tryz.isAgg4
  z4 := Tryz.sizeOf4
  v4 := Tryz.zeroValue4
  t9 := Tryz.underlying9
  a9 := Tryz.isAgg9
  z9 := Tryz.sizeOf9
  v9 := Tryz.zeroValue9 }
open Go.RowKit Go.Lib in
/-- internal/stringslite.HasPrefix (what strings.HasPrefix calls). (LAID: no walk: one application.) -/
theorem Tryz.stringslite_HasPrefix (s p : ByteArray) (w : World) :
    Calls Tryz.prog 154 #[.string s, .string p] w fun e w' => e = .returned (.bool (Lib.hasPrefix s.data.toList p.data.toList)) ∧ w' = w := Any.stringslite_HasPrefix Tryz.lays206 s p w
def Tryz.lays99_ren : Go.Shelf.Ren := ⟨fun | 99 => 133 | 206 => 154 | n => n, fun | 9 => 9 | 4 => 4 | 3 => 3 | n => n, fun | n => n⟩
theorem Tryz.lays99 : Go.Proofs.Lays.n99 Tryz.prog Tryz.lays99_ren := {
  mixed := by kernel_rfl
  f99 := Tryz.func133.trans (congrArg some (by kernel_rfl))
  f206 := Tryz.func154.trans (congrArg some (by kernel_rfl))
  t3 := Tryz.underlying3
  a3 := Tryz.isAgg3
  z3 := Tryz.sizeOf3
  v3 := Tryz.zeroValue3
  t4 := Tryz.underlying4
  a4 := Tryz.isAgg4
  z4 := Tryz.sizeOf4
  v4 := Tryz.zeroValue4
  t9 := Tryz.underlying9
  a9 := Tryz.isAgg9
  z9 := Tryz.sizeOf9
  v9 := Tryz.zeroValue9 }
open Go.RowKit Go.Lib in
/-- strings.HasPrefix: "HasPrefix reports whether the string s begins with prefix.": IT RETURNS 'Lib.hasPrefix s prefix'; the world is as it was. (LAID: no walk: one application.) -/
theorem Tryz.strings_HasPrefix (s p : ByteArray) (w : World) :
    Calls Tryz.prog 133 #[.string s, .string p] w fun e w' => e = .returned (.bool (Lib.hasPrefix s.data.toList p.data.toList)) ∧ w' = w := Any.strings_HasPrefix Tryz.lays99 s p w
def Tryz.lays208_ren : Go.Shelf.Ren := ⟨fun | 208 => 155 | 206 => 154 | n => n, fun | 9 => 9 | 4 => 4 | 3 => 3 | n => n, fun | n => n⟩
theorem Tryz.lays208 : Go.Proofs.Lays.n208 Tryz.prog Tryz.lays208_ren := {
  mixed := by kernel_rfl
  f206 := Tryz.func154.trans (congrArg some (by kernel_rfl))
  f208 := Tryz.func155.trans (congrArg some (by kernel_rfl))
  t3 := Tryz.underlying3
  a3 := Tryz.isAgg3
  z3 := Tryz.sizeOf3
  v3 := Tryz.zeroValue3
  t4 := Tryz.underlying4
  a4 := Tryz.isAgg4
  z4 := Tryz.sizeOf4
  v4 := Tryz.zeroValue4
  t9 := Tryz.underlying9
  a9 := Tryz.isAgg9
  z9 := Tryz.sizeOf9
  v9 := Tryz.zeroValue9 }
open Go.RowKit Go.Lib in
/-- internal/stringslite.TrimPrefix (what strings.TrimPrefix calls). (LAID: no walk: one application.) -/
theorem Tryz.stringslite_TrimPrefix (s p : ByteArray) (w : World) :
    Calls Tryz.prog 155 #[.string s, .string p] w fun e w' => e = .returned (.string ⟨(Lib.trimPrefix s.data.toList p.data.toList).toArray⟩) ∧ w' = w := Any.stringslite_TrimPrefix Tryz.lays208 s p w
def Tryz.lays101_ren : Go.Shelf.Ren := ⟨fun | 101 => 134 | 208 => 155 | 206 => 154 | n => n, fun | 9 => 9 | 4 => 4 | 3 => 3 | n => n, fun | n => n⟩
theorem Tryz.lays101 : Go.Proofs.Lays.n101 Tryz.prog Tryz.lays101_ren := {
  mixed := by kernel_rfl
  f101 := Tryz.func134.trans (congrArg some (by kernel_rfl))
  f206 := Tryz.func154.trans (congrArg some (by kernel_rfl))
  f208 := Tryz.func155.trans (congrArg some (by kernel_rfl))
  t3 := Tryz.underlying3
  a3 := Tryz.isAgg3
  z3 := Tryz.sizeOf3
  v3 := Tryz.zeroValue3
  t4 := Tryz.underlying4
  a4 := Tryz.isAgg4
  z4 := Tryz.sizeOf4
  v4 := Tryz.zeroValue4
  t9 := Tryz.underlying9
  a9 := Tryz.isAgg9
  z9 := Tryz.sizeOf9
  v9 := Tryz.zeroValue9 }
open Go.RowKit Go.Lib in
/-- strings.TrimPrefix: "TrimPrefix returns s without the provided leading prefix string. If s doesn't start with prefix, s is returned unchanged.": IT RETURNS 'Lib.trimPrefix s prefix'; the world is as it was. (LAID: no walk: one application.) -/
theorem Tryz.strings_TrimPrefix (s p : ByteArray) (w : World) :
    Calls Tryz.prog 134 #[.string s, .string p] w fun e w' => e = .returned (.string ⟨(Lib.trimPrefix s.data.toList p.data.toList).toArray⟩) ∧ w' = w := Any.strings_TrimPrefix Tryz.lays101 s p w
def Tryz.lays157_ren : Go.Shelf.Ren := ⟨fun | 157 => 119 | 229 => 142 | 199 => 143 | 261 => 165 | 311 => 187 | 312 => 188 | n => n, fun | 9 => 9 | 31 => 28 | 3 => 3 | 5 => 5 | 4 => 4 | 119 => 268 | 0 => 0 | 40 => 270 | 152 => 287 | 21 => 21 | 154 => 289 | 51 => 67 | 141 => 291 | 196 => 315 | 193 => 312 | 198 => 317 | 49 => 156 | 194 => 313 | 201 => 320 | 226 => 339 | 46 => 293 | 227 => 340 | n => n, fun | 0 => 5 | 6 => 7 | n => n⟩
theorem Tryz.lays157 : Go.Proofs.Lays.n157 Tryz.prog Tryz.lays157_ren := {
  mixed := by kernel_rfl
  f157 := Tryz.func119.trans (congrArg some (by kernel_rfl))
  f199 := Tryz.func143.trans (congrArg some (by kernel_rfl))
  f229 := Tryz.func142.trans (congrArg some (by kernel_rfl))
  f261 := Tryz.func165.trans (congrArg some (by kernel_rfl))
  f311 := Tryz.func187.trans (congrArg some (by kernel_rfl))
  f312 := Tryz.func188.trans (congrArg some (by kernel_rfl))
  t0 := Tryz.underlying0
  a0 := Tryz.isAgg0
  z0 := Tryz.sizeOf0
  v0 := Tryz.zeroValue0
  t3 := Tryz.underlying3
  a3 := Tryz.isAgg3
  z3 := Tryz.sizeOf3
  v3 := Tryz.zeroValue3
  t4 := Tryz.underlying4
  a4 := Tryz.isAgg4
  z4 := Tryz.sizeOf4
  v4 := Tryz.zeroValue4
  t5 := Tryz.underlying5
  a5 := Tryz.isAgg5
  z5 := Tryz.sizeOf5
  v5 := Tryz.zeroValue5
  t9 := Tryz.underlying9
  a9 := Tryz.isAgg9
  z9 := Tryz.sizeOf9
  v9 := Tryz.zeroValue9
  t21 := Tryz.underlying21
  a21 := Tryz.isAgg21
  z21 := Tryz.sizeOf21
  v21 := Tryz.zeroValue21
  t31 := Tryz.underlying28
  a31 := Tryz.isAgg28
  z31 := Tryz.sizeOf28
  v31 := Tryz.zeroValue28
  t40 := Tryz.underlying270
  a40 := Tryz.isAgg270
  z40 := Tryz.sizeOf270
  v40 := Tryz.zeroValue270
  t46 := Tryz.underlying293
  a46 := Tryz.isAgg293
  z46 := Tryz.sizeOf293
  v46 := Tryz.zeroValue293
  t49 := Tryz.underlying156
  a49 := Tryz.isAgg156
  z49 := Tryz.sizeOf156
  v49 := Tryz.zeroValue156
  t51 := Tryz.underlying67
  a51 := Tryz.isAgg67
  z51 := Tryz.sizeOf67
  v51 := Tryz.zeroValue67
  t119 := Tryz.underlying268
  a119 := Tryz.isAgg268
  z119 := Tryz.sizeOf268
  t141 := Tryz.underlying291
  a141 := Tryz.isAgg291
  z141 := Tryz.sizeOf291
  v141 := Tryz.zeroValue291
  t152 := Tryz.underlying287
  a152 := Tryz.isAgg287
  z152 := Tryz.sizeOf287
  v152 := Tryz.zeroValue287
  t154 := Tryz.underlying289
  a154 := Tryz.isAgg289
  z154 := Tryz.sizeOf289
  v154 := Tryz.zeroValue289
  t193 := Tryz.underlying312
  a193 := Tryz.isAgg312
  z193 := Tryz.sizeOf312
  v193 := Tryz.zeroValue312
  t194 := Tryz.underlying313
  a194 := Tryz.isAgg313
  z194 := Tryz.sizeOf313
  v194 := Tryz.zeroValue313
  t196 := Tryz.underlying315
  a196 := Tryz.isAgg315
  z196 := Tryz.sizeOf315
  v196 := Tryz.zeroValue315
  t198 := Tryz.underlying317
  a198 := Tryz.isAgg317
  z198 := Tryz.sizeOf317
  v198 := Tryz.zeroValue317
  t201 := Tryz.underlying320
  a201 := Tryz.isAgg320
  z201 := Tryz.sizeOf320
  v201 := Tryz.zeroValue320
  t226 := Tryz.underlying339
  a226 := Tryz.isAgg339
  z226 := Tryz.sizeOf339
  v226 := Tryz.zeroValue339
  t227 := Tryz.underlying340
  a227 := Tryz.isAgg340
  z227 := Tryz.sizeOf340
  v227 := Tryz.zeroValue340
  g0 := by kernel_rfl
  g6 := by kernel_rfl }
open Go.RowKit Go.Lib in
/-- strings.Fields, the table by 'Lib.TabIs' (as strings.TrimSpace's contract). 'hg': the table's number, by its name: at a dump 'by kernel_rfl'. (LAID: no walk: one application.) -/
theorem Tryz.strings_Fields (s : ByteArray) (w : World) (hs : s.size < 4294967281) (hascii : ∀ (j : Nat) b, s.data.toList[j]? = some b → b.toNat < 128) (htab : Lib.TabIs Tryz.prog w "strings.asciiSpace" .u8 Lib.asciiSpaceTab) :
    Calls Tryz.prog 119 #[.string s] w fun e w' =>
      e = .returned (.slice (some ⟨w.heap.size, 0, none⟩) (Lib.fields s.data.toList).length (Lib.fields s.data.toList).length) ∧ w' = w.alloc (.cells ((Lib.fields s.data.toList).map fun l => Value.string ⟨l.toArray⟩).toArray 9) := Any.strings_Fields Tryz.lays157 (by kernel_rfl) (by kernel_rfl) s w hs hascii htab
def Tryz.lays199_ren : Go.Shelf.Ren := ⟨fun | 199 => 143 | 261 => 165 | 311 => 187 | 312 => 188 | n => n, fun | 21 => 21 | 4 => 4 | 51 => 67 | 141 => 291 | 0 => 0 | 196 => 315 | 193 => 312 | 3 => 3 | 198 => 317 | 49 => 156 | 194 => 313 | 201 => 320 | 226 => 339 | 46 => 293 | 227 => 340 | n => n, fun | 6 => 7 | n => n⟩
theorem Tryz.lays199 : Go.Proofs.Lays.n199 Tryz.prog Tryz.lays199_ren := {
  mixed := by kernel_rfl
  f199 := Tryz.func143.trans (congrArg some (by kernel_rfl))
  f261 := Tryz.func165.trans (congrArg some (by kernel_rfl))
  f311 := Tryz.func187.trans (congrArg some (by kernel_rfl))
  f312 := Tryz.func188.trans (congrArg some (by kernel_rfl))
  t0 := Tryz.underlying0
  a0 := Tryz.isAgg0
  z0 := Tryz.sizeOf0
  v0 := Tryz.zeroValue0
  t3 := Tryz.underlying3
  a3 := Tryz.isAgg3
  z3 := Tryz.sizeOf3
  v3 := Tryz.zeroValue3
  t4 := Tryz.underlying4
  a4 := Tryz.isAgg4
  z4 := Tryz.sizeOf4
  v4 := Tryz.zeroValue4
  t21 := Tryz.underlying21
  a21 := Tryz.isAgg21
  z21 := Tryz.sizeOf21
  v21 := Tryz.zeroValue21
  t46 := Tryz.underlying293
  a46 := Tryz.isAgg293
  z46 := Tryz.sizeOf293
  v46 := Tryz.zeroValue293
  t49 := Tryz.underlying156
  a49 := Tryz.isAgg156
  z49 := Tryz.sizeOf156
  v49 := Tryz.zeroValue156
  t51 := Tryz.underlying67
  a51 := Tryz.isAgg67
  z51 := Tryz.sizeOf67
  v51 := Tryz.zeroValue67
  t141 := Tryz.underlying291
  a141 := Tryz.isAgg291
  z141 := Tryz.sizeOf291
  v141 := Tryz.zeroValue291
  t193 := Tryz.underlying312
  a193 := Tryz.isAgg312
  z193 := Tryz.sizeOf312
  v193 := Tryz.zeroValue312
  t194 := Tryz.underlying313
  a194 := Tryz.isAgg313
  z194 := Tryz.sizeOf313
  v194 := Tryz.zeroValue313
  t196 := Tryz.underlying315
  a196 := Tryz.isAgg315
  z196 := Tryz.sizeOf315
  v196 := Tryz.zeroValue315
  t198 := Tryz.underlying317
  a198 := Tryz.isAgg317
  z198 := Tryz.sizeOf317
  v198 := Tryz.zeroValue317
  t201 := Tryz.underlying320
  a201 := Tryz.isAgg320
  z201 := Tryz.sizeOf320
  v201 := Tryz.zeroValue320
  t226 := Tryz.underlying339
  a226 := Tryz.isAgg339
  z226 := Tryz.sizeOf339
  v226 := Tryz.zeroValue339
  t227 := Tryz.underlying340
  a227 := Tryz.isAgg340
  z227 := Tryz.sizeOf340
  v227 := Tryz.zeroValue340
  g6 := by kernel_rfl }
open Go.RowKit Go.Lib in
theorem Tryz.unicode_IsSpace (r : Int) (w : World) (h0 : 0 ≤ r) (h : r ≤ 255) :
    Calls Tryz.prog 143 #[.int .i32 r] w fun e w' => e = .returned (.bool (Lib.isSpaceL r)) ∧ w' = w := Any.unicode_IsSpace Tryz.lays199 r w h0 h
def Tryz.lays311_ren : Go.Shelf.Ren := ⟨fun | 311 => 187 | n => n, fun | 193 => 312 | 49 => 156 | 4 => 4 | 3 => 3 | 0 => 0 | 226 => 339 | 198 => 317 | 46 => 293 | n => n, fun | n => n⟩
theorem Tryz.lays311 : Go.Proofs.Lays.n311 Tryz.prog Tryz.lays311_ren := {
  mixed := by kernel_rfl
  f311 := Tryz.func187.trans (congrArg some (by kernel_rfl))
  t0 := Tryz.underlying0
  a0 := Tryz.isAgg0
  z0 := Tryz.sizeOf0
  v0 := Tryz.zeroValue0
  t3 := Tryz.underlying3
  a3 := Tryz.isAgg3
  z3 := Tryz.sizeOf3
  v3 := Tryz.zeroValue3
  t4 := Tryz.underlying4
  a4 := Tryz.isAgg4
  z4 := Tryz.sizeOf4
  v4 := Tryz.zeroValue4
  t46 := Tryz.underlying293
  a46 := Tryz.isAgg293
  z46 := Tryz.sizeOf293
  v46 := Tryz.zeroValue293
  t49 := Tryz.underlying156
  a49 := Tryz.isAgg156
  z49 := Tryz.sizeOf156
  v49 := Tryz.zeroValue156
  t193 := Tryz.underlying312
  a193 := Tryz.isAgg312
  z193 := Tryz.sizeOf312
  v193 := Tryz.zeroValue312
  t198 := Tryz.underlying317
  a198 := Tryz.isAgg317
  z198 := Tryz.sizeOf317
  v198 := Tryz.zeroValue317
  t226 := Tryz.underlying339
  a226 := Tryz.isAgg339
  z226 := Tryz.sizeOf339
  v226 := Tryz.zeroValue339 }
open Go.RowKit Go.Lib in
theorem Tryz.unicode_is16_white (R oR : Nat) (z : Nat) (w : World) (hz : z < 65536) (hz0 : 255 < z) (c6 : w.cell? ⟨R, oR + 6, none⟩ = some (.int .u16 160)) (c7 : w.cell? ⟨R, oR + 7, none⟩ = some (.int .u16 5760)) (c8 : w.cell? ⟨R, oR + 8, none⟩ = some (.int .u16 5600)) (c9 : w.cell? ⟨R, oR + 9, none⟩ = some (.int .u16 8192)) (c10 : w.cell? ⟨R, oR + 10, none⟩ = some (.int .u16 8202)) (c11 : w.cell? ⟨R, oR + 11, none⟩ = some (.int .u16 1)) (c12 : w.cell? ⟨R, oR + 12, none⟩ = some (.int .u16 8232)) (c13 : w.cell? ⟨R, oR + 13, none⟩ = some (.int .u16 8233)) (c14 : w.cell? ⟨R, oR + 14, none⟩ = some (.int .u16 1)) (c15 : w.cell? ⟨R, oR + 15, none⟩ = some (.int .u16 8239)) (c16 : w.cell? ⟨R, oR + 16, none⟩ = some (.int .u16 8287)) (c17 : w.cell? ⟨R, oR + 17, none⟩ = some (.int .u16 48)) (c18 : w.cell? ⟨R, oR + 18, none⟩ = some (.int .u16 12288)) (c19 : w.cell? ⟨R, oR + 19, none⟩ = some (.int .u16 12288)) (c20 : w.cell? ⟨R, oR + 20, none⟩ = some (.int .u16 1)) :
    Calls Tryz.prog 187 #[.slice (some ⟨R, oR + 6, none⟩) 5 5, .int .u16 z] w fun e w' => e = .returned (.bool (Lib.isSpaceR z)) ∧ Below w.heap.size w w' := Any.unicode_is16_white Tryz.lays311 R oR z w hz hz0 c6 c7 c8 c9 c10 c11 c12 c13 c14 c15 c16 c17 c18 c19 c20
def Tryz.lays261_ren : Go.Shelf.Ren := ⟨fun | 261 => 165 | 311 => 187 | 312 => 188 | n => n, fun | 141 => 291 | 21 => 21 | 4 => 4 | 0 => 0 | 196 => 315 | 193 => 312 | 3 => 3 | 51 => 67 | 198 => 317 | 49 => 156 | 194 => 313 | 201 => 320 | 226 => 339 | 46 => 293 | 227 => 340 | n => n, fun | n => n⟩
theorem Tryz.lays261 : Go.Proofs.Lays.n261 Tryz.prog Tryz.lays261_ren := {
  mixed := by kernel_rfl
  f261 := Tryz.func165.trans (congrArg some (by kernel_rfl))
  f311 := Tryz.func187.trans (congrArg some (by kernel_rfl))
  f312 := Tryz.func188.trans (congrArg some (by kernel_rfl))
  t0 := Tryz.underlying0
  a0 := Tryz.isAgg0
  z0 := Tryz.sizeOf0
  v0 := Tryz.zeroValue0
  t3 := Tryz.underlying3
  a3 := Tryz.isAgg3
  z3 := Tryz.sizeOf3
  v3 := Tryz.zeroValue3
  t4 := Tryz.underlying4
  a4 := Tryz.isAgg4
  z4 := Tryz.sizeOf4
  v4 := Tryz.zeroValue4
  t21 := Tryz.underlying21
  a21 := Tryz.isAgg21
  z21 := Tryz.sizeOf21
  v21 := Tryz.zeroValue21
  t46 := Tryz.underlying293
  a46 := Tryz.isAgg293
  z46 := Tryz.sizeOf293
  v46 := Tryz.zeroValue293
  t49 := Tryz.underlying156
  a49 := Tryz.isAgg156
  z49 := Tryz.sizeOf156
  v49 := Tryz.zeroValue156
  t51 := Tryz.underlying67
  a51 := Tryz.isAgg67
  z51 := Tryz.sizeOf67
  v51 := Tryz.zeroValue67
  t141 := Tryz.underlying291
  a141 := Tryz.isAgg291
  z141 := Tryz.sizeOf291
  v141 := Tryz.zeroValue291
  t193 := Tryz.underlying312
  a193 := Tryz.isAgg312
  z193 := Tryz.sizeOf312
  v193 := Tryz.zeroValue312
  t194 := Tryz.underlying313
  a194 := Tryz.isAgg313
  z194 := Tryz.sizeOf313
  v194 := Tryz.zeroValue313
  t196 := Tryz.underlying315
  a196 := Tryz.isAgg315
  z196 := Tryz.sizeOf315
  v196 := Tryz.zeroValue315
  t198 := Tryz.underlying317
  a198 := Tryz.isAgg317
  z198 := Tryz.sizeOf317
  v198 := Tryz.zeroValue317
  t201 := Tryz.underlying320
  a201 := Tryz.isAgg320
  z201 := Tryz.sizeOf320
  v201 := Tryz.zeroValue320
  t226 := Tryz.underlying339
  a226 := Tryz.isAgg339
  z226 := Tryz.sizeOf339
  v226 := Tryz.zeroValue339
  t227 := Tryz.underlying340
  a227 := Tryz.isAgg340
  z227 := Tryz.sizeOf340
  v227 := Tryz.zeroValue340 }
open Go.RowKit Go.Lib in
/-- unicode.isExcludingLatin(White_Space, r), r beyond U+00FF or negative. (LAID: no walk: one application.) -/
theorem Tryz.unicode_isExcludingLatin_white (T oT R oR : Nat) (r : Int) (w : World) (hlo : -2147483648 ≤ r) (hhi : r ≤ 2147483647) (hr : r < 0 ∨ 255 < r) (h2 : w.cell? ⟨T, oT, none⟩ = some (.slice (some ⟨R, oR, none⟩) 7 7)) (h3 : w.cell? ⟨T, oT + 1, none⟩ = some (.slice none 0 0)) (h4 : w.cell? ⟨T, oT + 2, none⟩ = some (.int .i64 2)) (h5 : ∀ i, i < 21 → w.cell? ⟨R, oR + i, none⟩ = some (.int .u16 (whiteT.getD i 0))) :
    Calls Tryz.prog 165 #[.pointer (some ⟨T, oT, none⟩), .int .i32 r] w fun e w' => e = .returned (.bool (Lib.isSpaceZ r)) ∧ Below w.heap.size w w' := Any.unicode_isExcludingLatin_white Tryz.lays261 T oT R oR r w hlo hhi hr h2 h3 h4 h5
open Go.RowKit Go.Lib in
/-- **unicode.IsSpace AT EVERY int32.** (LAID: no walk: one application.) -/
theorem Tryz.unicode_IsSpace_any (r : Int) (w : World) (hlo : -2147483648 ≤ r) (hhi : r ≤ 2147483647) (hW : Lib.WhiteTab 7 w) :
    Calls Tryz.prog 143 #[.int .i32 r] w fun e w' => e = .returned (.bool (Lib.isSpaceZ r)) ∧ Below w.heap.size w w' := Any.unicode_IsSpace_any Tryz.lays199 r w hlo hhi hW
open Go.RowKit Go.Lib in
theorem Tryz.unicode_is16_white_d (R oR : Nat) (z : Nat) (w : World) (hz : z < 65536) (hz0 : 255 < z) (c6 : w.cell? ⟨R, oR + 6, none⟩ = some (.int .u16 160)) (c7 : w.cell? ⟨R, oR + 7, none⟩ = some (.int .u16 5760)) (c8 : w.cell? ⟨R, oR + 8, none⟩ = some (.int .u16 5600)) (c9 : w.cell? ⟨R, oR + 9, none⟩ = some (.int .u16 8192)) (c10 : w.cell? ⟨R, oR + 10, none⟩ = some (.int .u16 8202)) (c11 : w.cell? ⟨R, oR + 11, none⟩ = some (.int .u16 1)) (c12 : w.cell? ⟨R, oR + 12, none⟩ = some (.int .u16 8232)) (c13 : w.cell? ⟨R, oR + 13, none⟩ = some (.int .u16 8233)) (c14 : w.cell? ⟨R, oR + 14, none⟩ = some (.int .u16 1)) (c15 : w.cell? ⟨R, oR + 15, none⟩ = some (.int .u16 8239)) (c16 : w.cell? ⟨R, oR + 16, none⟩ = some (.int .u16 8287)) (c17 : w.cell? ⟨R, oR + 17, none⟩ = some (.int .u16 48)) (c18 : w.cell? ⟨R, oR + 18, none⟩ = some (.int .u16 12288)) (c19 : w.cell? ⟨R, oR + 19, none⟩ = some (.int .u16 12288)) (c20 : w.cell? ⟨R, oR + 20, none⟩ = some (.int .u16 1)) :
    Calls Tryz.prog 187 #[.slice (some ⟨R, oR + 6, none⟩) 5 5, .int .u16 z] w fun e w' => e = .returned (.bool (Lib.isSpaceR z)) ∧ ∃ q, w' = w.drewN q := Any.unicode_is16_white_d Tryz.lays311 R oR z w hz hz0 c6 c7 c8 c9 c10 c11 c12 c13 c14 c15 c16 c17 c18 c19 c20
open Go.RowKit Go.Lib in
/-- unicode.isExcludingLatin(White_Space, r), r beyond U+00FF or negative. (LAID: no walk: one application.) -/
theorem Tryz.unicode_isExcludingLatin_white_d (T oT R oR : Nat) (r : Int) (w : World) (hlo : -2147483648 ≤ r) (hhi : r ≤ 2147483647) (hr : r < 0 ∨ 255 < r) (h2 : w.cell? ⟨T, oT, none⟩ = some (.slice (some ⟨R, oR, none⟩) 7 7)) (h3 : w.cell? ⟨T, oT + 1, none⟩ = some (.slice none 0 0)) (h4 : w.cell? ⟨T, oT + 2, none⟩ = some (.int .i64 2)) (h5 : ∀ i, i < 21 → w.cell? ⟨R, oR + i, none⟩ = some (.int .u16 (whiteT.getD i 0))) :
    Calls Tryz.prog 165 #[.pointer (some ⟨T, oT, none⟩), .int .i32 r] w fun e w' => e = .returned (.bool (Lib.isSpaceZ r)) ∧ ∃ q, w' = w.drewN q := Any.unicode_isExcludingLatin_white_d Tryz.lays261 T oT R oR r w hlo hhi hr h2 h3 h4 h5
open Go.RowKit Go.Lib in
/-- **unicode.IsSpace AT EVERY int32.** (LAID: no walk: one application.) -/
theorem Tryz.unicode_IsSpace_any_d (r : Int) (w : World) (hlo : -2147483648 ≤ r) (hhi : r ≤ 2147483647) (hW : Lib.WhiteTab 7 w) :
    Calls Tryz.prog 143 #[.int .i32 r] w fun e w' => e = .returned (.bool (Lib.isSpaceZ r)) ∧ ∃ q, w' = w.drewN q := Any.unicode_IsSpace_any_d Tryz.lays199 r w hlo hhi hW
open Go.RowKit Go.Lib in
theorem Tryz.strings_Fields_beyond (s : ByteArray) (w : World) (hs : s.size < 4294967281) (hhigh : ∃ (j : Nat) (b : UInt8), s.data.toList[j]? = some b ∧ 128 ≤ b.toNat) (hT : ∀ c : Nat, c < 256 → w.cell? ⟨5, c, none⟩ = some (.int .u8 (if Lib.isSp (UInt8.ofNat c) then 1 else 0))) (hW : Lib.WhiteTab 7 w) :
    Calls Tryz.prog 119 #[.string s] w fun e w' => ∃ A, e = .returned (.slice (some ⟨A, 0, none⟩) (Lib.goFieldsP Lib.isSpaceR s).length (Lib.goFieldsP Lib.isSpaceR s).length) ∧ w.heap.size ≤ A ∧
      w'.ownsRow w.heap.size 9 1 (.slice (some ⟨A, 0, none⟩) (Lib.goFieldsP Lib.isSpaceR s).length (Lib.goFieldsP Lib.isSpaceR s).length) (Lib.goFieldsP Lib.isSpaceR s).length ((Lib.goFieldsP Lib.isSpaceR s).map Value.string) ∧ Below w.heap.size w w' := Any.strings_Fields_beyond Tryz.lays157 (by kernel_rfl) (by kernel_rfl) s w hs hhigh hT hW
open Go.RowKit Go.Lib in
/-- **strings.Fields AT EVERY STRING, VALID UTF-8 OR NOT.** (LAID: no walk: one application.) -/
theorem Tryz.strings_Fields_any (s : ByteArray) (w : World) (hs : s.size < 4294967281) (htab : Lib.TabIs Tryz.prog w "strings.asciiSpace" .u8 Lib.asciiSpaceTab) (hW : Lib.WhiteTab 7 w) :
    Calls Tryz.prog 119 #[.string s] w fun e w' => ∃ A, e = .returned (.slice (some ⟨A, 0, none⟩) (Lib.fieldsD s.data.toList).length (Lib.fieldsD s.data.toList).length) ∧ w.heap.size ≤ A ∧
      w'.ownsRow w.heap.size 9 1 (.slice (some ⟨A, 0, none⟩) (Lib.fieldsD s.data.toList).length (Lib.fieldsD s.data.toList).length) (Lib.fieldsD s.data.toList).length ((Lib.fieldsD s.data.toList).map fun x => Value.string ⟨x.toArray⟩) ∧ Below w.heap.size w w' := Any.strings_Fields_any Tryz.lays157 (by kernel_rfl) (by kernel_rfl) (by kernel_rfl) s w hs htab hW
def Tryz.lays229_ren : Go.Shelf.Ren := ⟨fun | 229 => 142 | n => n, fun | 9 => 9 | 40 => 270 | 31 => 28 | 152 => 287 | 3 => 3 | 0 => 0 | 4 => 4 | 21 => 21 | 154 => 289 | n => n, fun | n => n⟩
theorem Tryz.lays229 : Go.Proofs.Lays.n229 Tryz.prog Tryz.lays229_ren := {
  mixed := by kernel_rfl
  f229 := Tryz.func142.trans (congrArg some (by kernel_rfl))
  t0 := Tryz.underlying0
  a0 := Tryz.isAgg0
  z0 := Tryz.sizeOf0
  v0 := Tryz.zeroValue0
  t3 := Tryz.underlying3
  a3 := Tryz.isAgg3
  z3 := Tryz.sizeOf3
  v3 := Tryz.zeroValue3
  t4 := Tryz.underlying4
  a4 := Tryz.isAgg4
  z4 := Tryz.sizeOf4
  v4 := Tryz.zeroValue4
  t9 := Tryz.underlying9
  a9 := Tryz.isAgg9
  z9 := Tryz.sizeOf9
  v9 := Tryz.zeroValue9
  t21 := Tryz.underlying21
  a21 := Tryz.isAgg21
  z21 := Tryz.sizeOf21
  v21 := Tryz.zeroValue21
  t31 := Tryz.underlying28
  a31 := Tryz.isAgg28
  z31 := Tryz.sizeOf28
  v31 := Tryz.zeroValue28
  t40 := Tryz.underlying270
  a40 := Tryz.isAgg270
  z40 := Tryz.sizeOf270
  v40 := Tryz.zeroValue270
  t152 := Tryz.underlying287
  a152 := Tryz.isAgg287
  z152 := Tryz.sizeOf287
  v152 := Tryz.zeroValue287
  t154 := Tryz.underlying289
  a154 := Tryz.isAgg289
  z154 := Tryz.sizeOf289
  v154 := Tryz.zeroValue289 }
open Go.RowKit Go.Lib in
theorem Tryz.strings_FieldsFunc_runes (g : Nat) (lb : Array Value) (eg : ∀ args w, (callFunc g args).run Tryz.prog w = .ok (.enter g args) w) (p : Nat → Bool) (s : ByteArray) (w : World) (hs : s.size ≤ 4294967296) (hp : PredAtRunes Tryz.prog g lb p w) :
    Calls Tryz.prog 142 #[.string s, .func (.func g) #[] lb] w fun e w' => ∃ A, e = .returned (.slice (some ⟨A, 0, none⟩) (Lib.goFieldsP p s).length (Lib.goFieldsP p s).length) ∧ w.heap.size ≤ A ∧
      w'.ownsRow w.heap.size 9 1 (.slice (some ⟨A, 0, none⟩) (Lib.goFieldsP p s).length (Lib.goFieldsP p s).length) (Lib.goFieldsP p s).length ((Lib.goFieldsP p s).map Value.string) ∧ Below w.heap.size w w' := Any.strings_FieldsFunc_runes Tryz.lays229 g lb eg p s w hs hp (by kernel_rfl) (by kernel_rfl)
open Go.RowKit Go.Lib in
/-- .. over a hand of the authors' house's premise as it stands. (LAID: no walk: one application.) -/
theorem Tryz.strings_FieldsFunc (g : Nat) (lb : Array Value) (eg : ∀ args w, (callFunc g args).run Tryz.prog w = .ok (.enter g args) w) (p : Nat → Bool) (s : ByteArray) (w : World) (hs : s.size ≤ 4294967296) (hp : PredAt Tryz.prog g lb encR p w) :
    Calls Tryz.prog 142 #[.string s, .func (.func g) #[] lb] w fun e w' => ∃ A, e = .returned (.slice (some ⟨A, 0, none⟩) (Lib.goFieldsP p s).length (Lib.goFieldsP p s).length) ∧ w.heap.size ≤ A ∧
      w'.ownsRow w.heap.size 9 1 (.slice (some ⟨A, 0, none⟩) (Lib.goFieldsP p s).length (Lib.goFieldsP p s).length) (Lib.goFieldsP p s).length ((Lib.goFieldsP p s).map Value.string) ∧ Below w.heap.size w w' := Any.strings_FieldsFunc Tryz.lays229 g lb eg p s w hs hp (by kernel_rfl) (by kernel_rfl)
open Go.RowKit Go.Lib in
theorem Tryz.unicode_is16_any (T : Array Rg) (R oR cap : Nat) (z : Nat) (w : World) (hz : z < 65536) (hT : RgTab .u16 R oR T w) (hok : RgOk 65536 T) (hn : T.size ≤ 1000000000) :
    Calls Tryz.prog 187 #[.slice (some ⟨R, oR, none⟩) T.size cap, .int .u16 z] w fun e w' => e = .returned (.bool (is16Go T z)) ∧ ∃ q, w' = w.drewN q := Any.unicode_is16_any Tryz.lays311 T R oR cap z w hz hT hok hn
def Tryz.lays312_ren : Go.Shelf.Ren := ⟨fun | 312 => 188 | n => n, fun | 194 => 313 | 51 => 67 | 4 => 4 | 3 => 3 | 0 => 0 | 227 => 340 | 201 => 320 | 46 => 293 | n => n, fun | n => n⟩
theorem Tryz.lays312 : Go.Proofs.Lays.n312 Tryz.prog Tryz.lays312_ren := {
  mixed := by kernel_rfl
  f312 := Tryz.func188.trans (congrArg some (by kernel_rfl))
  t0 := Tryz.underlying0
  a0 := Tryz.isAgg0
  z0 := Tryz.sizeOf0
  v0 := Tryz.zeroValue0
  t3 := Tryz.underlying3
  a3 := Tryz.isAgg3
  z3 := Tryz.sizeOf3
  v3 := Tryz.zeroValue3
  t4 := Tryz.underlying4
  a4 := Tryz.isAgg4
  z4 := Tryz.sizeOf4
  v4 := Tryz.zeroValue4
  t46 := Tryz.underlying293
  a46 := Tryz.isAgg293
  z46 := Tryz.sizeOf293
  v46 := Tryz.zeroValue293
  t51 := Tryz.underlying67
  a51 := Tryz.isAgg67
  z51 := Tryz.sizeOf67
  v51 := Tryz.zeroValue67
  t194 := Tryz.underlying313
  a194 := Tryz.isAgg313
  z194 := Tryz.sizeOf313
  v194 := Tryz.zeroValue313
  t201 := Tryz.underlying320
  a201 := Tryz.isAgg320
  z201 := Tryz.sizeOf320
  v201 := Tryz.zeroValue320
  t227 := Tryz.underlying340
  a227 := Tryz.isAgg340
  z227 := Tryz.sizeOf340
  v227 := Tryz.zeroValue340 }
open Go.RowKit Go.Lib in
theorem Tryz.unicode_is32_any (T : Array Rg) (R oR cap : Nat) (z : Nat) (w : World) (hz : z < 4294967296) (hT : RgTab .u32 R oR T w) (hok : RgOk 4294967296 T) (hn : T.size ≤ 1000000000) :
    Calls Tryz.prog 188 #[.slice (some ⟨R, oR, none⟩) T.size cap, .int .u32 z] w fun e w' => e = .returned (.bool (is32Go T z)) ∧ Below w.heap.size w w' := Any.unicode_is32_any Tryz.lays312 T R oR cap z w hz hT hok hn
open Go.RowKit Go.Lib in
theorem Tryz.unicode_isExcludingLatin_any (Tb oT : Nat) (T : RTab) (r : Int) (w : World) (hlo : -2147483648 ≤ r) (hhi : r ≤ 2147483647) (hA : RTabAt Tb oT T w) (hok : RTabOk T) :
    Calls Tryz.prog 165 #[.pointer (some ⟨Tb, oT, none⟩), .int .i32 r] w fun e w' => e = .returned (.bool (exclGo T r)) ∧ Below w.heap.size w w' := Any.unicode_isExcludingLatin_any Tryz.lays261 Tb oT T r w hlo hhi hA hok
def Tryz.lays109_ren : Go.Shelf.Ren := ⟨fun | 109 => 179 | n => n, fun | 31 => 28 | 9 => 9 | 3 => 3 | 0 => 0 | 4 => 4 | n => n, fun | n => n⟩
theorem Tryz.lays109 : Go.Proofs.Lays.n109 Tryz.prog Tryz.lays109_ren := {
  mixed := by kernel_rfl
  f109 := Tryz.func179.trans (congrArg some (by kernel_rfl))
  t0 := Tryz.underlying0
  a0 := Tryz.isAgg0
  z0 := Tryz.sizeOf0
  v0 := Tryz.zeroValue0
  t3 := Tryz.underlying3
  a3 := Tryz.isAgg3
  z3 := Tryz.sizeOf3
  v3 := Tryz.zeroValue3
  t4 := Tryz.underlying4
  a4 := Tryz.isAgg4
  z4 := Tryz.sizeOf4
  v4 := Tryz.zeroValue4
  t9 := Tryz.underlying9
  a9 := Tryz.isAgg9
  z9 := Tryz.sizeOf9
  v9 := Tryz.zeroValue9
  t31 := Tryz.underlying28
  a31 := Tryz.isAgg28
  z31 := Tryz.sizeOf28
  v31 := Tryz.zeroValue28 }
open Go.Lib in
/-- slices.Index at []string: "Index returns the index of the first occurrence of v in s, or -1 if not present.": IT RETURNS 'Lib.idxOfS (the elements) v'; the world is as it was. 'zs': what the cells behind the slice's address hold (its spare capacity too, if you have it); 'zs.take n': its elements. (LAID: no walk: one application.) -/
theorem Tryz.slices_Index_string (b off n c : Nat) (zs : List ByteArray) (x : ByteArray) (w : World) (hz : n ≤ zs.length) (hbig : n ≤ 9223372036854775807) (hc : ∀ j, j < zs.length → w.cell? ⟨b, off + j, none⟩ = some (.string (zs.getD j ByteArray.empty))) :
    Calls Tryz.prog 179 #[.slice (some ⟨b, off, none⟩) n c, .string x] w fun e w' => e = .returned (.int .i64 (Lib.idxOfS (zs.take n) x)) ∧ w' = w := Any.slices_Index_string Tryz.lays109 b off n c zs x w hz hbig hc
open Go.Lib in
/-- The same at a slice of length 0, a nil one too: no cell is known, none is asked for. (LAID: no walk: one application.) -/
theorem Tryz.slices_Index_string_empty (a : Option Addr) (c : Nat) (x : ByteArray) (w : World) :
    Calls Tryz.prog 179 #[.slice a 0 c, .string x] w fun e w' => e = .returned (.int .i64 (Lib.idxOfS [] x)) ∧ w' = w := Any.slices_Index_string_empty Tryz.lays109 a c x w
def Tryz.lays110_ren : Go.Shelf.Ren := ⟨fun | 110 => 156 | 109 => 179 | n => n, fun | 31 => 28 | 9 => 9 | 4 => 4 | 3 => 3 | 0 => 0 | n => n, fun | n => n⟩
theorem Tryz.lays110 : Go.Proofs.Lays.n110 Tryz.prog Tryz.lays110_ren := {
  mixed := by kernel_rfl
  f109 := Tryz.func179.trans (congrArg some (by kernel_rfl))
  f110 := Tryz.func156.trans (congrArg some (by kernel_rfl))
  t0 := Tryz.underlying0
  a0 := Tryz.isAgg0
  z0 := Tryz.sizeOf0
  v0 := Tryz.zeroValue0
  t3 := Tryz.underlying3
  a3 := Tryz.isAgg3
  z3 := Tryz.sizeOf3
  v3 := Tryz.zeroValue3
  t4 := Tryz.underlying4
  a4 := Tryz.isAgg4
  z4 := Tryz.sizeOf4
  v4 := Tryz.zeroValue4
  t9 := Tryz.underlying9
  a9 := Tryz.isAgg9
  z9 := Tryz.sizeOf9
  v9 := Tryz.zeroValue9
  t31 := Tryz.underlying28
  a31 := Tryz.isAgg28
  z31 := Tryz.sizeOf28
  v31 := Tryz.zeroValue28 }
open Go.Lib in
/-- slices.Contains at []string: "Contains reports whether v is present in s.": IT RETURNS 'Lib.containsS (the elements) v', which is true just where v is among them ('Lib.containsS_iff'); the world is as it was. ITS CALLEE slices.Index IS MET BY ITS OWN CONTRACT OFF THE SHELF (lay that first): no loop is walked here. (LAID: no walk: one application.) -/
theorem Tryz.slices_Contains_string (b off n c : Nat) (zs : List ByteArray) (x : ByteArray) (w : World) (hz : n ≤ zs.length) (hbig : n ≤ 9223372036854775807) (hc : ∀ j, j < zs.length → w.cell? ⟨b, off + j, none⟩ = some (.string (zs.getD j ByteArray.empty))) :
    Calls Tryz.prog 156 #[.slice (some ⟨b, off, none⟩) n c, .string x] w fun e w' => e = .returned (.bool (Lib.containsS (zs.take n) x)) ∧ w' = w := Any.slices_Contains_string Tryz.lays110 b off n c zs x w hz hbig hc
open Go.Lib in
/-- The same at a slice of length 0, a nil one too. (LAID: no walk: one application.) -/
theorem Tryz.slices_Contains_string_empty (a : Option Addr) (c : Nat) (x : ByteArray) (w : World) :
    Calls Tryz.prog 156 #[.slice a 0 c, .string x] w fun e w' => e = .returned (.bool false) ∧ w' = w := Any.slices_Contains_string_empty Tryz.lays110 a c x w
def Tryz.laysNm216_ren : Go.Shelf.Ren := ⟨fun | 16 => 103 | n => n, fun | 24 => 28 | 9 => 9 | 4 => 4 | n => n, fun | n => n⟩
theorem Tryz.laysNm216 : Go.Proofs.Lays2.n16 Tryz.prog Tryz.laysNm216_ren := {
  mixed := by kernel_rfl
  f16 := Tryz.func103.trans (congrArg some (by kernel_rfl))
  t4 := Tryz.underlying4
  a4 := Tryz.isAgg4
  z4 := Tryz.sizeOf4
  v4 := Tryz.zeroValue4
  t9 := Tryz.underlying9
  a9 := Tryz.isAgg9
  z9 := Tryz.sizeOf9
  v9 := Tryz.zeroValue9
  t24 := Tryz.underlying28
  a24 := Tryz.isAgg28
  z24 := Tryz.sizeOf28
  v24 := Tryz.zeroValue28
  i9 := by kernel_rfl }
open Go.RowKit Go.Lib in
/-- slices.Clone at []string: "Clone returns a copy of the slice. The elements are copied using assignment, so this is a shallow clone. The result may have additional unused capacity. The result preserves the nilness of s.": OF A SLICE THAT IS NOT nil IT RETURNS A SLICE THAT IS NOT nil, OF THE SAME ELEMENTS, IN MEMORY OF THE CALL's OWN: in the how-to's words (6f): 'w'.ownsRow B e 1 v' n cells': v' begins at the head of a row among the blocks from B on (B: the heap's size at the call), not frozen, whose first cells are the elements · 'Below B w w'': below B all is as it was. The capacity is whatever the run-time gives. 'zs': what the cells behind the slice's address hold; 'zs.take n': its elements. (LAID: no walk: one application.) -/
theorem Tryz.slices_Clone_string (b off n c : Nat) (zs : List ByteArray) (w : World) (hz : n ≤ zs.length) (hbig : n * 16 ≤ 140737488355328) (hc : ∀ j, j < zs.length → w.cell? ⟨b, off + j, none⟩ = some (.string (zs.getD j ByteArray.empty))) :
    Calls Tryz.prog 103 #[.slice (some ⟨b, off, none⟩) n c] w fun e w' => ∃ v', e = .returned v' ∧ w'.ownsRow w.heap.size 9 1 v' n ((zs.take n).map (Value.string)) ∧ v' ≠ .slice none 0 0 ∧ Below w.heap.size w w' := Any.slices_Clone_string Tryz.laysNm216 b off n c zs w hz hbig hc
open Go.RowKit Go.Lib in
/-- The same at nil: nil comes back; the world is as it was. (LAID: no walk: one application.) -/
theorem Tryz.slices_Clone_string_nil (n c : Nat) (w : World) :
    Calls Tryz.prog 103 #[.slice none n c] w fun e w' => e = .returned (.slice none 0 0) ∧ w' = w := Any.slices_Clone_string_nil Tryz.laysNm216 n c w
open Go.RowKit Go.Lib in
/-- The same at a slice of length 0 that is not nil, WHATEVER ITS ADDRESS (no cell is asked for): a slice that is not nil and owns nothing comes back. (LAID: no walk: one application.) -/
theorem Tryz.slices_Clone_string_zero (a : Addr) (c : Nat) (w : World) :
    Calls Tryz.prog 103 #[.slice (some a) 0 c] w fun e w' => ∃ v', e = .returned v' ∧ w'.ownsRow w.heap.size 9 1 v' 0 [] ∧ v' ≠ .slice none 0 0 ∧ Below w.heap.size w w' := Any.slices_Clone_string_zero Tryz.laysNm216 a c w
end Go.Proofs
