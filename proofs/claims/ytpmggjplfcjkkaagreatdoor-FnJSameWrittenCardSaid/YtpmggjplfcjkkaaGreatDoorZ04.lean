/- DERIVED: THE SHELF's CONTRACTS AT THIS DUMP, IN PLAIN WORDS (tools/lay-plain.mjs out of 'TryzShelf.lean', which tools/lay-shelf.mjs wrote): THE SAME DECLARATIONS UNDER THE SAME NAMES: 'import', 'namespace', 'open', 'def', 'theorem' AND NOTHING ELSE: no command of the shelf's: FOR A HAND-IN. Each laying: the table of numbers ('.._ren') and one theorem, a field a fact of the dump's own or the kernel's comparison; each contract: ONE APPLICATION. -/
import Derived.Shelf.Small.Bits
import Derived.Shelf.Strconv.Itoa0
import Derived.Shelf.Strconv.Itoa1
import Derived.Shelf.LaysM
import Derived.Shelf.Strconv.Itoa2
import Derived.Shelf.Strconv.Itoa3
import Derived.Shelf.Strconv.ParseIntEmpty
import Derived.Shelf.Strconv.Clone
import Derived.Shelf.Strconv.SyntaxError
import Derived.Shelf.LaysC
import Derived.Shelf.Strconv.ToError
import Derived.Shelf.Strconv.Lower
import Derived.Shelf.Strconv.ParseUint10
import Derived.Shelf.Strconv.ParseUint10Empty
import Derived.Shelf.Strconv.ParseUint10Any
import Derived.Shelf.Strconv.ParseInt10
import Derived.Shelf.Strconv.RangeError
import Derived.Shelf.Strconv.ToErrorRange
import Derived.Shelf.Strconv.ParseUintEmpty
import Derived.Shelf.Strconv.ParseUint10b64
import Derived.Shelf.Strconv.ParseUint10b32
import Derived.Shelf.Strconv.ParseUint10b16
import Derived.Shelf.Strconv.ParseUint10b8
import Derived.Shelf.Strconv.ParseUint10At
import Derived.Shelf.Strconv.ParseInt10At64
import Derived.Shelf.Strconv.ParseInt10At32
import Derived.Shelf.Strconv.ParseInt10At16
import Derived.Shelf.Strconv.ParseInt10At8
import Derived.Shelf.Strconv.ParseInt10All
import Derived.Shelf.Strconv.ParseIntPublic10
import Derived.Shelf.Bits.Mul64
import Derived.Test.YtpmggjplfcjkkaaGreatDoorProg
namespace Go.Proofs

def Tryz.lays134_ren : Go.Shelf.Ren := ⟨fun | 134 => 241 | 129 => 142 | n => n, fun | 53 => 211 | 3 => 3 | 4 => 4 | 46 => 167 | 5 => 5 | 9 => 9 | n => n, fun | n => n⟩
theorem Tryz.lays134 : Go.Proofs.Lays.n134 Tryz.prog Tryz.lays134_ren := {
  mixed := by kernel_rfl
  f129 := Tryz.func142.trans (congrArg some (by kernel_rfl))
  f134 := Tryz.func241.trans (congrArg some (by kernel_rfl))
  t3 := Tryz.underlying3
  a3 := Tryz.isAgg3
  z3 := Tryz.sizeOf3
  v3 := Tryz.zeroValue3
  t4 := Tryz.underlying4
  a4 := Tryz.isAgg4
  z4 := Tryz.sizeOf4
  v4 := Tryz.zeroValue4
  t5 := Tryz.underlying5
  a5 := Tryz.isAgg5
  z5 := Tryz.sizeOf5
  v5 := Tryz.zeroValue5
  t9 := Tryz.underlying9
  a9 := Tryz.isAgg9
  z9 := Tryz.sizeOf9
  v9 := Tryz.zeroValue9
  t46 := Tryz.underlying167
  a46 := Tryz.isAgg167
  z46 := Tryz.sizeOf167
  v46 := Tryz.zeroValue167
  t53 := Tryz.underlying211
  a53 := Tryz.isAgg211
  z53 := Tryz.sizeOf211
  v53 := Tryz.zeroValue211 }
/-- bits.LeadingZeros64: "LeadingZeros64 returns the number of leading zero bits in x; the result is 64 for x == 0.": IT RETURNS '64 - Lib.bitLen x'; the world is as it was. ITS CALLEE bits.Len64 IS MET BY ITS OWN CONTRACT OFF THE SHELF (lay that first): entered in place it sends the kernel out of memory. (LAID: no walk: one application.) -/
theorem Tryz.bits_LeadingZeros64 (x : Int) (w : World) (h0 : 0 ≤ x) (h1 : x ≤ 18446744073709551615) :
    Calls Tryz.prog 241 #[.int .u64 x] w fun e w' => e = .returned (.int .i64 (64 - (Lib.bitLen x.toNat : Int))) ∧ w' = w := Any.bits_LeadingZeros64 Tryz.lays134 x w h0 h1
def Tryz.lays130_ren : Go.Shelf.Ren := ⟨fun | 130 => 180 | 125 => 214 | 128 => 234 | 129 => 142 | n => n, fun | 46 => 167 | 3 => 3 | 51 => 233 | 53 => 211 | 4 => 4 | 5 => 5 | 9 => 9 | n => n, fun | n => n⟩
theorem Tryz.lays130 : Go.Proofs.Lays.n130 Tryz.prog Tryz.lays130_ren := {
  mixed := by kernel_rfl
  f125 := Tryz.func214.trans (congrArg some (by kernel_rfl))
  f128 := Tryz.func234.trans (congrArg some (by kernel_rfl))
  f129 := Tryz.func142.trans (congrArg some (by kernel_rfl))
  f130 := Tryz.func180.trans (congrArg some (by kernel_rfl))
  t3 := Tryz.underlying3
  a3 := Tryz.isAgg3
  z3 := Tryz.sizeOf3
  v3 := Tryz.zeroValue3
  t4 := Tryz.underlying4
  a4 := Tryz.isAgg4
  z4 := Tryz.sizeOf4
  v4 := Tryz.zeroValue4
  t5 := Tryz.underlying5
  a5 := Tryz.isAgg5
  z5 := Tryz.sizeOf5
  v5 := Tryz.zeroValue5
  t9 := Tryz.underlying9
  a9 := Tryz.isAgg9
  z9 := Tryz.sizeOf9
  v9 := Tryz.zeroValue9
  t46 := Tryz.underlying167
  a46 := Tryz.isAgg167
  z46 := Tryz.sizeOf167
  v46 := Tryz.zeroValue167
  t51 := Tryz.underlying233
  a51 := Tryz.isAgg233
  z51 := Tryz.sizeOf233
  v51 := Tryz.zeroValue233
  t53 := Tryz.underlying211
  a53 := Tryz.isAgg211
  z53 := Tryz.sizeOf211
  v53 := Tryz.zeroValue211 }
/-- bits.LeadingZeros: "LeadingZeros returns the number of leading zero bits in x; the result is [UintSize] for x == 0.": IT RETURNS '64 - Lib.bitLen x'; the world is as it was. ITS CALLEE bits.Len IS MET BY ITS OWN CONTRACT OFF THE SHELF (lay that first): entered in place it sends the kernel out of memory. (LAID: no walk: one application.) -/
theorem Tryz.bits_LeadingZeros (x : Int) (w : World) (h0 : 0 ≤ x) (h1 : x ≤ 18446744073709551615) :
    Calls Tryz.prog 180 #[.int .u64 x] w fun e w' => e = .returned (.int .i64 (64 - (Lib.bitLen x.toNat : Int))) ∧ w' = w := Any.bits_LeadingZeros Tryz.lays130 x w h0 h1
def Tryz.laysM171_ren : Go.Shelf.Ren := ⟨fun | 171 => 21 | 243 => 37 | 246 => 53 | 283 => 89 | 284 => 90 | 285 => 91 | 286 => 92 | 129 => 142 | 317 => 141 | 318 => 143 | 319 => 144 | 320 => 145 | 337 => 190 | 338 => 191 | n => n, fun | 3 => 3 | 9 => 9 | 2 => 2 | 4 => 4 | 171 => 210 | 0 => 0 | 53 => 211 | 37 => 135 | 5 => 5 | 173 => 214 | 212 => 345 | 51 => 233 | 20 => 20 | 213 => 346 | 46 => 167 | 232 => 400 | 233 => 401 | n => n, fun | 17 => 4 | 18 => 9 | 19 => 10 | n => n⟩
theorem Tryz.laysM171 : Go.Proofs.LaysM.n171 Tryz.prog Tryz.laysM171_ren := {
  mixed := by kernel_rfl
  f129 := Tryz.func142.trans (congrArg some (by kernel_rfl))
  f171 := Tryz.func21.trans (congrArg some (by kernel_rfl))
  f243 := Tryz.func37.trans (congrArg some (by kernel_rfl))
  f246 := Tryz.func53.trans (congrArg some (by kernel_rfl))
  f283 := Tryz.func89.trans (congrArg some (by kernel_rfl))
  f284 := Tryz.func90.trans (congrArg some (by kernel_rfl))
  f285 := Tryz.func91.trans (congrArg some (by kernel_rfl))
  f286 := Tryz.func92.trans (congrArg some (by kernel_rfl))
  f317 := Tryz.func141.trans (congrArg some (by kernel_rfl))
  f318 := Tryz.func143.trans (congrArg some (by kernel_rfl))
  f319 := Tryz.func144.trans (congrArg some (by kernel_rfl))
  f320 := Tryz.func145.trans (congrArg some (by kernel_rfl))
  f337 := Tryz.func190.trans (congrArg some (by kernel_rfl))
  f338 := Tryz.func191.trans (congrArg some (by kernel_rfl))
  t0 := Tryz.underlying0
  a0 := Tryz.isAgg0
  z0 := Tryz.sizeOf0
  v0 := Tryz.zeroValue0
  t2 := Tryz.underlying2
  a2 := Tryz.isAgg2
  z2 := Tryz.sizeOf2
  v2 := Tryz.zeroValue2
  t3 := Tryz.underlying3
  a3 := Tryz.isAgg3
  z3 := Tryz.sizeOf3
  v3 := Tryz.zeroValue3
  t4 := Tryz.underlying4
  a4 := Tryz.isAgg4
  z4 := Tryz.sizeOf4
  v4 := Tryz.zeroValue4
  t5 := Tryz.underlying5
  a5 := Tryz.isAgg5
  z5 := Tryz.sizeOf5
  v5 := Tryz.zeroValue5
  t9 := Tryz.underlying9
  a9 := Tryz.isAgg9
  z9 := Tryz.sizeOf9
  v9 := Tryz.zeroValue9
  t20 := Tryz.underlying20
  a20 := Tryz.isAgg20
  z20 := Tryz.sizeOf20
  v20 := Tryz.zeroValue20
  t37 := Tryz.underlying135
  a37 := Tryz.isAgg135
  z37 := Tryz.sizeOf135
  v37 := Tryz.zeroValue135
  t46 := Tryz.underlying167
  a46 := Tryz.isAgg167
  z46 := Tryz.sizeOf167
  v46 := Tryz.zeroValue167
  t51 := Tryz.underlying233
  a51 := Tryz.isAgg233
  z51 := Tryz.sizeOf233
  v51 := Tryz.zeroValue233
  t53 := Tryz.underlying211
  a53 := Tryz.isAgg211
  z53 := Tryz.sizeOf211
  v53 := Tryz.zeroValue211
  t171 := Tryz.underlying210
  a171 := Tryz.isAgg210
  z171 := Tryz.sizeOf210
  v171 := Tryz.zeroValue210
  t173 := Tryz.underlying214
  a173 := Tryz.isAgg214
  z173 := Tryz.sizeOf214
  v173 := Tryz.zeroValue214
  t212 := Tryz.underlying345
  a212 := Tryz.isAgg345
  z212 := Tryz.sizeOf345
  v212 := Tryz.zeroValue345
  t213 := Tryz.underlying346
  a213 := Tryz.isAgg346
  z213 := Tryz.sizeOf346
  t232 := Tryz.underlying400
  a232 := Tryz.isAgg400
  z232 := Tryz.sizeOf400
  v232 := Tryz.zeroValue400
  t233 := Tryz.underlying401
  a233 := Tryz.isAgg401
  z233 := Tryz.sizeOf401
  v233 := Tryz.zeroValue401
  g17 := by kernel_rfl
  g18 := by kernel_rfl
  g19 := by kernel_rfl
  i0 := by kernel_rfl
  i2 := by kernel_rfl
  i3 := by kernel_rfl
  i4 := by kernel_rfl
  i5 := by kernel_rfl
  i9 := by kernel_rfl
  i20 := by kernel_rfl
  i37 := by kernel_rfl
  i46 := by kernel_rfl
  i51 := by kernel_rfl
  i53 := by kernel_rfl
  i171 := by kernel_rfl
  i173 := by kernel_rfl
  i212 := by kernel_rfl
  i232 := by kernel_rfl
  i233 := by kernel_rfl
  m17 := by kernel_rfl
  m18 := by kernel_rfl
  m19 := by kernel_rfl }
open Go.RowKit Go.Sort Go.Lib in
/-- strconv.Itoa: "Itoa is equivalent to FormatInt(int64(i), 10).": i's DECIMAL NUMERAL ('Lib.itoa': a '-' where i is negative, then the digits), FOR EVERY int. The world behind the call: the world before it, new blocks behind the heap (the library's 'var a [24]byte'), draws. (LAID: no walk: one application.) -/
theorem Tryz.strconv_Itoa (n : Int) (h0 : -9223372036854775808 ≤ n) (h1 : n ≤ 9223372036854775807) (w : World) (htab : Lib.TabIs Tryz.prog w "internal/strconv.uint64pow10" .u64 Lib.pow10Tab) :
    Calls Tryz.prog 21 #[.int .i64 n] w fun e w' => e = .returned (.string ⟨(Lib.itoa n).toArray⟩) ∧ ∃ k os, w' = grow (w.drewN k) os := Any.strconv_Itoa Tryz.laysM171 n h0 h1 w htab
def Tryz.laysC174_ren : Go.Shelf.Ren := ⟨fun | 174 => 115 | 247 => 171 | 245 => 172 | 287 => 205 | 279 => 206 | 280 => 207 | 281 => 208 | 282 => 209 | 321 => 225 | 322 => 226 | 316 => 227 | 171 => 21 | 205 => 228 | 243 => 37 | 246 => 53 | 283 => 89 | 284 => 90 | 285 => 91 | 286 => 92 | 129 => 142 | 317 => 141 | 318 => 143 | 319 => 144 | 320 => 145 | 337 => 190 | 338 => 191 | n => n, fun | 9 => 9 | 3 => 3 | 2 => 2 | 75 => 69 | 85 => 250 | 4 => 4 | 167 => 392 | 5 => 5 | 53 => 211 | 175 => 393 | 46 => 167 | 168 => 395 | 37 => 135 | 0 => 0 | 210 => 413 | 21 => 21 | 127 => 417 | 145 => 420 | 143 => 418 | 171 => 210 | 173 => 214 | 212 => 345 | 51 => 233 | 20 => 20 | 213 => 346 | 232 => 400 | 233 => 401 | 80 => 181 | n => n, fun | 15 => 11 | 16 => 12 | 17 => 4 | 18 => 9 | 19 => 10 | n => n⟩
theorem Tryz.laysC174 : Go.Proofs.LaysC.n174 Tryz.prog Tryz.laysC174_ren := {
  mixed := by kernel_rfl
  f129 := Tryz.func142.trans (congrArg some (by kernel_rfl))
  f171 := Tryz.func21.trans (congrArg some (by kernel_rfl))
  f174 := Tryz.func115.trans (congrArg some (by kernel_rfl))
  f205 := Tryz.func228.trans (congrArg some (by kernel_rfl))
  f243 := Tryz.func37.trans (congrArg some (by kernel_rfl))
  f245 := Tryz.func172.trans (congrArg some (by kernel_rfl))
  f246 := Tryz.func53.trans (congrArg some (by kernel_rfl))
  f247 := Tryz.func171.trans (congrArg some (by kernel_rfl))
  f279 := Tryz.func206.trans (congrArg some (by kernel_rfl))
  f280 := Tryz.func207.trans (congrArg some (by kernel_rfl))
  f281 := Tryz.func208.trans (congrArg some (by kernel_rfl))
  f282 := Tryz.func209.trans (congrArg some (by kernel_rfl))
  f283 := Tryz.func89.trans (congrArg some (by kernel_rfl))
  f284 := Tryz.func90.trans (congrArg some (by kernel_rfl))
  f285 := Tryz.func91.trans (congrArg some (by kernel_rfl))
  f286 := Tryz.func92.trans (congrArg some (by kernel_rfl))
  f287 := Tryz.func205.trans (congrArg some (by kernel_rfl))
  f316 := Tryz.func227.trans (congrArg some (by kernel_rfl))
  f317 := Tryz.func141.trans (congrArg some (by kernel_rfl))
  f318 := Tryz.func143.trans (congrArg some (by kernel_rfl))
  f319 := Tryz.func144.trans (congrArg some (by kernel_rfl))
  f320 := Tryz.func145.trans (congrArg some (by kernel_rfl))
  f321 := Tryz.func225.trans (congrArg some (by kernel_rfl))
  f322 := Tryz.func226.trans (congrArg some (by kernel_rfl))
  f337 := Tryz.func190.trans (congrArg some (by kernel_rfl))
  f338 := Tryz.func191.trans (congrArg some (by kernel_rfl))
  t0 := Tryz.underlying0
  a0 := Tryz.isAgg0
  z0 := Tryz.sizeOf0
  v0 := Tryz.zeroValue0
  t2 := Tryz.underlying2
  a2 := Tryz.isAgg2
  z2 := Tryz.sizeOf2
  v2 := Tryz.zeroValue2
  t3 := Tryz.underlying3
  a3 := Tryz.isAgg3
  z3 := Tryz.sizeOf3
  v3 := Tryz.zeroValue3
  t4 := Tryz.underlying4
  a4 := Tryz.isAgg4
  z4 := Tryz.sizeOf4
  v4 := Tryz.zeroValue4
  t5 := Tryz.underlying5
  a5 := Tryz.isAgg5
  z5 := Tryz.sizeOf5
  v5 := Tryz.zeroValue5
  t9 := Tryz.underlying9
  a9 := Tryz.isAgg9
  z9 := Tryz.sizeOf9
  v9 := Tryz.zeroValue9
  t20 := Tryz.underlying20
  a20 := Tryz.isAgg20
  z20 := Tryz.sizeOf20
  v20 := Tryz.zeroValue20
  t21 := Tryz.underlying21
  a21 := Tryz.isAgg21
  z21 := Tryz.sizeOf21
  v21 := Tryz.zeroValue21
  t37 := Tryz.underlying135
  a37 := Tryz.isAgg135
  z37 := Tryz.sizeOf135
  v37 := Tryz.zeroValue135
  t46 := Tryz.underlying167
  a46 := Tryz.isAgg167
  z46 := Tryz.sizeOf167
  v46 := Tryz.zeroValue167
  t51 := Tryz.underlying233
  a51 := Tryz.isAgg233
  z51 := Tryz.sizeOf233
  v51 := Tryz.zeroValue233
  t53 := Tryz.underlying211
  a53 := Tryz.isAgg211
  z53 := Tryz.sizeOf211
  v53 := Tryz.zeroValue211
  t75 := Tryz.underlying69
  a75 := Tryz.isAgg69
  z75 := Tryz.sizeOf69
  v75 := Tryz.zeroValue69
  t85 := Tryz.underlying250
  a85 := Tryz.isAgg250
  z85 := Tryz.sizeOf250
  v85 := Tryz.zeroValue250
  t127 := Tryz.underlying417
  a127 := Tryz.isAgg417
  z127 := Tryz.sizeOf417
  v127 := Tryz.zeroValue417
  t143 := Tryz.underlying418
  a143 := Tryz.isAgg418
  z143 := Tryz.sizeOf418
  v143 := Tryz.zeroValue418
  t145 := Tryz.underlying420
  a145 := Tryz.isAgg420
  z145 := Tryz.sizeOf420
  v145 := Tryz.zeroValue420
  t167 := Tryz.underlying392
  a167 := Tryz.isAgg392
  z167 := Tryz.sizeOf392
  v167 := Tryz.zeroValue392
  t168 := Tryz.underlying395
  a168 := Tryz.isAgg395
  z168 := Tryz.sizeOf395
  v168 := Tryz.zeroValue395
  t171 := Tryz.underlying210
  a171 := Tryz.isAgg210
  z171 := Tryz.sizeOf210
  v171 := Tryz.zeroValue210
  t173 := Tryz.underlying214
  a173 := Tryz.isAgg214
  z173 := Tryz.sizeOf214
  v173 := Tryz.zeroValue214
  t175 := Tryz.underlying393
  a175 := Tryz.isAgg393
  z175 := Tryz.sizeOf393
  v175 := Tryz.zeroValue393
  t210 := Tryz.underlying413
  a210 := Tryz.isAgg413
  z210 := Tryz.sizeOf413
  v210 := Tryz.zeroValue413
  t212 := Tryz.underlying345
  a212 := Tryz.isAgg345
  z212 := Tryz.sizeOf345
  v212 := Tryz.zeroValue345
  t213 := Tryz.underlying346
  a213 := Tryz.isAgg346
  z213 := Tryz.sizeOf346
  t232 := Tryz.underlying400
  a232 := Tryz.isAgg400
  z232 := Tryz.sizeOf400
  v232 := Tryz.zeroValue400
  t233 := Tryz.underlying401
  a233 := Tryz.isAgg401
  z233 := Tryz.sizeOf401
  v233 := Tryz.zeroValue401
  g15 := by kernel_rfl
  g16 := by kernel_rfl
  g17 := by kernel_rfl
  g18 := by kernel_rfl
  g19 := by kernel_rfl
  t80 := Tryz.underlying181
  a80 := Tryz.isAgg181
  z80 := Tryz.sizeOf181
  v80 := Tryz.zeroValue181
  i0 := by kernel_rfl
  i2 := by kernel_rfl
  i3 := by kernel_rfl
  i4 := by kernel_rfl
  i5 := by kernel_rfl
  i9 := by kernel_rfl
  i20 := by kernel_rfl
  i21 := by kernel_rfl
  i37 := by kernel_rfl
  i46 := by kernel_rfl
  i51 := by kernel_rfl
  i53 := by kernel_rfl
  i75 := by kernel_rfl
  i80 := by kernel_rfl
  i85 := by kernel_rfl
  i127 := by kernel_rfl
  i143 := by kernel_rfl
  i145 := by kernel_rfl
  i167 := by kernel_rfl
  i168 := by kernel_rfl
  i171 := by kernel_rfl
  i173 := by kernel_rfl
  i175 := by kernel_rfl
  i210 := by kernel_rfl
  i212 := by kernel_rfl
  i232 := by kernel_rfl
  i233 := by kernel_rfl
  m15 := by kernel_rfl
  m16 := by kernel_rfl
  m17 := by kernel_rfl
  m18 := by kernel_rfl
  m19 := by kernel_rfl
  c0 := by kernel_rfl
  c2 := by kernel_rfl
  c3 := by kernel_rfl
  c4 := by kernel_rfl
  c5 := by kernel_rfl
  c9 := by kernel_rfl
  c20 := by kernel_rfl
  c21 := by kernel_rfl
  c37 := by kernel_rfl
  c46 := by kernel_rfl
  c51 := by kernel_rfl
  c53 := by kernel_rfl
  c75 := by kernel_rfl
  c80 := by kernel_rfl
  c85 := by kernel_rfl
  c127 := by kernel_rfl
  c143 := by kernel_rfl
  c145 := by kernel_rfl
  c167 := by kernel_rfl
  c168 := by kernel_rfl
  c171 := by kernel_rfl
  c173 := by kernel_rfl
  c175 := by kernel_rfl
  c210 := by kernel_rfl
  c212 := by kernel_rfl
  c213 := by kernel_rfl
  c232 := by kernel_rfl
  c233 := by kernel_rfl }
open Go.RowKit in
/-- strconv.ParseInt(s, 10, 64), AT EVERY STRING THAT SPELLS AN int64 ('Lib.parseIntB 64 s.data.toList = .ok v'): v, AND NO ERROR. (LAID: no walk: one application.) -/
theorem Tryz.strconv_ParseInt_10_at64_ok (s : ByteArray) (hmax : s.size ≤ 9223372036854775806) (v : Int) (h : Lib.parseIntB 64 s.data.toList = .ok v) (w : World) :
    Calls Tryz.prog 115 #[.string s, .int .i64 10, .int .i64 64] w fun e w' => e = .returned (.tuple #[.int .i64 v, .nilIface]) ∧ (w' = w ∨ ∃ t, w' = Lib.bytesWorld w 5 t) := Any.strconv_ParseInt_10_at64_ok Tryz.laysC174 s hmax v h w
open Go.RowKit in
def Tryz.lays212_ren : Go.Shelf.Ren := ⟨fun | 212 => 215 | 263 => 235 | 264 => 236 | n => n, fun | 46 => 167 | 51 => 233 | 146 => 403 | 53 => 211 | 148 => 405 | n => n, fun | n => n⟩
theorem Tryz.lays212 : Go.Proofs.Lays.n212 Tryz.prog Tryz.lays212_ren := {
  mixed := by kernel_rfl
  f212 := Tryz.func215.trans (congrArg some (by kernel_rfl))
  f263 := Tryz.func235.trans (congrArg some (by kernel_rfl))
  f264 := Tryz.func236.trans (congrArg some (by kernel_rfl))
  t46 := Tryz.underlying167
  a46 := Tryz.isAgg167
  z46 := Tryz.sizeOf167
  v46 := Tryz.zeroValue167
  t51 := Tryz.underlying233
  a51 := Tryz.isAgg233
  z51 := Tryz.sizeOf233
  v51 := Tryz.zeroValue233
  t53 := Tryz.underlying211
  a53 := Tryz.isAgg211
  z53 := Tryz.sizeOf211
  v53 := Tryz.zeroValue211
  t146 := Tryz.underlying403
  a146 := Tryz.isAgg403
  z146 := Tryz.sizeOf403
  v146 := Tryz.zeroValue403
  t148 := Tryz.underlying405
  a148 := Tryz.isAgg405
  z148 := Tryz.sizeOf405
  v148 := Tryz.zeroValue405 }
open Go.RowKit Go.Lib in
/-- math/bits.Mul: "Mul returns the full-width product of x and y": on a machine of 64 bits: Mul64's. (LAID: no walk: one application.) -/
theorem Tryz.bits_Mul (x y : Nat) (hx : x < 18446744073709551616) (hy : y < 18446744073709551616) (w : World) :
    Calls Tryz.prog 215 #[.int .u64 x, .int .u64 y] w fun e w' => e = .returned (.tuple #[.int .u64 ((x * y / 18446744073709551616 : Nat) : Int), .int .u64 ((x * y % 18446744073709551616 : Nat) : Int)]) ∧ w' = w := Any.bits_Mul Tryz.lays212 x y hx hy w

end Go.Proofs
