/- strconv.Quote, NumError.Error, FormatInt: the library shelf laid at this program (written by the kit lay-plain tool). Contracts of strconv.toError, ParseUint: the library shelf laid at this program (written by the kit lay-plain tool). strconv.ParseFloat over bytes of numbers. The listed tables in a world that holds them: those of floats, of strconv's printing, and strconv's two errors. base64's error: its text. -/
import Derived.Shelf.Strconv.Quote
import Derived.Shelf.Strconv.NumErrorText
import Derived.Shelf.Strconv.Itoa4
import Derived.Test.YtaecbclonmhbcaaGreatDoorProg
import Derived.Shelf.Pu.ToErrorRange
import Derived.Shelf.Pu.ParseUintPublic10
import Derived.Test.YtaecbclonmhbcaaGreatDoorP19
import Derived.Test.YtaecbclonmhbcaaGreatDoorP23
import Derived.PinnedBridge
import Derived.Lib.LaidTab
import Derived.Stop.LaidErr
import Derived.Shelf.Unicode.PredsPay
import Derived.Lib.ItoaLen
import Derived.Lib.AppendIntMem
set_option linter.unusedVariables false
set_option linter.unusedSimpArgs false
namespace Go.Proofs.YtaecbclonmhbcaaGreatDoor
open Go.Shelf
def sh_lays177_ren : Go.Shelf.Ren := ⟨fun | 177 => 236 | 250 => 245 | 289 => 249 | 197 => 251 | 323 => 252 | 260 => 253 | 339 => 254 | 340 => 255 | 242 => 256 | 119 => 257 | 345 => 258 | 346 => 259 | 278 => 260 | n => n, fun | 9 => 9 | 5 => 5 | 4 => 4 | 3 => 3 | 37 => 22 | 21 => 21 | 105 => 265 | 46 => 105 | 119 => 151 | 0 => 0 | 139 => 271 | 138 => 270 | 49 => 100 | 234 => 272 | 131 => 44 | 51 => 102 | 236 => 274 | n => n, fun | 3 => 17 | 4 => 18 | 20 => 19 | 21 => 20 | 22 => 21 | 23 => 22 | 24 => 23 | n => n⟩
theorem sh_lays177 : Go.Proofs.Lays.n177 Tryz.prog sh_lays177_ren := {
  mixed := by kernel_rfl
  f119 := Tryz.func257.trans (congrArg some (by kernel_rfl))
  f177 := Tryz.func236.trans (congrArg some (by kernel_rfl))
  f197 := Tryz.func251.trans (congrArg some (by kernel_rfl))
  f242 := Tryz.func256.trans (congrArg some (by kernel_rfl))
  f250 := Tryz.func245.trans (congrArg some (by kernel_rfl))
  f260 := Tryz.func253.trans (congrArg some (by kernel_rfl))
  f278 := Tryz.func260.trans (congrArg some (by kernel_rfl))
  f289 := Tryz.func249.trans (congrArg some (by kernel_rfl))
  f323 := Tryz.func252.trans (congrArg some (by kernel_rfl))
  f339 := Tryz.func254.trans (congrArg some (by kernel_rfl))
  f340 := Tryz.func255.trans (congrArg some (by kernel_rfl))
  f345 := Tryz.func258.trans (congrArg some (by kernel_rfl))
  f346 := Tryz.func259.trans (congrArg some (by kernel_rfl))
  t0 := Tryz.underlying0
  a0 := Tryz.isAgg0
  z0 := Tryz.sizeOf0
  v0 := Tryz.zeroValue0
  t3 := Tryz.underlying3
  a3 := Tryz.isAgg3
  z3 := Tryz.sizeOf3
  v3 := Tryz.zeroValue3
  t4 := Tryz.underlying4
  a4 := Tryz.isAgg4
  z4 := Tryz.sizeOf4
  v4 := Tryz.zeroValue4
  t5 := Tryz.underlying5
  a5 := Tryz.isAgg5
  z5 := Tryz.sizeOf5
  v5 := Tryz.zeroValue5
  t9 := Tryz.underlying9
  a9 := Tryz.isAgg9
  z9 := Tryz.sizeOf9
  v9 := Tryz.zeroValue9
  t21 := Tryz.underlying21
  a21 := Tryz.isAgg21
  z21 := Tryz.sizeOf21
  v21 := Tryz.zeroValue21
  t37 := Tryz.underlying22
  a37 := Tryz.isAgg22
  z37 := Tryz.sizeOf22
  v37 := Tryz.zeroValue22
  t46 := Tryz.underlying105
  a46 := Tryz.isAgg105
  z46 := Tryz.sizeOf105
  v46 := Tryz.zeroValue105
  t49 := Tryz.underlying100
  a49 := Tryz.isAgg100
  z49 := Tryz.sizeOf100
  v49 := Tryz.zeroValue100
  t51 := Tryz.underlying102
  a51 := Tryz.isAgg102
  z51 := Tryz.sizeOf102
  v51 := Tryz.zeroValue102
  t105 := Tryz.underlying265
  a105 := Tryz.isAgg265
  z105 := Tryz.sizeOf265
  v105 := Tryz.zeroValue265
  t119 := Tryz.underlying151
  a119 := Tryz.isAgg151
  z119 := Tryz.sizeOf151
  t131 := Tryz.underlying44
  a131 := Tryz.isAgg44
  z131 := Tryz.sizeOf44
  v131 := Tryz.zeroValue44
  t138 := Tryz.underlying270
  a138 := Tryz.isAgg270
  z138 := Tryz.sizeOf270
  v138 := Tryz.zeroValue270
  t139 := Tryz.underlying271
  a139 := Tryz.isAgg271
  z139 := Tryz.sizeOf271
  v139 := Tryz.zeroValue271
  t234 := Tryz.underlying272
  a234 := Tryz.isAgg272
  z234 := Tryz.sizeOf272
  v234 := Tryz.zeroValue272
  t236 := Tryz.underlying274
  a236 := Tryz.isAgg274
  z236 := Tryz.sizeOf274
  v236 := Tryz.zeroValue274
  g3 := by kernel_rfl
  g4 := by kernel_rfl
  g20 := by kernel_rfl
  g21 := by kernel_rfl
  g22 := by kernel_rfl
  g23 := by kernel_rfl
  g24 := by kernel_rfl }
def sh_laysFn4_ren : Go.Shelf.Ren := ⟨fun | 4 => 279 | 5 => 236 | 6 => 245 | 7 => 249 | 8 => 251 | 9 => 252 | 10 => 253 | 11 => 254 | 12 => 255 | 13 => 256 | 14 => 257 | 15 => 258 | 16 => 259 | 17 => 260 | n => n, fun | 22 => 171 | 9 => 9 | 0 => 0 | 28 => 189 | 26 => 63 | 5 => 5 | 4 => 4 | 3 => 3 | 31 => 22 | 21 => 21 | 33 => 265 | 35 => 105 | 39 => 151 | 42 => 271 | 41 => 270 | 43 => 100 | 44 => 272 | 45 => 44 | 47 => 102 | 48 => 274 | 23 => 95 | n => n, fun | 0 => 17 | 1 => 18 | 2 => 19 | 3 => 20 | 4 => 21 | 5 => 22 | 6 => 23 | n => n⟩
theorem sh_laysFn4 : Go.Proofs.LaysFn.n4 Tryz.prog sh_laysFn4_ren := {
  mixed := by kernel_rfl
  f4 := Tryz.func279.trans (congrArg some (by kernel_rfl))
  f5 := Tryz.func236.trans (congrArg some (by kernel_rfl))
  f6 := Tryz.func245.trans (congrArg some (by kernel_rfl))
  f7 := Tryz.func249.trans (congrArg some (by kernel_rfl))
  f8 := Tryz.func251.trans (congrArg some (by kernel_rfl))
  f9 := Tryz.func252.trans (congrArg some (by kernel_rfl))
  f10 := Tryz.func253.trans (congrArg some (by kernel_rfl))
  f11 := Tryz.func254.trans (congrArg some (by kernel_rfl))
  f12 := Tryz.func255.trans (congrArg some (by kernel_rfl))
  f13 := Tryz.func256.trans (congrArg some (by kernel_rfl))
  f14 := Tryz.func257.trans (congrArg some (by kernel_rfl))
  f15 := Tryz.func258.trans (congrArg some (by kernel_rfl))
  f16 := Tryz.func259.trans (congrArg some (by kernel_rfl))
  f17 := Tryz.func260.trans (congrArg some (by kernel_rfl))
  t0 := Tryz.underlying0
  a0 := Tryz.isAgg0
  z0 := Tryz.sizeOf0
  v0 := Tryz.zeroValue0
  i0 := by kernel_rfl
  t3 := Tryz.underlying3
  a3 := Tryz.isAgg3
  z3 := Tryz.sizeOf3
  v3 := Tryz.zeroValue3
  i3 := by kernel_rfl
  t4 := Tryz.underlying4
  a4 := Tryz.isAgg4
  z4 := Tryz.sizeOf4
  v4 := Tryz.zeroValue4
  i4 := by kernel_rfl
  t5 := Tryz.underlying5
  a5 := Tryz.isAgg5
  z5 := Tryz.sizeOf5
  v5 := Tryz.zeroValue5
  i5 := by kernel_rfl
  t9 := Tryz.underlying9
  a9 := Tryz.isAgg9
  z9 := Tryz.sizeOf9
  v9 := Tryz.zeroValue9
  i9 := by kernel_rfl
  t21 := Tryz.underlying21
  a21 := Tryz.isAgg21
  z21 := Tryz.sizeOf21
  v21 := Tryz.zeroValue21
  i21 := by kernel_rfl
  t22 := Tryz.underlying171
  a22 := Tryz.isAgg171
  z22 := Tryz.sizeOf171
  v22 := Tryz.zeroValue171
  i22 := by kernel_rfl
  t23 := Tryz.underlying95
  a23 := Tryz.isAgg95
  z23 := Tryz.sizeOf95
  v23 := Tryz.zeroValue95
  i23 := by kernel_rfl
  t26 := Tryz.underlying63
  a26 := Tryz.isAgg63
  z26 := Tryz.sizeOf63
  v26 := Tryz.zeroValue63
  i26 := by kernel_rfl
  t28 := Tryz.underlying189
  a28 := Tryz.isAgg189
  z28 := Tryz.sizeOf189
  v28 := Tryz.zeroValue189
  i28 := by kernel_rfl
  t31 := Tryz.underlying22
  a31 := Tryz.isAgg22
  z31 := Tryz.sizeOf22
  v31 := Tryz.zeroValue22
  i31 := by kernel_rfl
  t33 := Tryz.underlying265
  a33 := Tryz.isAgg265
  z33 := Tryz.sizeOf265
  v33 := Tryz.zeroValue265
  i33 := by kernel_rfl
  t35 := Tryz.underlying105
  a35 := Tryz.isAgg105
  z35 := Tryz.sizeOf105
  v35 := Tryz.zeroValue105
  i35 := by kernel_rfl
  t39 := Tryz.underlying151
  a39 := Tryz.isAgg151
  z39 := Tryz.sizeOf151
  t41 := Tryz.underlying270
  a41 := Tryz.isAgg270
  z41 := Tryz.sizeOf270
  v41 := Tryz.zeroValue270
  i41 := by kernel_rfl
  t42 := Tryz.underlying271
  a42 := Tryz.isAgg271
  z42 := Tryz.sizeOf271
  v42 := Tryz.zeroValue271
  i42 := by kernel_rfl
  t43 := Tryz.underlying100
  a43 := Tryz.isAgg100
  z43 := Tryz.sizeOf100
  v43 := Tryz.zeroValue100
  i43 := by kernel_rfl
  t44 := Tryz.underlying272
  a44 := Tryz.isAgg272
  z44 := Tryz.sizeOf272
  v44 := Tryz.zeroValue272
  i44 := by kernel_rfl
  t45 := Tryz.underlying44
  a45 := Tryz.isAgg44
  z45 := Tryz.sizeOf44
  v45 := Tryz.zeroValue44
  i45 := by kernel_rfl
  t47 := Tryz.underlying102
  a47 := Tryz.isAgg102
  z47 := Tryz.sizeOf102
  v47 := Tryz.zeroValue102
  i47 := by kernel_rfl
  t48 := Tryz.underlying274
  a48 := Tryz.isAgg274
  z48 := Tryz.sizeOf274
  v48 := Tryz.zeroValue274
  i48 := by kernel_rfl
  g0 := by kernel_rfl
  m0 := by kernel_rfl
  g1 := by kernel_rfl
  m1 := by kernel_rfl
  g2 := by kernel_rfl
  m2 := by kernel_rfl
  g3 := by kernel_rfl
  m3 := by kernel_rfl
  g4 := by kernel_rfl
  m4 := by kernel_rfl
  g5 := by kernel_rfl
  m5 := by kernel_rfl
  g6 := by kernel_rfl
  m6 := by kernel_rfl }
def sh_laysM173_ren : Go.Shelf.Ren := ⟨fun | 173 => 281 | 246 => 209 | 283 => 224 | 284 => 225 | 285 => 226 | 286 => 227 | 129 => 198 | 317 => 239 | 318 => 202 | 319 => 240 | 320 => 241 | 337 => 246 | 338 => 247 | n => n, fun | 2 => 2 | 3 => 3 | 9 => 9 | 4 => 4 | 171 => 249 | 0 => 0 | 53 => 49 | 37 => 22 | 5 => 5 | 173 => 250 | 212 => 257 | 51 => 102 | 20 => 20 | 213 => 258 | 46 => 105 | 232 => 264 | 233 => 150 | n => n, fun | 17 => 14 | 18 => 15 | 19 => 16 | n => n⟩
theorem sh_laysM173 : Go.Proofs.LaysM.n173 Tryz.prog sh_laysM173_ren := {
  mixed := by kernel_rfl
  f129 := Tryz.func198.trans (congrArg some (by kernel_rfl))
  f173 := Tryz.func281.trans (congrArg some (by kernel_rfl))
  f246 := Tryz.func209.trans (congrArg some (by kernel_rfl))
  f283 := Tryz.func224.trans (congrArg some (by kernel_rfl))
  f284 := Tryz.func225.trans (congrArg some (by kernel_rfl))
  f285 := Tryz.func226.trans (congrArg some (by kernel_rfl))
  f286 := Tryz.func227.trans (congrArg some (by kernel_rfl))
  f317 := Tryz.func239.trans (congrArg some (by kernel_rfl))
  f318 := Tryz.func202.trans (congrArg some (by kernel_rfl))
  f319 := Tryz.func240.trans (congrArg some (by kernel_rfl))
  f320 := Tryz.func241.trans (congrArg some (by kernel_rfl))
  f337 := Tryz.func246.trans (congrArg some (by kernel_rfl))
  f338 := Tryz.func247.trans (congrArg some (by kernel_rfl))
  t0 := Tryz.underlying0
  a0 := Tryz.isAgg0
  z0 := Tryz.sizeOf0
  v0 := Tryz.zeroValue0
  t2 := Tryz.underlying2
  a2 := Tryz.isAgg2
  z2 := Tryz.sizeOf2
  v2 := Tryz.zeroValue2
  t3 := Tryz.underlying3
  a3 := Tryz.isAgg3
  z3 := Tryz.sizeOf3
  v3 := Tryz.zeroValue3
  t4 := Tryz.underlying4
  a4 := Tryz.isAgg4
  z4 := Tryz.sizeOf4
  v4 := Tryz.zeroValue4
  t5 := Tryz.underlying5
  a5 := Tryz.isAgg5
  z5 := Tryz.sizeOf5
  v5 := Tryz.zeroValue5
  t9 := Tryz.underlying9
  a9 := Tryz.isAgg9
  z9 := Tryz.sizeOf9
  v9 := Tryz.zeroValue9
  t20 := Tryz.underlying20
  a20 := Tryz.isAgg20
  z20 := Tryz.sizeOf20
  v20 := Tryz.zeroValue20
  t37 := Tryz.underlying22
  a37 := Tryz.isAgg22
  z37 := Tryz.sizeOf22
  v37 := Tryz.zeroValue22
  t46 := Tryz.underlying105
  a46 := Tryz.isAgg105
  z46 := Tryz.sizeOf105
  v46 := Tryz.zeroValue105
  t51 := Tryz.underlying102
  a51 := Tryz.isAgg102
  z51 := Tryz.sizeOf102
  v51 := Tryz.zeroValue102
  t53 := Tryz.underlying49
  a53 := Tryz.isAgg49
  z53 := Tryz.sizeOf49
  v53 := Tryz.zeroValue49
  t171 := Tryz.underlying249
  a171 := Tryz.isAgg249
  z171 := Tryz.sizeOf249
  v171 := Tryz.zeroValue249
  t173 := Tryz.underlying250
  a173 := Tryz.isAgg250
  z173 := Tryz.sizeOf250
  v173 := Tryz.zeroValue250
  t212 := Tryz.underlying257
  a212 := Tryz.isAgg257
  z212 := Tryz.sizeOf257
  v212 := Tryz.zeroValue257
  t213 := Tryz.underlying258
  a213 := Tryz.isAgg258
  z213 := Tryz.sizeOf258
  t232 := Tryz.underlying264
  a232 := Tryz.isAgg264
  z232 := Tryz.sizeOf264
  v232 := Tryz.zeroValue264
  t233 := Tryz.underlying150
  a233 := Tryz.isAgg150
  z233 := Tryz.sizeOf150
  v233 := Tryz.zeroValue150
  g17 := by kernel_rfl
  g18 := by kernel_rfl
  g19 := by kernel_rfl
  i0 := by kernel_rfl
  i2 := by kernel_rfl
  i3 := by kernel_rfl
  i4 := by kernel_rfl
  i5 := by kernel_rfl
  i9 := by kernel_rfl
  i20 := by kernel_rfl
  i37 := by kernel_rfl
  i46 := by kernel_rfl
  i51 := by kernel_rfl
  i53 := by kernel_rfl
  i171 := by kernel_rfl
  i173 := by kernel_rfl
  i212 := by kernel_rfl
  i232 := by kernel_rfl
  i233 := by kernel_rfl
  m17 := by kernel_rfl
  m18 := by kernel_rfl
  m19 := by kernel_rfl }
end Go.Proofs.YtaecbclonmhbcaaGreatDoor

namespace Go.Proofs.YtaecbclonmhbcaaGreatDoor
open Go.Shelf
def sh_laysPu17_ren : Go.Shelf.Ren := ⟨fun | 17 => 131 | 21 => 150 | 22 => 151 | 23 => 152 | 24 => 153 | 25 => 166 | 27 => 167 | 26 => 155 | 28 => 182 | 29 => 209 | 30 => 224 | 31 => 225 | 32 => 226 | 33 => 227 | 35 => 198 | 34 => 239 | 36 => 202 | 37 => 240 | 38 => 241 | 39 => 246 | 40 => 247 | n => n, fun | 9 => 9 | 3 => 3 | 24 => 63 | 34 => 170 | 4 => 4 | 39 => 171 | 44 => 189 | 37 => 22 | 0 => 0 | 47 => 220 | 50 => 193 | 48 => 191 | 2 => 2 | 52 => 249 | 22 => 49 | 5 => 5 | 55 => 250 | 59 => 257 | 60 => 102 | 20 => 20 | 61 => 258 | 36 => 105 | 65 => 264 | 66 => 150 | 67 => 95 | n => n, fun | 0 => 3 | 1 => 4 | 2 => 14 | 3 => 15 | 4 => 16 | n => n⟩
theorem sh_laysPu17 : Go.Proofs.LaysPu.n17 Tryz.prog sh_laysPu17_ren := {
  mixed := by kernel_rfl
  f17 := Tryz.func131.trans (congrArg some (by kernel_rfl))
  f21 := Tryz.func150.trans (congrArg some (by kernel_rfl))
  f22 := Tryz.func151.trans (congrArg some (by kernel_rfl))
  f23 := Tryz.func152.trans (congrArg some (by kernel_rfl))
  f24 := Tryz.func153.trans (congrArg some (by kernel_rfl))
  f25 := Tryz.func166.trans (congrArg some (by kernel_rfl))
  f26 := Tryz.func155.trans (congrArg some (by kernel_rfl))
  f27 := Tryz.func167.trans (congrArg some (by kernel_rfl))
  f28 := Tryz.func182.trans (congrArg some (by kernel_rfl))
  f29 := Tryz.func209.trans (congrArg some (by kernel_rfl))
  f30 := Tryz.func224.trans (congrArg some (by kernel_rfl))
  f31 := Tryz.func225.trans (congrArg some (by kernel_rfl))
  f32 := Tryz.func226.trans (congrArg some (by kernel_rfl))
  f33 := Tryz.func227.trans (congrArg some (by kernel_rfl))
  f34 := Tryz.func239.trans (congrArg some (by kernel_rfl))
  f35 := Tryz.func198.trans (congrArg some (by kernel_rfl))
  f36 := Tryz.func202.trans (congrArg some (by kernel_rfl))
  f37 := Tryz.func240.trans (congrArg some (by kernel_rfl))
  f38 := Tryz.func241.trans (congrArg some (by kernel_rfl))
  f39 := Tryz.func246.trans (congrArg some (by kernel_rfl))
  f40 := Tryz.func247.trans (congrArg some (by kernel_rfl))
  t0 := Tryz.underlying0
  a0 := Tryz.isAgg0
  z0 := Tryz.sizeOf0
  v0 := Tryz.zeroValue0
  i0 := by kernel_rfl
  t2 := Tryz.underlying2
  a2 := Tryz.isAgg2
  z2 := Tryz.sizeOf2
  v2 := Tryz.zeroValue2
  i2 := by kernel_rfl
  t3 := Tryz.underlying3
  a3 := Tryz.isAgg3
  z3 := Tryz.sizeOf3
  v3 := Tryz.zeroValue3
  i3 := by kernel_rfl
  t4 := Tryz.underlying4
  a4 := Tryz.isAgg4
  z4 := Tryz.sizeOf4
  v4 := Tryz.zeroValue4
  i4 := by kernel_rfl
  t5 := Tryz.underlying5
  a5 := Tryz.isAgg5
  z5 := Tryz.sizeOf5
  v5 := Tryz.zeroValue5
  i5 := by kernel_rfl
  t9 := Tryz.underlying9
  a9 := Tryz.isAgg9
  z9 := Tryz.sizeOf9
  v9 := Tryz.zeroValue9
  i9 := by kernel_rfl
  t20 := Tryz.underlying20
  a20 := Tryz.isAgg20
  z20 := Tryz.sizeOf20
  v20 := Tryz.zeroValue20
  i20 := by kernel_rfl
  t22 := Tryz.underlying49
  a22 := Tryz.isAgg49
  z22 := Tryz.sizeOf49
  v22 := Tryz.zeroValue49
  i22 := by kernel_rfl
  t24 := Tryz.underlying63
  a24 := Tryz.isAgg63
  z24 := Tryz.sizeOf63
  v24 := Tryz.zeroValue63
  i24 := by kernel_rfl
  t34 := Tryz.underlying170
  a34 := Tryz.isAgg170
  z34 := Tryz.sizeOf170
  v34 := Tryz.zeroValue170
  i34 := by kernel_rfl
  c34 := by kernel_rfl
  t36 := Tryz.underlying105
  a36 := Tryz.isAgg105
  z36 := Tryz.sizeOf105
  v36 := Tryz.zeroValue105
  i36 := by kernel_rfl
  t37 := Tryz.underlying22
  a37 := Tryz.isAgg22
  z37 := Tryz.sizeOf22
  v37 := Tryz.zeroValue22
  i37 := by kernel_rfl
  t39 := Tryz.underlying171
  a39 := Tryz.isAgg171
  z39 := Tryz.sizeOf171
  v39 := Tryz.zeroValue171
  i39 := by kernel_rfl
  t44 := Tryz.underlying189
  a44 := Tryz.isAgg189
  z44 := Tryz.sizeOf189
  v44 := Tryz.zeroValue189
  i44 := by kernel_rfl
  t47 := Tryz.underlying220
  a47 := Tryz.isAgg220
  z47 := Tryz.sizeOf220
  v47 := Tryz.zeroValue220
  i47 := by kernel_rfl
  t48 := Tryz.underlying191
  a48 := Tryz.isAgg191
  z48 := Tryz.sizeOf191
  v48 := Tryz.zeroValue191
  i48 := by kernel_rfl
  t50 := Tryz.underlying193
  a50 := Tryz.isAgg193
  z50 := Tryz.sizeOf193
  v50 := Tryz.zeroValue193
  i50 := by kernel_rfl
  t52 := Tryz.underlying249
  a52 := Tryz.isAgg249
  z52 := Tryz.sizeOf249
  v52 := Tryz.zeroValue249
  i52 := by kernel_rfl
  t55 := Tryz.underlying250
  a55 := Tryz.isAgg250
  z55 := Tryz.sizeOf250
  v55 := Tryz.zeroValue250
  i55 := by kernel_rfl
  t59 := Tryz.underlying257
  a59 := Tryz.isAgg257
  z59 := Tryz.sizeOf257
  v59 := Tryz.zeroValue257
  i59 := by kernel_rfl
  t60 := Tryz.underlying102
  a60 := Tryz.isAgg102
  z60 := Tryz.sizeOf102
  v60 := Tryz.zeroValue102
  i60 := by kernel_rfl
  t61 := Tryz.underlying258
  a61 := Tryz.isAgg258
  z61 := Tryz.sizeOf258
  t65 := Tryz.underlying264
  a65 := Tryz.isAgg264
  z65 := Tryz.sizeOf264
  v65 := Tryz.zeroValue264
  i65 := by kernel_rfl
  t66 := Tryz.underlying150
  a66 := Tryz.isAgg150
  z66 := Tryz.sizeOf150
  v66 := Tryz.zeroValue150
  i66 := by kernel_rfl
  t67 := Tryz.underlying95
  a67 := Tryz.isAgg95
  z67 := Tryz.sizeOf95
  v67 := Tryz.zeroValue95
  i67 := by kernel_rfl
  g0 := by kernel_rfl
  m0 := by kernel_rfl
  g1 := by kernel_rfl
  m1 := by kernel_rfl
  g2 := by kernel_rfl
  m2 := by kernel_rfl
  g3 := by kernel_rfl
  m3 := by kernel_rfl
  g4 := by kernel_rfl
  m4 := by kernel_rfl }
open Go.RowKit in
theorem sh_toError_syntax (fn s : ByteArray) (base bits : Int) (ev : Value) (w : World) (hlim : s.size ≤ 281474976710656) (hv : w.cell? ⟨3, 0, none⟩ = some ev) (hev : ev = .nilIface ∨ ∃ te pe, ev = .iface te pe) :
    Calls Tryz.prog 131 #[.string fn, .string s, .int .i64 base, .int .i64 bits, .iface 170 (.int .i64 2)] w fun e w' => ∃ N, e = .returned (.iface 171 (.pointer (some ⟨N, 0, none⟩))) ∧ w.heap.size ≤ N ∧ w'.heap[N]? = some (.cells #[.string fn, .string s, ev] 189 (0, 0)) ∧ Below w.heap.size w w' := AnyPu.strconv_toError_syntax sh_laysPu17 fn s base bits ev w hlim hv hev
open Go.RowKit in
theorem sh_toError_range (fn s : ByteArray) (base bits : Int) (ev : Value) (w : World) (hlim : s.size ≤ 281474976710656) (hv : w.cell? ⟨4, 0, none⟩ = some ev) (hev : ev = .nilIface ∨ ∃ te pe, ev = .iface te pe) :
    Calls Tryz.prog 131 #[.string fn, .string s, .int .i64 base, .int .i64 bits, .iface 170 (.int .i64 1)] w fun e w' => ∃ N, e = .returned (.iface 171 (.pointer (some ⟨N, 0, none⟩))) ∧ w.heap.size ≤ N ∧ w'.heap[N]? = some (.cells #[.string fn, .string s, ev] 189 (0, 0)) ∧ Below w.heap.size w w' := AnyPu.strconv_toError_range sh_laysPu17 fn s base bits ev w hlim hv hev
def sh_laysPu14_ren : Go.Shelf.Ren := ⟨fun | 14 => 115 | 16 => 142 | 17 => 131 | 19 => 160 | 20 => 161 | 21 => 150 | 22 => 151 | 23 => 152 | 24 => 153 | 25 => 166 | 27 => 167 | 26 => 155 | 28 => 182 | 29 => 209 | 30 => 224 | 31 => 225 | 32 => 226 | 33 => 227 | 35 => 198 | 34 => 239 | 36 => 202 | 37 => 240 | 38 => 241 | 39 => 246 | 40 => 247 | n => n, fun | 9 => 9 | 3 => 3 | 22 => 49 | 24 => 63 | 25 => 134 | 4 => 4 | 34 => 170 | 5 => 5 | 36 => 105 | 37 => 22 | 0 => 0 | 39 => 171 | 21 => 21 | 44 => 189 | 47 => 220 | 50 => 193 | 48 => 191 | 2 => 2 | 52 => 249 | 55 => 250 | 59 => 257 | 60 => 102 | 20 => 20 | 61 => 258 | 65 => 264 | 66 => 150 | 67 => 95 | n => n, fun | 0 => 3 | 1 => 4 | 2 => 14 | 3 => 15 | 4 => 16 | n => n⟩
theorem sh_laysPu14 : Go.Proofs.LaysPu.n14 Tryz.prog sh_laysPu14_ren := {
  mixed := by kernel_rfl
  f14 := Tryz.func115.trans (congrArg some (by kernel_rfl))
  f16 := Tryz.func142.trans (congrArg some (by kernel_rfl))
  f17 := Tryz.func131.trans (congrArg some (by kernel_rfl))
  f19 := Tryz.func160.trans (congrArg some (by kernel_rfl))
  f20 := Tryz.func161.trans (congrArg some (by kernel_rfl))
  f21 := Tryz.func150.trans (congrArg some (by kernel_rfl))
  f22 := Tryz.func151.trans (congrArg some (by kernel_rfl))
  f23 := Tryz.func152.trans (congrArg some (by kernel_rfl))
  f24 := Tryz.func153.trans (congrArg some (by kernel_rfl))
  f25 := Tryz.func166.trans (congrArg some (by kernel_rfl))
  f26 := Tryz.func155.trans (congrArg some (by kernel_rfl))
  f27 := Tryz.func167.trans (congrArg some (by kernel_rfl))
  f28 := Tryz.func182.trans (congrArg some (by kernel_rfl))
  f29 := Tryz.func209.trans (congrArg some (by kernel_rfl))
  f30 := Tryz.func224.trans (congrArg some (by kernel_rfl))
  f31 := Tryz.func225.trans (congrArg some (by kernel_rfl))
  f32 := Tryz.func226.trans (congrArg some (by kernel_rfl))
  f33 := Tryz.func227.trans (congrArg some (by kernel_rfl))
  f34 := Tryz.func239.trans (congrArg some (by kernel_rfl))
  f35 := Tryz.func198.trans (congrArg some (by kernel_rfl))
  f36 := Tryz.func202.trans (congrArg some (by kernel_rfl))
  f37 := Tryz.func240.trans (congrArg some (by kernel_rfl))
  f38 := Tryz.func241.trans (congrArg some (by kernel_rfl))
  f39 := Tryz.func246.trans (congrArg some (by kernel_rfl))
  f40 := Tryz.func247.trans (congrArg some (by kernel_rfl))
  t0 := Tryz.underlying0
  a0 := Tryz.isAgg0
  z0 := Tryz.sizeOf0
  v0 := Tryz.zeroValue0
  i0 := by kernel_rfl
  t2 := Tryz.underlying2
  a2 := Tryz.isAgg2
  z2 := Tryz.sizeOf2
  v2 := Tryz.zeroValue2
  i2 := by kernel_rfl
  t3 := Tryz.underlying3
  a3 := Tryz.isAgg3
  z3 := Tryz.sizeOf3
  v3 := Tryz.zeroValue3
  i3 := by kernel_rfl
  t4 := Tryz.underlying4
  a4 := Tryz.isAgg4
  z4 := Tryz.sizeOf4
  v4 := Tryz.zeroValue4
  i4 := by kernel_rfl
  t5 := Tryz.underlying5
  a5 := Tryz.isAgg5
  z5 := Tryz.sizeOf5
  v5 := Tryz.zeroValue5
  i5 := by kernel_rfl
  t9 := Tryz.underlying9
  a9 := Tryz.isAgg9
  z9 := Tryz.sizeOf9
  v9 := Tryz.zeroValue9
  i9 := by kernel_rfl
  t20 := Tryz.underlying20
  a20 := Tryz.isAgg20
  z20 := Tryz.sizeOf20
  v20 := Tryz.zeroValue20
  i20 := by kernel_rfl
  t21 := Tryz.underlying21
  a21 := Tryz.isAgg21
  z21 := Tryz.sizeOf21
  v21 := Tryz.zeroValue21
  i21 := by kernel_rfl
  t22 := Tryz.underlying49
  a22 := Tryz.isAgg49
  z22 := Tryz.sizeOf49
  v22 := Tryz.zeroValue49
  i22 := by kernel_rfl
  t24 := Tryz.underlying63
  a24 := Tryz.isAgg63
  z24 := Tryz.sizeOf63
  v24 := Tryz.zeroValue63
  i24 := by kernel_rfl
  t25 := Tryz.underlying134
  a25 := Tryz.isAgg134
  z25 := Tryz.sizeOf134
  v25 := Tryz.zeroValue134
  i25 := by kernel_rfl
  t34 := Tryz.underlying170
  a34 := Tryz.isAgg170
  z34 := Tryz.sizeOf170
  v34 := Tryz.zeroValue170
  i34 := by kernel_rfl
  c34 := by kernel_rfl
  t36 := Tryz.underlying105
  a36 := Tryz.isAgg105
  z36 := Tryz.sizeOf105
  v36 := Tryz.zeroValue105
  i36 := by kernel_rfl
  t37 := Tryz.underlying22
  a37 := Tryz.isAgg22
  z37 := Tryz.sizeOf22
  v37 := Tryz.zeroValue22
  i37 := by kernel_rfl
  t39 := Tryz.underlying171
  a39 := Tryz.isAgg171
  z39 := Tryz.sizeOf171
  v39 := Tryz.zeroValue171
  i39 := by kernel_rfl
  t44 := Tryz.underlying189
  a44 := Tryz.isAgg189
  z44 := Tryz.sizeOf189
  v44 := Tryz.zeroValue189
  i44 := by kernel_rfl
  t47 := Tryz.underlying220
  a47 := Tryz.isAgg220
  z47 := Tryz.sizeOf220
  v47 := Tryz.zeroValue220
  i47 := by kernel_rfl
  t48 := Tryz.underlying191
  a48 := Tryz.isAgg191
  z48 := Tryz.sizeOf191
  v48 := Tryz.zeroValue191
  i48 := by kernel_rfl
  t50 := Tryz.underlying193
  a50 := Tryz.isAgg193
  z50 := Tryz.sizeOf193
  v50 := Tryz.zeroValue193
  i50 := by kernel_rfl
  t52 := Tryz.underlying249
  a52 := Tryz.isAgg249
  z52 := Tryz.sizeOf249
  v52 := Tryz.zeroValue249
  i52 := by kernel_rfl
  t55 := Tryz.underlying250
  a55 := Tryz.isAgg250
  z55 := Tryz.sizeOf250
  v55 := Tryz.zeroValue250
  i55 := by kernel_rfl
  t59 := Tryz.underlying257
  a59 := Tryz.isAgg257
  z59 := Tryz.sizeOf257
  v59 := Tryz.zeroValue257
  i59 := by kernel_rfl
  t60 := Tryz.underlying102
  a60 := Tryz.isAgg102
  z60 := Tryz.sizeOf102
  v60 := Tryz.zeroValue102
  i60 := by kernel_rfl
  t61 := Tryz.underlying258
  a61 := Tryz.isAgg258
  z61 := Tryz.sizeOf258
  t65 := Tryz.underlying264
  a65 := Tryz.isAgg264
  z65 := Tryz.sizeOf264
  v65 := Tryz.zeroValue264
  i65 := by kernel_rfl
  t66 := Tryz.underlying150
  a66 := Tryz.isAgg150
  z66 := Tryz.sizeOf150
  v66 := Tryz.zeroValue150
  i66 := by kernel_rfl
  t67 := Tryz.underlying95
  a67 := Tryz.isAgg95
  z67 := Tryz.sizeOf95
  v67 := Tryz.zeroValue95
  i67 := by kernel_rfl
  g0 := by kernel_rfl
  m0 := by kernel_rfl
  g1 := by kernel_rfl
  m1 := by kernel_rfl
  g2 := by kernel_rfl
  m2 := by kernel_rfl
  g3 := by kernel_rfl
  m3 := by kernel_rfl
  g4 := by kernel_rfl
  m4 := by kernel_rfl }
end Go.Proofs.YtaecbclonmhbcaaGreatDoor

namespace Go.Proofs.YtaecbclonmhbcaaGreatDoor
open Go.RowKit
def NErr (s : ByteArray) (w w' : World) (er : Value) : Prop :=
  er = .nilIface ∨ ∃ (N g : Nat) (fn : ByteArray) (ev : Value), er = .iface 171 (.pointer (some ⟨N, 0, none⟩)) ∧ w.heap.size ≤ N ∧ w'.heap[N]? = some (.cells #[.string fn, .string s, ev] 189 (0, 0)) ∧ fn.size ≤ 1000 ∧ (g = 3 ∨ g = 4) ∧ w'.cell? ⟨g, 0, none⟩ = some ev
def PfoV (s : ByteArray) (w : World) (e : Ending) (w' : World) : Prop := ∃ (x : Nat) (er : Value), e = .returned (.tuple #[.float .f64 x, er]) ∧ NErr s w w' er ∧ Kept w.heap.size w w'
theorem Kept.of_below {B : Nat} {u v : World} (h : Below B u v) (hB : B = u.heap.size) : Kept B u v := by
  subst hB
  exact ⟨h.os, h.tape, h.output, h.size, fun k hk _ => h.block k hk⟩
theorem toErr_any (fn s : ByteArray) (base bits : Int) (er : Value) (w : World) (hs : s.size ≤ 100000) (h3 : ∃ te pe, w.cell? ⟨3, 0, none⟩ = some (.iface te pe)) (h4 : ∃ te pe, w.cell? ⟨4, 0, none⟩ = some (.iface te pe))
    (he : er = .iface 170 (.int .i64 1) ∨ er = .iface 170 (.int .i64 2)) :
    Calls Tryz.prog 131 #[.string fn, .string s, .int .i64 base, .int .i64 bits, er] w fun e w' => ∃ (N g : Nat) (ev : Value), e = .returned (.iface 171 (.pointer (some ⟨N, 0, none⟩))) ∧ w.heap.size ≤ N ∧ w'.heap[N]? = some (.cells #[.string fn, .string s, ev] 189 (0, 0)) ∧ (g = 3 ∨ g = 4) ∧ w.cell? ⟨g, 0, none⟩ = some ev ∧ Kept w.heap.size w w' := by
  obtain ⟨t3, p3, c3⟩ := h3
  obtain ⟨t4, p4, c4⟩ := h4
  rcases he with rfl | rfl
  · exact (sh_toError_range fn s base bits (.iface t4 p4) w (by omega) c4 (.inr ⟨_, _, rfl⟩)).mono fun e w' ⟨N, a1, a2, a3, a4⟩ => ⟨N, 4, _, a1, a2, a3, .inr rfl, c4, Kept.of_below a4 rfl⟩
  · exact (sh_toError_syntax fn s base bits (.iface t3 p3) w (by omega) c3 (.inr ⟨_, _, rfl⟩)).mono fun e w' ⟨N, a1, a2, a3, a4⟩ => ⟨N, 3, _, a1, a2, a3, .inl rfl, c3, Kept.of_below a4 rfl⟩
set_option maxHeartbeats 4000000 in
set_option maxRecDepth 100000 in
theorem parseFloat_any (s : ByteArray) (bits : Int) (w : World) (hs : s.size ≤ 100000) (hI : Calls Tryz.prog 130 #[.string s, .int .i64 bits] w (PfV w))
    (h3 : ∃ te pe, w.cell? ⟨3, 0, none⟩ = some (.iface te pe)) (h4 : ∃ te pe, w.cell? ⟨4, 0, none⟩ = some (.iface te pe)) :
    Calls Tryz.prog 107 #[.string s, .int .i64 bits] w (PfoV s w) := by
  have HI := Lib.hid hI
  have C3 := Lib.hid h3
  have C4 := Lib.hid h4
  clear hI h3 h4
  go_enter Tryz.func107, Tryz.ntmps107
  go_wp2_with (first
    | (go_at_call 130; refine HI.out.mono ?_; rintro e w1 ⟨x, er, rfl, he, hk⟩; have HK := Lib.hid hk; clear hk; rcases he with rfl | rfl | rfl)
    | (go_at_call 131; refine (toErr_any _ s _ _ _ w1 hs (C3.out.imp fun _ h => h.imp fun _ h => HK.out.old (Nat.le_refl _) h) (C4.out.imp fun _ h => h.imp fun _ h => HK.out.old (Nat.le_refl _) h) (by first | exact .inl rfl | exact .inr rfl)).mono ?_; rintro e w2 ⟨N, g, ev, rfl, hN, hh, hg, hc, hb⟩; have HB := Lib.hid (HK.out.into hb rfl); have HH := Lib.hid hh; have HC := Lib.hid (hb.old (Nat.le_refl _) hc); clear hb hh hc))
  · exact bodyPost_ret (results_tmp2 rfl _ _ _) rfl ⟨x, _, rfl, .inl rfl, HK.out⟩
  · exact bodyPost_ret (results_tmp2 rfl _ _ _) rfl ⟨x, _, rfl, .inr ⟨N, g, _, ev, rfl, Nat.le_trans HK.out.size hN, HH.out, by decide, hg, HC.out⟩, HB.out⟩
  · exact bodyPost_ret (results_tmp2 rfl _ _ _) rfl ⟨x, _, rfl, .inr ⟨N, g, _, ev, rfl, Nat.le_trans HK.out.size hN, HH.out, by decide, hg, HC.out⟩, HB.out⟩
end Go.Proofs.YtaecbclonmhbcaaGreatDoor

namespace Go.Proofs.YtaecbclonmhbcaaGreatDoor
open Go.RowKit Go.Lib
theorem laid_plain {W : World} (h : laidMetH Tryz.prog laidL W) : laidMet Tryz.prog laidL W := by
  rwa [MakeChecks.laidMetH_plain _ _ _ (by kernel_rfl)] at h
theorem laid_at {W : World} (h : laidMet Tryz.prog laidL W) (i : Nat) {n : String} {d : DataW Unit} (hi : laidL[i]? = some (n, d)) : VarReads Tryz.prog W n d := laidMet.reads h (List.mem_of_getElem? hi)
theorem at_of_take {cs : List Value} {o : Nat} {v : Value} (h : (cs.drop o).take 1 = [v]) : cs[o]? = some v := by
  have := congrArg (·[0]?) h
  simpa [List.getElem?_take, List.getElem?_drop] using this
theorem at_of_take2 {cs : List Value} {o m j : Nat} {v : Value} (h : (((cs.drop o).take m).drop j).take 1 = [v]) (hj : j < m) : cs[o + j]? = some v := by
  have := congrArg (·[0]?) h
  simpa [List.getElem?_take, List.getElem?_drop, hj] using this
theorem c3 : Tryz.prog.cellsOf 3 = 1 := by kernel_rfl
theorem c9 : Tryz.prog.cellsOf 9 = 1 := by kernel_rfl
theorem c49 : Tryz.prog.cellsOf 49 = 1 := by kernel_rfl
theorem c93 : Tryz.prog.cellsOf 93 = 1 := by kernel_rfl
theorem c105 : Tryz.prog.cellsOf 105 = 1 := by kernel_rfl
theorem c113 : Tryz.prog.cellsOf 113 = 1 := by kernel_rfl
theorem c243 : Tryz.prog.cellsOf 243 = 2 := by kernel_rfl
theorem c253 : Tryz.prog.cellsOf 253 = 2 := by kernel_rfl
section
variable {W : World}
theorem finfo_of {name : String} {g : Nat} {a b : Nat} {c : Int} (hn : Tryz.prog.globalNamed name = some g) (hy : (Tryz.prog.globals[g]?).map (·.type) = some 204) (h : VarReads Tryz.prog W name (.agg [.lit (.int .u64 a), .lit (.int .u64 b), .lit (.int .i64 c)])) :
    W.cell? ⟨g, 0, none⟩ = some (.int .u64 a) ∧ W.cell? ⟨g, 1, none⟩ = some (.int .u64 b) ∧ W.cell? ⟨g, 2, none⟩ = some (.int .i64 c) := by
  obtain ⟨cs, f, p, hd, hc⟩ := var_of_reads hn hy h
  obtain ⟨xs, n, _, hx, hl, hxl, hall⟩ := DataW.trod_struct Tryz.underlying204 hd
  have hm := congrArg Prod.fst hx
  simp only [DataW.agg.injEq] at hm
  match xs, hxl with
  | [y0, y1, y2], _ =>
    simp only [List.map_cons, List.map_nil, List.cons.injEq, and_true] at hm
    obtain ⟨m0, m1, m2⟩ := hm
    have h0 : DataW.trod (fun _ => ()) Tryz.prog W 0 (fun _ => true) false n 105 ((cs.drop 0).take (Tryz.prog.cellsOf 105)) = some y0 := hall 0 _ rfl
    have h1 : DataW.trod (fun _ => ()) Tryz.prog W 0 (fun _ => true) false n 105 ((cs.drop 1).take (Tryz.prog.cellsOf 105)) = some y1 := hall 1 _ rfl
    have h2 : DataW.trod (fun _ => ()) Tryz.prog W 0 (fun _ => true) false n 3 ((cs.drop 2).take (Tryz.prog.cellsOf 3)) = some y2 := hall 2 _ rfl
    rw [c105] at h0 h1
    rw [c3] at h2
    obtain ⟨z0, k0, q0, -⟩ := DataW.trod_int Tryz.underlying105 h0
    obtain ⟨z1, k1, q1, -⟩ := DataW.trod_int Tryz.underlying105 h1
    obtain ⟨z2, k2, q2, -⟩ := DataW.trod_int Tryz.underlying3 h2
    rw [q0] at m0
    rw [q1] at m1
    rw [q2] at m2
    simp only [DataW.lit.injEq, Lit.int.injEq, true_and] at m0 m1 m2
    subst m0 m1 m2
    exact ⟨(hc 0).trans (at_of_take k0), (hc 1).trans (at_of_take k1), (hc 2).trans (at_of_take k2)⟩
theorem p10_of (h : VarReads Tryz.prog W "internal/strconv.pow10Tab" Go.Pinned.pow10Tab) : ∀ i, i < 696 → ∃ hi lo : Nat, hi < 18446744073709551616 ∧ lo < 18446744073709551616 ∧ W.cell? ⟨12, i * 2, none⟩ = some (.int .u64 hi) ∧ W.cell? ⟨12, i * 2 + 1, none⟩ = some (.int .u64 lo) := by
  obtain ⟨cs, f, p, hd, hc⟩ := var_of_reads (g := 12) (t := 244) (by kernel_rfl) (by kernel_rfl) h
  obtain ⟨xs, m, _, hx, hl, hxl, hall⟩ := DataW.trod_array Tryz.underlying244 hd
  intro i hi
  have h1 := hall i hi
  obtain ⟨y, hy⟩ : ∃ y, xs[i]? = some y := ⟨xs[i]'(by omega), List.getElem?_eq_getElem (by omega)⟩
  rw [hy, c243] at h1
  obtain ⟨ys, n, _, hx2, hl2, hyl, hall2⟩ := DataW.trod_struct Tryz.underlying243 h1
  match ys, hyl with
  | [y0, y1], _ =>
    have h0 : DataW.trod (fun _ => ()) Tryz.prog W 0 (fun _ => true) false n 49 ((((cs.drop (i * 2)).take 2).drop 0).take (Tryz.prog.cellsOf 49)) = some y0 := hall2 0 _ rfl
    have h1 : DataW.trod (fun _ => ()) Tryz.prog W 0 (fun _ => true) false n 49 ((((cs.drop (i * 2)).take 2).drop 1).take (Tryz.prog.cellsOf 49)) = some y1 := hall2 1 _ rfl
    rw [c49] at h0 h1
    obtain ⟨z0, k0, -, w0⟩ := DataW.trod_int Tryz.underlying49 h0
    obtain ⟨z1, k1, -, w1⟩ := DataW.trod_int Tryz.underlying49 h1
    have b0 := bounds_u64 w0
    have b1 := bounds_u64 w1
    have e0 := (hc _).trans (at_of_take2 k0 (by decide))
    have e1 := (hc _).trans (at_of_take2 k1 (by decide))
    refine ⟨z0.toNat, z1.toNat, by omega, by omega, ?_, ?_⟩
    · rw [show ((z0.toNat : Nat) : Int) = z0 by omega]; simpa using e0
    · rw [show ((z1.toNat : Nat) : Int) = z1 by omega]; simpa using e1
theorem pow_of {k : FloatKind} {name : String} {g : Nat} {t e : TypeId} {ds : List (DataW Unit)} (hn : Tryz.prog.globalNamed name = some g) (hy : (Tryz.prog.globals[g]?).map (·.type) = some t) (ht : Tryz.prog.underlying t = some (.slice e)) (he : Tryz.prog.underlying e = some (.float k))
    (hc1 : Tryz.prog.cellsOf e = 1) (hl : 0 < ds.length) (h : VarReads Tryz.prog W name (.slice ds [])) : ∃ T, PowT k g ds.length W T := by
  obtain ⟨R, o, cap, h1, h2, h3, h4⟩ := slice_of_reads hn hy ht (by rw [hc1]; decide) hl h
  refine ⟨fun i => match W.cell? ⟨R, o + i, none⟩ with | some (.float _ x) => x | _ => 0, ⟨R, o, cap, h1, fun i hi => ?_⟩⟩
  obtain ⟨ce, f, d, p, e1, e2, e3, e4⟩ := h4 i hi
  obtain ⟨x, rfl⟩ := trod_float he e4
  have := e3 0 (by rw [hc1]; decide)
  rw [hc1, Nat.mul_one, Nat.add_zero] at this
  simp only [this]
  rfl
def pows9 : List Int := [1, 3, 6, 9, 13, 16, 19, 23, 26]
theorem pow9_of (h : VarReads Tryz.prog W "internal/strconv.powtab" (.slice (pows9.map fun z => .lit (.int .i64 z)) [])) (b : Nat) (hb : W.heap.size ≤ b) : Pow9 W b := by
  obtain ⟨R, o, cap, h1, h2, h3, h4⟩ := slice_of_reads (g := 10) (t := 40) (e := 3) (by kernel_rfl) (by kernel_rfl) Tryz.underlying40 (by rw [c3]; decide) (by decide) h
  rw [List.length_map] at h1 h2 h4
  have hg := World.block_lt_of_cell? W _ h1
  simp only at hg
  refine ⟨by omega, R, o, cap, by omega, h1, h2, fun j hj => ?_⟩
  obtain ⟨ce, f, d, p, e1, e2, e3, e4⟩ := h4 j hj
  obtain ⟨z, rfl, q, -⟩ := DataW.trod_int Tryz.underlying3 e4
  have hcell := e3 0 (by rw [c3]; decide)
  rw [c3, Nat.mul_one, Nat.add_zero] at hcell
  simp only [Prod.mk.injEq] at q
  obtain ⟨rfl, -⟩ := q
  rw [List.getElem?_map] at e1
  obtain ⟨z', hz', e⟩ := Option.map_eq_some_iff.1 e1
  simp only [DataW.lit.injEq, Lit.int.injEq, true_and] at e
  subst e
  have hz : 1 ≤ z' ∧ z' ≤ 27 := (show ∀ z ∈ pows9, 1 ≤ z ∧ z ≤ 27 by decide) z' (List.mem_of_getElem? hz')
  refine ⟨z'.toNat, by omega, by omega, ?_⟩
  rw [hcell, show ((z'.toNat : Nat) : Int) = z' by omega]
  rfl
def cutN (l : List UInt8) : List Nat := l.map fun b => b.toNat - 48
def rowN (k : Nat) : Nat × List UInt8 := Go.Pinned.cheatRows.getD k (0, [])
theorem cheats_check : ((List.range 60).all fun j => cheatB (j + 1) (rowN (j + 1)).1 (cutN (rowN (j + 1)).2) && (rowN (j + 1)).2.all (fun b => decide (48 ≤ b.toNat)) && decide ((rowN (j + 1)).2.length ≤ 800)) = true := by kernel_rfl
theorem cheats_len : Go.Pinned.cheatRows.length = 61 := by kernel_rfl
theorem cheat_of_reads (h : VarReads Tryz.prog W "internal/strconv.leftcheats" Go.Pinned.leftcheats) (b : Nat) (hb : W.heap.size ≤ b) : CheatT W b := by
  obtain ⟨R, o, cap, h1, h2, h3, h4⟩ := slice_of_reads (g := 13) (t := 254) (e := 253) (ds := Go.Pinned.cheatRows.map fun x => .agg [.lit (.int .i64 x.1), .lit (.string x.2)]) (by kernel_rfl) (by kernel_rfl) Tryz.underlying254 (by rw [c253]; decide)
    (by rw [List.length_map, cheats_len]; decide) h
  rw [List.length_map, cheats_len] at h1 h2 h4
  have hg := World.block_lt_of_cell? W _ h1
  simp only at hg
  refine ⟨by omega, R, o, cap, by omega, h1, h2, fun k hk0 hk1 => ?_⟩
  obtain ⟨ce, f, d, p, e1, e2, e3, e4⟩ := h4 k (by omega)
  rw [c253] at e2 e3
  obtain ⟨ys, n, _, hx, hl, hyl, hall⟩ := DataW.trod_struct Tryz.underlying253 e4
  have hrow : Go.Pinned.cheatRows[k]? = some (rowN k) := by
    have : k < Go.Pinned.cheatRows.length := by rw [cheats_len]; omega
    simp [rowN, List.getD, this]
  rw [List.getElem?_map, hrow] at e1
  simp only [Option.map_some, Option.some.injEq] at e1
  rw [← e1] at hx
  match ys, hyl with
  | [y0, y1], _ =>
    have hm := congrArg Prod.fst hx
    simp only [DataW.agg.injEq, List.map_cons, List.map_nil, List.cons.injEq, and_true] at hm
    obtain ⟨m0, m1⟩ := hm
    have h0 : DataW.trod (fun _ => ()) Tryz.prog W 0 (fun _ => true) false n 3 ((ce.drop 0).take (Tryz.prog.cellsOf 3)) = some y0 := hall 0 _ rfl
    have h1 : DataW.trod (fun _ => ()) Tryz.prog W 0 (fun _ => true) false n 9 ((ce.drop 1).take (Tryz.prog.cellsOf 9)) = some y1 := hall 1 _ rfl
    rw [c3] at h0
    rw [c9] at h1
    obtain ⟨z0, k0, q0, -⟩ := DataW.trod_int Tryz.underlying3 h0
    obtain ⟨s, k1, q1, -⟩ := DataW.trod_string Tryz.underlying9 h1
    rw [q0] at m0
    rw [q1] at m1
    simp only [DataW.lit.injEq, Lit.int.injEq, Lit.string.injEq, true_and] at m0 m1
    subst m0
    have a0 := at_of_take k0
    have a1 := at_of_take k1
    have c0 := (e3 0 (by decide)).trans a0
    have c1 := (e3 1 (by decide)).trans a1
    have hck := List.all_eq_true.1 cheats_check (k - 1) (List.mem_range.2 (by omega))
    rw [show k - 1 + 1 = k by omega] at hck
    simp only [Bool.and_eq_true, decide_eq_true_eq, List.all_eq_true] at hck
    obtain ⟨⟨g1, g2⟩, g3⟩ := hck
    have hsz : s.size = (rowN k).2.length := by rw [m1, ByteArray.size]; simp
    refine ⟨(rowN k).1, s, cutN (rowN k).2, by simpa using c0, by simpa using c1, ⟨by rw [hsz]; simp [cutN], fun i hi => ?_⟩, by omega, cheat_of g1⟩
    have hi' : i < (rowN k).2.length := by omega
    have hb' : s[i] = (rowN k).2[i] := by
      have : s.data.toList[i]? = some ((rowN k).2[i]) := by rw [← m1]; simp [hi']
      have e : s.data.toList[i]? = some s[i] := by
        show s.data.toList[i]? = some s.data[i]
        simp
      rw [e] at this
      exact Option.some.inj this
    have := g2 _ (List.getElem_mem hi')
    rw [hb']
    simp only [cutN, List.getD, List.getElem?_map, List.getElem?_eq_getElem hi', Option.map_some, Option.getD_some]
    omega
structure Tabs (w : World) : Prop where
  fl : FlT w
  pr : Lib.PrintTabsAt 19 20 21 22 Lib.goPrintTabs w
  u8 : Lib.Utf8Tabs 17 18 w
  e3 : ∃ (a : Addr) (t : ByteArray), w.cell? ⟨3, 0, none⟩ = some (.iface 191 (.pointer (some a))) ∧ w.cell? a = some (.string t) ∧ t.size ≤ 1000
  e4 : ∃ (a : Addr) (t : ByteArray), w.cell? ⟨4, 0, none⟩ = some (.iface 191 (.pointer (some a))) ∧ w.cell? a = some (.string t) ∧ t.size ≤ 1000
  p10 : Lib.TabIs Tryz.prog w "internal/strconv.uint64pow10" .u64 Lib.pow10Tab
theorem Tabs.below {w w' : World} (h : Tabs w) (hb : Below w.heap.size w w') : Tabs w' :=
  ⟨h.fl.kept (Kept.of_below hb rfl) (Nat.le_refl _), printTabs_below h.pr hb, Utf8Tabs_below h.u8 hb,
    by obtain ⟨a, t, h1, h2, h3⟩ := h.e3; exact ⟨a, t, (Kept.of_below hb rfl).old (Nat.le_refl _) h1, (Kept.of_below hb rfl).old (Nat.le_refl _) h2, h3⟩,
    by obtain ⟨a, t, h1, h2, h3⟩ := h.e4; exact ⟨a, t, (Kept.of_below hb rfl).old (Nat.le_refl _) h1, (Kept.of_below hb rfl).old (Nat.le_refl _) h2, h3⟩,
    TabIs_below (g := 14) (by kernel_rfl) h.p10 hb⟩
theorem laid_free {P : Program} {W : World} {l : List (String × DataW Unit)} (h : laidMet P l W) {n : String} {d : DataW Unit} (hm : (n, d) ∈ l) {g : Nat} (hg : P.globalNamed n = some g) {v : Value} (hc : W.cell? ⟨g, 0, none⟩ = some v) :
    ∃ (c : Array Value) (t : TypeId), W.heap[g]? = some (.cells c t (0, 0)) := by
  obtain ⟨ps, hv, _, hf⟩ := h
  have key : ∀ (l : List (String × DataW Unit)) (ps : List MemPlace), DataW.LaidVars P W l ps → (n, d) ∈ l → MemPlace.cell g 0 ∈ ps := by
    intro l
    induction l with
    | nil => intro ps _ hm; cases hm
    | cons x r ih =>
      intro ps h hm
      obtain ⟨n', d'⟩ := x
      obtain ⟨g', t, cs, fuel, p, q, h1, h2, h3, h4, h5, h6⟩ := h
      subst h6
      rcases List.mem_cons.1 hm with e | e
      · cases e
        obtain rfl := Option.some.inj (hg.symm.trans h1)
        have h7 := World.var?_cell h1 h3 0
        rw [hc] at h7
        have h8 : 0 < cs.size := (Array.getElem?_eq_some_iff.1 h7.symm).1
        refine List.mem_append_left _ (List.mem_append_left _ ?_)
        simp [MemPlace.row, Addr.add]
        exact h8
      · exact List.mem_append_right _ (ih q h5 e)
  exact (hf _ _ (key l ps hv hm)).1
theorem flt_of (hL : laidMet Tryz.prog laidL W) : FlT W := by
  have c8 := finfo_of (g := 8) (by kernel_rfl) (by kernel_rfl) (laid_at hL 3 (d := .agg [.lit (.int .u64 52), .lit (.int .u64 11), .lit (.int .i64 (-1023))]) rfl)
  have c6 := finfo_of (g := 6) (by kernel_rfl) (by kernel_rfl) (laid_at hL 2 (d := .agg [.lit (.int .u64 23), .lit (.int .u64 8), .lit (.int .i64 (-127))]) rfl)
  refine ⟨?_, c8, c6, ?_, ?_, fun p h0 h1 => p10_of (laid_at hL 15 rfl) (p + 348).toNat (by omega), fun b hb => cheat_of_reads (laid_at hL 14 rfl) b hb, fun b hb => pow9_of (laid_at hL 5 rfl) b hb, laid_free hL (List.mem_of_getElem? (i := 3) rfl) (by kernel_rfl) c8.1, laid_free hL (List.mem_of_getElem? (i := 2) rfl) (by kernel_rfl) c6.1⟩
  · obtain ⟨cs, f, p, hd, hc⟩ := var_of_reads (g := 7) (t := 4) (by kernel_rfl) (by kernel_rfl) (laid_at hL 4 rfl)
    obtain ⟨y, rfl, -⟩ := DataW.trod_bool Tryz.underlying4 hd
    exact ⟨y, hc 0⟩
  · exact pow_of (g := 11) (t := 238) (e := 93) (by kernel_rfl) (by kernel_rfl) Tryz.underlying238 Tryz.underlying93 c93 (by decide) (laid_at hL 6 rfl)
  · exact pow_of (g := 9) (t := 225) (e := 113) (by kernel_rfl) (by kernel_rfl) Tryz.underlying225 Tryz.underlying113 c113 (by decide) (laid_at hL 7 rfl)
theorem tabs_of (h : laidMetH Tryz.prog laidL W) : Tabs W := by
  have hL := laid_plain h
  refine ⟨flt_of hL, ?_, ?_, ?_, ?_, ?_⟩
  · exact printTabs_of_reads (ρ := sh_lays177_ren) { sh_lays177 with } ⟨by kernel_rfl, by kernel_rfl, by kernel_rfl, by kernel_rfl, by kernel_rfl, by kernel_rfl, by kernel_rfl, by kernel_rfl, by kernel_rfl, by kernel_rfl⟩
      (Pinned.isPrint16_eq ▸ laid_at hL 19 rfl) (Pinned.isNotPrint16_eq ▸ laid_at hL 17 rfl) (Pinned.isPrint32_eq ▸ laid_at hL 20 rfl) (Pinned.isNotPrint32_eq ▸ laid_at hL 18 rfl)
  · exact utf8Tabs_of_reads (ρ := sh_lays177_ren) { sh_lays177 with } ⟨by kernel_rfl, by kernel_rfl, by kernel_rfl, by kernel_rfl, by kernel_rfl, by kernel_rfl, by kernel_rfl⟩ (Pinned.utf8First_eq ▸ laid_at hL 21 rfl) (laid_at hL 9 rfl)
  · obtain ⟨a, t, hv, hc, ht, _⟩ := laid_sentinel (g := 3) hL.tail.tail.tail.tail.tail.tail.tail.tail.tail.tail.tail (by kernel_rfl) (by kernel_rfl) Tryz.underlying63 row191 Tryz.underlying191 Tryz.underlying193 rfl rfl Tryz.underlying9 (by kernel_rfl) (by kernel_rfl)
    exact ⟨a, t, by have := World.var?_cell (g := 3) (by kernel_rfl) hv 0; simpa using this, hc, by rw [Lib.size_eq, ht]; decide⟩
  · obtain ⟨a, t, hv, hc, ht, _⟩ := laid_sentinel (g := 4) hL.tail.tail.tail.tail.tail.tail.tail.tail.tail.tail (by kernel_rfl) (by kernel_rfl) Tryz.underlying63 row191 Tryz.underlying191 Tryz.underlying193 rfl rfl Tryz.underlying9 (by kernel_rfl) (by kernel_rfl)
    exact ⟨a, t, by have := World.var?_cell (g := 4) (by kernel_rfl) hv 0; simpa using this, hc, by rw [Lib.size_eq, ht]; decide⟩
  · exact tabIs_of_head (g := 14) (t := 257) (e := 49) (n := 20) (by kernel_rfl) (by kernel_rfl) Tryz.underlying257 Tryz.underlying49 (by kernel_rfl) (by kernel_rfl) hL.tail.tail.tail.tail.tail.tail.tail.tail
end
end Go.Proofs.YtaecbclonmhbcaaGreatDoor

namespace Go.Proofs.YtaecbclonmhbcaaGreatDoor
open Go.RowKit
set_option maxHeartbeats 1000000 in
theorem corrupt_any (z : Int) (h0 : -9223372036854775808 ≤ z) (h1 : z ≤ 9223372036854775807) (w : World) (hT : Tabs w) : Calls Tryz.prog 280 #[.int .i64 z] w fun e w' => (∃ t, e = .returned (.string t)) ∧ Below w.heap.size w w' := by
  have HF := Lib.hid (Any.strconv_FormatInt_10 sh_laysM173 z h0 h1 w hT.p10)
  have hl := Lib.itoa_length_le z h0 h1
  obtain ⟨t, ht⟩ : ∃ t : ByteArray, t = ⟨(Lib.itoa z).toArray⟩ := ⟨_, rfl⟩
  have hsz : t.size ≤ 21 := by rw [ht, Lib.size_eq]; simpa using hl
  rw [← ht] at HF
  clear ht hl hT
  go_enter Tryz.func280, Tryz.ntmps280
  go_wp2_with (go_at_call 281; refine HF.out.mono ?_; rintro e w1 ⟨rfl, k, os, hw⟩; have HB := Lib.hid (hw ▸ Lib.below_grow w.heap.size w (Nat.le_refl _) k os); clear hw)
  go_ret
  exact ⟨⟨_, rfl⟩, HB.out⟩
end Go.Proofs.YtaecbclonmhbcaaGreatDoor
