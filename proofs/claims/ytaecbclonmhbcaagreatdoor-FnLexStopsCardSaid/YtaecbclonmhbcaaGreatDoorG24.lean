/- A row of the cheat sheet, told by a reckoning. No program. strconv.Quote, NumError.Error, FormatInt: the library shelf laid at this program (written by the kit lay-plain tool). internal/strconv.ParseFloat over bytes of numbers. Contracts of strconv.toError, ParseUint: the library shelf laid at this program (written by the kit lay-plain tool). -/
import Derived.Test.YtaecbclonmhbcaaGreatDoorG15
import Derived.Shelf.Strconv.Quote
import Derived.Shelf.Strconv.NumErrorText
import Derived.Shelf.Strconv.Itoa4
import Derived.Test.YtaecbclonmhbcaaGreatDoorProg
import Derived.Test.YtaecbclonmhbcaaGreatDoorG22
import Derived.Shelf.Pu.ToErrorRange
import Derived.Shelf.Pu.ParseUintPublic10
set_option linter.unusedVariables false
set_option linter.unusedSimpArgs false
/- A row of the cheat sheet, told by a reckoning. No program. -/
namespace Go.Proofs.YtaecbclonmhbcaaGreatDoor

def cheatB (k delta : Nat) (cut : List Nat) : Bool :=
  cut.all (fun d => decide (d ≤ 9)) && endsD cut && decide (numD cut * 2 ^ k = 10 ^ k) && decide (cut.length + delta = k + 1) && decide (10 ^ delta ≤ 10 * 2 ^ k) && decide (2 ^ k < 10 ^ delta) && decide (0 < delta) && decide (k < 61)
theorem cheat_of {k delta : Nat} {cut : List Nat} (h : cheatB k delta cut = true) : Cheat k delta cut := by
  simp only [cheatB, Bool.and_eq_true, decide_eq_true_eq, List.all_eq_true] at h
  obtain ⟨⟨⟨⟨⟨⟨⟨h1, h2⟩, h3⟩, h4⟩, h5⟩, h6⟩, h7⟩, h8⟩ := h
  exact ⟨h1, h2, h3, h4, h5, h6, h7, h8⟩
/-- The sheet's row for one digit in: 5; for three: 125. -/
theorem cheat_1 : Cheat 1 1 [5] := cheat_of (by decide)
theorem cheat_3 : Cheat 3 1 [1, 2, 5] := cheat_of (by decide)
end Go.Proofs.YtaecbclonmhbcaaGreatDoor

/- strconv.Quote, NumError.Error, FormatInt: the library shelf laid at this program (written by the kit lay-plain tool). -/
namespace Go.Proofs.YtaecbclonmhbcaaGreatDoor
open Go.Shelf
def sh_lays177_ren : Go.Shelf.Ren := ⟨fun | 177 => 236 | 250 => 245 | 289 => 249 | 197 => 251 | 323 => 252 | 260 => 253 | 339 => 254 | 340 => 255 | 242 => 256 | 119 => 257 | 345 => 258 | 346 => 259 | 278 => 260 | n => n, fun | 9 => 9 | 5 => 5 | 4 => 4 | 3 => 3 | 37 => 22 | 21 => 21 | 105 => 265 | 46 => 105 | 119 => 151 | 0 => 0 | 139 => 271 | 138 => 270 | 49 => 100 | 234 => 272 | 131 => 44 | 51 => 102 | 236 => 274 | n => n, fun | 3 => 17 | 4 => 18 | 20 => 19 | 21 => 20 | 22 => 21 | 23 => 22 | 24 => 23 | n => n⟩
theorem sh_lays177 : Go.Proofs.Lays.n177 Tryz.prog sh_lays177_ren := {
  mixed := by kernel_rfl
  f119 := Tryz.func257.trans (congrArg some (by kernel_rfl))
  f177 := Tryz.func236.trans (congrArg some (by kernel_rfl))
  f197 := Tryz.func251.trans (congrArg some (by kernel_rfl))
  f242 := Tryz.func256.trans (congrArg some (by kernel_rfl))
  f250 := Tryz.func245.trans (congrArg some (by kernel_rfl))
  f260 := Tryz.func253.trans (congrArg some (by kernel_rfl))
  f278 := Tryz.func260.trans (congrArg some (by kernel_rfl))
  f289 := Tryz.func249.trans (congrArg some (by kernel_rfl))
  f323 := Tryz.func252.trans (congrArg some (by kernel_rfl))
  f339 := Tryz.func254.trans (congrArg some (by kernel_rfl))
  f340 := Tryz.func255.trans (congrArg some (by kernel_rfl))
  f345 := Tryz.func258.trans (congrArg some (by kernel_rfl))
  f346 := Tryz.func259.trans (congrArg some (by kernel_rfl))
  t0 := Tryz.underlying0
  a0 := Tryz.isAgg0
  z0 := Tryz.sizeOf0
  v0 := Tryz.zeroValue0
  t3 := Tryz.underlying3
  a3 := Tryz.isAgg3
  z3 := Tryz.sizeOf3
  v3 := Tryz.zeroValue3
  t4 := Tryz.underlying4
  a4 := Tryz.isAgg4
  z4 := Tryz.sizeOf4
  v4 := Tryz.zeroValue4
  t5 := Tryz.underlying5
  a5 := Tryz.isAgg5
  z5 := Tryz.sizeOf5
  v5 := Tryz.zeroValue5
  t9 := Tryz.underlying9
  a9 := Tryz.isAgg9
  z9 := Tryz.sizeOf9
  v9 := Tryz.zeroValue9
  t21 := Tryz.underlying21
  a21 := Tryz.isAgg21
  z21 := Tryz.sizeOf21
  v21 := Tryz.zeroValue21
  t37 := Tryz.underlying22
  a37 := Tryz.isAgg22
  z37 := Tryz.sizeOf22
  v37 := Tryz.zeroValue22
  t46 := Tryz.underlying105
  a46 := Tryz.isAgg105
  z46 := Tryz.sizeOf105
  v46 := Tryz.zeroValue105
  t49 := Tryz.underlying100
  a49 := Tryz.isAgg100
  z49 := Tryz.sizeOf100
  v49 := Tryz.zeroValue100
  t51 := Tryz.underlying102
  a51 := Tryz.isAgg102
  z51 := Tryz.sizeOf102
  v51 := Tryz.zeroValue102
  t105 := Tryz.underlying265
  a105 := Tryz.isAgg265
  z105 := Tryz.sizeOf265
  v105 := Tryz.zeroValue265
  t119 := Tryz.underlying151
  a119 := Tryz.isAgg151
  z119 := Tryz.sizeOf151
  t131 := Tryz.underlying44
  a131 := Tryz.isAgg44
  z131 := Tryz.sizeOf44
  v131 := Tryz.zeroValue44
  t138 := Tryz.underlying270
  a138 := Tryz.isAgg270
  z138 := Tryz.sizeOf270
  v138 := Tryz.zeroValue270
  t139 := Tryz.underlying271
  a139 := Tryz.isAgg271
  z139 := Tryz.sizeOf271
  v139 := Tryz.zeroValue271
  t234 := Tryz.underlying272
  a234 := Tryz.isAgg272
  z234 := Tryz.sizeOf272
  v234 := Tryz.zeroValue272
  t236 := Tryz.underlying274
  a236 := Tryz.isAgg274
  z236 := Tryz.sizeOf274
  v236 := Tryz.zeroValue274
  g3 := by kernel_rfl
  g4 := by kernel_rfl
  g20 := by kernel_rfl
  g21 := by kernel_rfl
  g22 := by kernel_rfl
  g23 := by kernel_rfl
  g24 := by kernel_rfl }
def sh_laysFn4_ren : Go.Shelf.Ren := ⟨fun | 4 => 279 | 5 => 236 | 6 => 245 | 7 => 249 | 8 => 251 | 9 => 252 | 10 => 253 | 11 => 254 | 12 => 255 | 13 => 256 | 14 => 257 | 15 => 258 | 16 => 259 | 17 => 260 | n => n, fun | 22 => 171 | 9 => 9 | 0 => 0 | 28 => 189 | 26 => 63 | 5 => 5 | 4 => 4 | 3 => 3 | 31 => 22 | 21 => 21 | 33 => 265 | 35 => 105 | 39 => 151 | 42 => 271 | 41 => 270 | 43 => 100 | 44 => 272 | 45 => 44 | 47 => 102 | 48 => 274 | 23 => 95 | n => n, fun | 0 => 17 | 1 => 18 | 2 => 19 | 3 => 20 | 4 => 21 | 5 => 22 | 6 => 23 | n => n⟩
theorem sh_laysFn4 : Go.Proofs.LaysFn.n4 Tryz.prog sh_laysFn4_ren := {
  mixed := by kernel_rfl
  f4 := Tryz.func279.trans (congrArg some (by kernel_rfl))
  f5 := Tryz.func236.trans (congrArg some (by kernel_rfl))
  f6 := Tryz.func245.trans (congrArg some (by kernel_rfl))
  f7 := Tryz.func249.trans (congrArg some (by kernel_rfl))
  f8 := Tryz.func251.trans (congrArg some (by kernel_rfl))
  f9 := Tryz.func252.trans (congrArg some (by kernel_rfl))
  f10 := Tryz.func253.trans (congrArg some (by kernel_rfl))
  f11 := Tryz.func254.trans (congrArg some (by kernel_rfl))
  f12 := Tryz.func255.trans (congrArg some (by kernel_rfl))
  f13 := Tryz.func256.trans (congrArg some (by kernel_rfl))
  f14 := Tryz.func257.trans (congrArg some (by kernel_rfl))
  f15 := Tryz.func258.trans (congrArg some (by kernel_rfl))
  f16 := Tryz.func259.trans (congrArg some (by kernel_rfl))
  f17 := Tryz.func260.trans (congrArg some (by kernel_rfl))
  t0 := Tryz.underlying0
  a0 := Tryz.isAgg0
  z0 := Tryz.sizeOf0
  v0 := Tryz.zeroValue0
  i0 := by kernel_rfl
  t3 := Tryz.underlying3
  a3 := Tryz.isAgg3
  z3 := Tryz.sizeOf3
  v3 := Tryz.zeroValue3
  i3 := by kernel_rfl
  t4 := Tryz.underlying4
  a4 := Tryz.isAgg4
  z4 := Tryz.sizeOf4
  v4 := Tryz.zeroValue4
  i4 := by kernel_rfl
  t5 := Tryz.underlying5
  a5 := Tryz.isAgg5
  z5 := Tryz.sizeOf5
  v5 := Tryz.zeroValue5
  i5 := by kernel_rfl
  t9 := Tryz.underlying9
  a9 := Tryz.isAgg9
  z9 := Tryz.sizeOf9
  v9 := Tryz.zeroValue9
  i9 := by kernel_rfl
  t21 := Tryz.underlying21
  a21 := Tryz.isAgg21
  z21 := Tryz.sizeOf21
  v21 := Tryz.zeroValue21
  i21 := by kernel_rfl
  t22 := Tryz.underlying171
  a22 := Tryz.isAgg171
  z22 := Tryz.sizeOf171
  v22 := Tryz.zeroValue171
  i22 := by kernel_rfl
  t23 := Tryz.underlying95
  a23 := Tryz.isAgg95
  z23 := Tryz.sizeOf95
  v23 := Tryz.zeroValue95
  i23 := by kernel_rfl
  t26 := Tryz.underlying63
  a26 := Tryz.isAgg63
  z26 := Tryz.sizeOf63
  v26 := Tryz.zeroValue63
  i26 := by kernel_rfl
  t28 := Tryz.underlying189
  a28 := Tryz.isAgg189
  z28 := Tryz.sizeOf189
  v28 := Tryz.zeroValue189
  i28 := by kernel_rfl
  t31 := Tryz.underlying22
  a31 := Tryz.isAgg22
  z31 := Tryz.sizeOf22
  v31 := Tryz.zeroValue22
  i31 := by kernel_rfl
  t33 := Tryz.underlying265
  a33 := Tryz.isAgg265
  z33 := Tryz.sizeOf265
  v33 := Tryz.zeroValue265
  i33 := by kernel_rfl
  t35 := Tryz.underlying105
  a35 := Tryz.isAgg105
  z35 := Tryz.sizeOf105
  v35 := Tryz.zeroValue105
  i35 := by kernel_rfl
  t39 := Tryz.underlying151
  a39 := Tryz.isAgg151
  z39 := Tryz.sizeOf151
  t41 := Tryz.underlying270
  a41 := Tryz.isAgg270
  z41 := Tryz.sizeOf270
  v41 := Tryz.zeroValue270
  i41 := by kernel_rfl
  t42 := Tryz.underlying271
  a42 := Tryz.isAgg271
  z42 := Tryz.sizeOf271
  v42 := Tryz.zeroValue271
  i42 := by kernel_rfl
  t43 := Tryz.underlying100
  a43 := Tryz.isAgg100
  z43 := Tryz.sizeOf100
  v43 := Tryz.zeroValue100
  i43 := by kernel_rfl
  t44 := Tryz.underlying272
  a44 := Tryz.isAgg272
  z44 := Tryz.sizeOf272
  v44 := Tryz.zeroValue272
  i44 := by kernel_rfl
  t45 := Tryz.underlying44
  a45 := Tryz.isAgg44
  z45 := Tryz.sizeOf44
  v45 := Tryz.zeroValue44
  i45 := by kernel_rfl
  t47 := Tryz.underlying102
  a47 := Tryz.isAgg102
  z47 := Tryz.sizeOf102
  v47 := Tryz.zeroValue102
  i47 := by kernel_rfl
  t48 := Tryz.underlying274
  a48 := Tryz.isAgg274
  z48 := Tryz.sizeOf274
  v48 := Tryz.zeroValue274
  i48 := by kernel_rfl
  g0 := by kernel_rfl
  m0 := by kernel_rfl
  g1 := by kernel_rfl
  m1 := by kernel_rfl
  g2 := by kernel_rfl
  m2 := by kernel_rfl
  g3 := by kernel_rfl
  m3 := by kernel_rfl
  g4 := by kernel_rfl
  m4 := by kernel_rfl
  g5 := by kernel_rfl
  m5 := by kernel_rfl
  g6 := by kernel_rfl
  m6 := by kernel_rfl }
def sh_laysM173_ren : Go.Shelf.Ren := ⟨fun | 173 => 281 | 246 => 209 | 283 => 224 | 284 => 225 | 285 => 226 | 286 => 227 | 129 => 198 | 317 => 239 | 318 => 202 | 319 => 240 | 320 => 241 | 337 => 246 | 338 => 247 | n => n, fun | 2 => 2 | 3 => 3 | 9 => 9 | 4 => 4 | 171 => 249 | 0 => 0 | 53 => 49 | 37 => 22 | 5 => 5 | 173 => 250 | 212 => 257 | 51 => 102 | 20 => 20 | 213 => 258 | 46 => 105 | 232 => 264 | 233 => 150 | n => n, fun | 17 => 14 | 18 => 15 | 19 => 16 | n => n⟩
theorem sh_laysM173 : Go.Proofs.LaysM.n173 Tryz.prog sh_laysM173_ren := {
  mixed := by kernel_rfl
  f129 := Tryz.func198.trans (congrArg some (by kernel_rfl))
  f173 := Tryz.func281.trans (congrArg some (by kernel_rfl))
  f246 := Tryz.func209.trans (congrArg some (by kernel_rfl))
  f283 := Tryz.func224.trans (congrArg some (by kernel_rfl))
  f284 := Tryz.func225.trans (congrArg some (by kernel_rfl))
  f285 := Tryz.func226.trans (congrArg some (by kernel_rfl))
  f286 := Tryz.func227.trans (congrArg some (by kernel_rfl))
  f317 := Tryz.func239.trans (congrArg some (by kernel_rfl))
  f318 := Tryz.func202.trans (congrArg some (by kernel_rfl))
  f319 := Tryz.func240.trans (congrArg some (by kernel_rfl))
  f320 := Tryz.func241.trans (congrArg some (by kernel_rfl))
  f337 := Tryz.func246.trans (congrArg some (by kernel_rfl))
  f338 := Tryz.func247.trans (congrArg some (by kernel_rfl))
  t0 := Tryz.underlying0
  a0 := Tryz.isAgg0
  z0 := Tryz.sizeOf0
  v0 := Tryz.zeroValue0
  t2 := Tryz.underlying2
  a2 := Tryz.isAgg2
  z2 := Tryz.sizeOf2
  v2 := Tryz.zeroValue2
  t3 := Tryz.underlying3
  a3 := Tryz.isAgg3
  z3 := Tryz.sizeOf3
  v3 := Tryz.zeroValue3
  t4 := Tryz.underlying4
  a4 := Tryz.isAgg4
  z4 := Tryz.sizeOf4
  v4 := Tryz.zeroValue4
  t5 := Tryz.underlying5
  a5 := Tryz.isAgg5
  z5 := Tryz.sizeOf5
  v5 := Tryz.zeroValue5
  t9 := Tryz.underlying9
  a9 := Tryz.isAgg9
  z9 := Tryz.sizeOf9
  v9 := Tryz.zeroValue9
  t20 := Tryz.underlying20
  a20 := Tryz.isAgg20
  z20 := Tryz.sizeOf20
  v20 := Tryz.zeroValue20
  t37 := Tryz.underlying22
  a37 := Tryz.isAgg22
  z37 := Tryz.sizeOf22
  v37 := Tryz.zeroValue22
  t46 := Tryz.underlying105
  a46 := Tryz.isAgg105
  z46 := Tryz.sizeOf105
  v46 := Tryz.zeroValue105
  t51 := Tryz.underlying102
  a51 := Tryz.isAgg102
  z51 := Tryz.sizeOf102
  v51 := Tryz.zeroValue102
  t53 := Tryz.underlying49
  a53 := Tryz.isAgg49
  z53 := Tryz.sizeOf49
  v53 := Tryz.zeroValue49
  t171 := Tryz.underlying249
  a171 := Tryz.isAgg249
  z171 := Tryz.sizeOf249
  v171 := Tryz.zeroValue249
  t173 := Tryz.underlying250
  a173 := Tryz.isAgg250
  z173 := Tryz.sizeOf250
  v173 := Tryz.zeroValue250
  t212 := Tryz.underlying257
  a212 := Tryz.isAgg257
  z212 := Tryz.sizeOf257
  v212 := Tryz.zeroValue257
  t213 := Tryz.underlying258
  a213 := Tryz.isAgg258
  z213 := Tryz.sizeOf258
  t232 := Tryz.underlying264
  a232 := Tryz.isAgg264
  z232 := Tryz.sizeOf264
  v232 := Tryz.zeroValue264
  t233 := Tryz.underlying150
  a233 := Tryz.isAgg150
  z233 := Tryz.sizeOf150
  v233 := Tryz.zeroValue150
  g17 := by kernel_rfl
  g18 := by kernel_rfl
  g19 := by kernel_rfl
  i0 := by kernel_rfl
  i2 := by kernel_rfl
  i3 := by kernel_rfl
  i4 := by kernel_rfl
  i5 := by kernel_rfl
  i9 := by kernel_rfl
  i20 := by kernel_rfl
  i37 := by kernel_rfl
  i46 := by kernel_rfl
  i51 := by kernel_rfl
  i53 := by kernel_rfl
  i171 := by kernel_rfl
  i173 := by kernel_rfl
  i212 := by kernel_rfl
  i232 := by kernel_rfl
  i233 := by kernel_rfl
  m17 := by kernel_rfl
  m18 := by kernel_rfl
  m19 := by kernel_rfl }
end Go.Proofs.YtaecbclonmhbcaaGreatDoor

/- internal/strconv.ParseFloat over bytes of numbers. -/
namespace Go.Proofs.YtaecbclonmhbcaaGreatDoor
open Go.RowKit

theorem run_widen (x : Nat) (W : World) : ∃ r n, (convert 113 93 (.float .f32 x)).run Tryz.prog W = .ok (.float .f64 r) (W.drewN n) := by
  have u1 : Tryz.prog.underlying 113 = some (.float .f32) := by kernel_rfl
  have u2 : Tryz.prog.underlying 93 = some (.float .f64) := by kernel_rfl
  have h : (convert 113 93 (.float .f32 x)).run Tryz.prog W = (Conv.floatToFloat .f32 x .f64).run Tryz.prog W := by
    simp [convert, run_underlying u1, run_underlying u2]
  rw [h]
  unfold Conv.floatToFloat
  rw [if_neg (by decide)]
  split
  · exact ⟨_, 1, by simp [choose, Sem.run, Question.forced]; exact ⟨rfl, rfl⟩⟩
  · exact ⟨_, 0, rfl⟩
  · rename_i s m e hd
    by_cases hi : (FloatKind.f64.decode (FloatKind.f64.encode (.number s m e))).isInfinity = true
    · exact ⟨_, 1, by simp [hi, choose]; first | rfl | exact ⟨rfl, rfl⟩⟩
    · exact ⟨_, 0, by simp [hi]; first | rfl | exact ⟨rfl, rfl⟩⟩
/-- What the inner ParseFloat gives. -/
def PfV (w : World) (e : Ending) (w' : World) : Prop := ∃ (x : Nat) (er : Value), e = .returned (.tuple #[.float .f64 x, er]) ∧ ErrV er ∧ Kept w.heap.size w w'

set_option maxHeartbeats 4000000 in
set_option maxRecDepth 100000 in
theorem prefix64_any (s : ByteArray) (w : World) (hs : s.size ≤ 100000) (h0 : 0 < s.size) (hN : NumS s) (hF : FlT w) :
    Calls Tryz.prog 149 #[.string s, .int .i64 64] w (FlPost .f64 s w) := by
  have HA := Lib.hid (atof64_any s w hs h0 hN hF)
  clear hN hF
  go_enter Tryz.func149, Tryz.ntmps149
  go_wp2_with (go_at_call 165; refine HA.out.mono ?_; rintro e w1 ⟨x, n, er, rfl, hn, he, hk⟩)
  exact bodyPost_ret (results_three rfl _ _ _) rfl ⟨x, n, er, rfl, hn, he, hk⟩

set_option maxHeartbeats 4000000 in
set_option maxRecDepth 100000 in
theorem prefix32_any (s : ByteArray) (w : World) (hs : s.size ≤ 100000) (h0 : 0 < s.size) (hN : NumS s) (hF : FlT w) :
    Calls Tryz.prog 149 #[.string s, .int .i64 32] w (FlPost .f64 s w) := by
  have HA := Lib.hid (atof32_any s w hs h0 hN hF)
  clear hN hF
  go_enter Tryz.func149, Tryz.ntmps149
  go_wp2_with (go_at_call 164; refine HA.out.mono ?_; rintro e w1 ⟨x, n, er, rfl, hn, he, hk⟩; obtain ⟨r, q, hw⟩ := run_widen x w1)
  exact bodyPost_ret (results_three rfl _ _ _) rfl ⟨_, n, er, rfl, hn, he, hk.drewN q⟩

set_option maxHeartbeats 4000000 in
set_option maxRecDepth 100000 in
theorem inner64_any (s : ByteArray) (w : World) (hs : s.size ≤ 100000) (h0 : 0 < s.size) (hN : NumS s) (hF : FlT w) :
    Calls Tryz.prog 130 #[.string s, .int .i64 64] w (PfV w) := by
  have HA := Lib.hid (prefix64_any s w hs h0 hN hF)
  clear hN hF
  go_enter Tryz.func130, Tryz.ntmps130
  go_wp2_with (go_at_call 149; refine HA.out.mono ?_; rintro e w1 ⟨x, n, er, rfl, hn, he, hk⟩; have HE := Lib.hid he; have HK := Lib.hid hk; clear he hk)
  all_goals first
    | exact bodyPost_ret (results_tmp2 rfl _ _ _) rfl ⟨_, _, rfl, .inr (.inr rfl), HK.out⟩
    | exact bodyPost_ret (results_tmp2 rfl _ _ _) rfl ⟨_, _, rfl, HE.out, HK.out⟩
set_option maxHeartbeats 4000000 in
set_option maxRecDepth 100000 in
theorem inner32_any (s : ByteArray) (w : World) (hs : s.size ≤ 100000) (h0 : 0 < s.size) (hN : NumS s) (hF : FlT w) :
    Calls Tryz.prog 130 #[.string s, .int .i64 32] w (PfV w) := by
  have HA := Lib.hid (prefix32_any s w hs h0 hN hF)
  clear hN hF
  go_enter Tryz.func130, Tryz.ntmps130
  go_wp2_with (go_at_call 149; refine HA.out.mono ?_; rintro e w1 ⟨x, n, er, rfl, hn, he, hk⟩; have HE := Lib.hid he; have HK := Lib.hid hk; clear he hk)
  all_goals first
    | exact bodyPost_ret (results_tmp2 rfl _ _ _) rfl ⟨_, _, rfl, .inr (.inr rfl), HK.out⟩
    | exact bodyPost_ret (results_tmp2 rfl _ _ _) rfl ⟨_, _, rfl, HE.out, HK.out⟩
end Go.Proofs.YtaecbclonmhbcaaGreatDoor

/- Contracts of strconv.toError, ParseUint: the library shelf laid at this program (written by the kit lay-plain tool). -/
namespace Go.Proofs.YtaecbclonmhbcaaGreatDoor
open Go.Shelf
def sh_laysPu17_ren : Go.Shelf.Ren := ⟨fun | 17 => 131 | 21 => 150 | 22 => 151 | 23 => 152 | 24 => 153 | 25 => 166 | 27 => 167 | 26 => 155 | 28 => 182 | 29 => 209 | 30 => 224 | 31 => 225 | 32 => 226 | 33 => 227 | 35 => 198 | 34 => 239 | 36 => 202 | 37 => 240 | 38 => 241 | 39 => 246 | 40 => 247 | n => n, fun | 9 => 9 | 3 => 3 | 24 => 63 | 34 => 170 | 4 => 4 | 39 => 171 | 44 => 189 | 37 => 22 | 0 => 0 | 47 => 220 | 50 => 193 | 48 => 191 | 2 => 2 | 52 => 249 | 22 => 49 | 5 => 5 | 55 => 250 | 59 => 257 | 60 => 102 | 20 => 20 | 61 => 258 | 36 => 105 | 65 => 264 | 66 => 150 | 67 => 95 | n => n, fun | 0 => 3 | 1 => 4 | 2 => 14 | 3 => 15 | 4 => 16 | n => n⟩
theorem sh_laysPu17 : Go.Proofs.LaysPu.n17 Tryz.prog sh_laysPu17_ren := {
  mixed := by kernel_rfl
  f17 := Tryz.func131.trans (congrArg some (by kernel_rfl))
  f21 := Tryz.func150.trans (congrArg some (by kernel_rfl))
  f22 := Tryz.func151.trans (congrArg some (by kernel_rfl))
  f23 := Tryz.func152.trans (congrArg some (by kernel_rfl))
  f24 := Tryz.func153.trans (congrArg some (by kernel_rfl))
  f25 := Tryz.func166.trans (congrArg some (by kernel_rfl))
  f26 := Tryz.func155.trans (congrArg some (by kernel_rfl))
  f27 := Tryz.func167.trans (congrArg some (by kernel_rfl))
  f28 := Tryz.func182.trans (congrArg some (by kernel_rfl))
  f29 := Tryz.func209.trans (congrArg some (by kernel_rfl))
  f30 := Tryz.func224.trans (congrArg some (by kernel_rfl))
  f31 := Tryz.func225.trans (congrArg some (by kernel_rfl))
  f32 := Tryz.func226.trans (congrArg some (by kernel_rfl))
  f33 := Tryz.func227.trans (congrArg some (by kernel_rfl))
  f34 := Tryz.func239.trans (congrArg some (by kernel_rfl))
  f35 := Tryz.func198.trans (congrArg some (by kernel_rfl))
  f36 := Tryz.func202.trans (congrArg some (by kernel_rfl))
  f37 := Tryz.func240.trans (congrArg some (by kernel_rfl))
  f38 := Tryz.func241.trans (congrArg some (by kernel_rfl))
  f39 := Tryz.func246.trans (congrArg some (by kernel_rfl))
  f40 := Tryz.func247.trans (congrArg some (by kernel_rfl))
  t0 := Tryz.underlying0
  a0 := Tryz.isAgg0
  z0 := Tryz.sizeOf0
  v0 := Tryz.zeroValue0
  i0 := by kernel_rfl
  t2 := Tryz.underlying2
  a2 := Tryz.isAgg2
  z2 := Tryz.sizeOf2
  v2 := Tryz.zeroValue2
  i2 := by kernel_rfl
  t3 := Tryz.underlying3
  a3 := Tryz.isAgg3
  z3 := Tryz.sizeOf3
  v3 := Tryz.zeroValue3
  i3 := by kernel_rfl
  t4 := Tryz.underlying4
  a4 := Tryz.isAgg4
  z4 := Tryz.sizeOf4
  v4 := Tryz.zeroValue4
  i4 := by kernel_rfl
  t5 := Tryz.underlying5
  a5 := Tryz.isAgg5
  z5 := Tryz.sizeOf5
  v5 := Tryz.zeroValue5
  i5 := by kernel_rfl
  t9 := Tryz.underlying9
  a9 := Tryz.isAgg9
  z9 := Tryz.sizeOf9
  v9 := Tryz.zeroValue9
  i9 := by kernel_rfl
  t20 := Tryz.underlying20
  a20 := Tryz.isAgg20
  z20 := Tryz.sizeOf20
  v20 := Tryz.zeroValue20
  i20 := by kernel_rfl
  t22 := Tryz.underlying49
  a22 := Tryz.isAgg49
  z22 := Tryz.sizeOf49
  v22 := Tryz.zeroValue49
  i22 := by kernel_rfl
  t24 := Tryz.underlying63
  a24 := Tryz.isAgg63
  z24 := Tryz.sizeOf63
  v24 := Tryz.zeroValue63
  i24 := by kernel_rfl
  t34 := Tryz.underlying170
  a34 := Tryz.isAgg170
  z34 := Tryz.sizeOf170
  v34 := Tryz.zeroValue170
  i34 := by kernel_rfl
  c34 := by kernel_rfl
  t36 := Tryz.underlying105
  a36 := Tryz.isAgg105
  z36 := Tryz.sizeOf105
  v36 := Tryz.zeroValue105
  i36 := by kernel_rfl
  t37 := Tryz.underlying22
  a37 := Tryz.isAgg22
  z37 := Tryz.sizeOf22
  v37 := Tryz.zeroValue22
  i37 := by kernel_rfl
  t39 := Tryz.underlying171
  a39 := Tryz.isAgg171
  z39 := Tryz.sizeOf171
  v39 := Tryz.zeroValue171
  i39 := by kernel_rfl
  t44 := Tryz.underlying189
  a44 := Tryz.isAgg189
  z44 := Tryz.sizeOf189
  v44 := Tryz.zeroValue189
  i44 := by kernel_rfl
  t47 := Tryz.underlying220
  a47 := Tryz.isAgg220
  z47 := Tryz.sizeOf220
  v47 := Tryz.zeroValue220
  i47 := by kernel_rfl
  t48 := Tryz.underlying191
  a48 := Tryz.isAgg191
  z48 := Tryz.sizeOf191
  v48 := Tryz.zeroValue191
  i48 := by kernel_rfl
  t50 := Tryz.underlying193
  a50 := Tryz.isAgg193
  z50 := Tryz.sizeOf193
  v50 := Tryz.zeroValue193
  i50 := by kernel_rfl
  t52 := Tryz.underlying249
  a52 := Tryz.isAgg249
  z52 := Tryz.sizeOf249
  v52 := Tryz.zeroValue249
  i52 := by kernel_rfl
  t55 := Tryz.underlying250
  a55 := Tryz.isAgg250
  z55 := Tryz.sizeOf250
  v55 := Tryz.zeroValue250
  i55 := by kernel_rfl
  t59 := Tryz.underlying257
  a59 := Tryz.isAgg257
  z59 := Tryz.sizeOf257
  v59 := Tryz.zeroValue257
  i59 := by kernel_rfl
  t60 := Tryz.underlying102
  a60 := Tryz.isAgg102
  z60 := Tryz.sizeOf102
  v60 := Tryz.zeroValue102
  i60 := by kernel_rfl
  t61 := Tryz.underlying258
  a61 := Tryz.isAgg258
  z61 := Tryz.sizeOf258
  t65 := Tryz.underlying264
  a65 := Tryz.isAgg264
  z65 := Tryz.sizeOf264
  v65 := Tryz.zeroValue264
  i65 := by kernel_rfl
  t66 := Tryz.underlying150
  a66 := Tryz.isAgg150
  z66 := Tryz.sizeOf150
  v66 := Tryz.zeroValue150
  i66 := by kernel_rfl
  t67 := Tryz.underlying95
  a67 := Tryz.isAgg95
  z67 := Tryz.sizeOf95
  v67 := Tryz.zeroValue95
  i67 := by kernel_rfl
  g0 := by kernel_rfl
  m0 := by kernel_rfl
  g1 := by kernel_rfl
  m1 := by kernel_rfl
  g2 := by kernel_rfl
  m2 := by kernel_rfl
  g3 := by kernel_rfl
  m3 := by kernel_rfl
  g4 := by kernel_rfl
  m4 := by kernel_rfl }
open Go.RowKit in
theorem sh_toError_syntax (fn s : ByteArray) (base bits : Int) (ev : Value) (w : World) (hlim : s.size ≤ 281474976710656) (hv : w.cell? ⟨3, 0, none⟩ = some ev) (hev : ev = .nilIface ∨ ∃ te pe, ev = .iface te pe) :
    Calls Tryz.prog 131 #[.string fn, .string s, .int .i64 base, .int .i64 bits, .iface 170 (.int .i64 2)] w fun e w' => ∃ N, e = .returned (.iface 171 (.pointer (some ⟨N, 0, none⟩))) ∧ w.heap.size ≤ N ∧ w'.heap[N]? = some (.cells #[.string fn, .string s, ev] 189 (0, 0)) ∧ Below w.heap.size w w' := AnyPu.strconv_toError_syntax sh_laysPu17 fn s base bits ev w hlim hv hev
open Go.RowKit in
theorem sh_toError_range (fn s : ByteArray) (base bits : Int) (ev : Value) (w : World) (hlim : s.size ≤ 281474976710656) (hv : w.cell? ⟨4, 0, none⟩ = some ev) (hev : ev = .nilIface ∨ ∃ te pe, ev = .iface te pe) :
    Calls Tryz.prog 131 #[.string fn, .string s, .int .i64 base, .int .i64 bits, .iface 170 (.int .i64 1)] w fun e w' => ∃ N, e = .returned (.iface 171 (.pointer (some ⟨N, 0, none⟩))) ∧ w.heap.size ≤ N ∧ w'.heap[N]? = some (.cells #[.string fn, .string s, ev] 189 (0, 0)) ∧ Below w.heap.size w w' := AnyPu.strconv_toError_range sh_laysPu17 fn s base bits ev w hlim hv hev
def sh_laysPu14_ren : Go.Shelf.Ren := ⟨fun | 14 => 115 | 16 => 142 | 17 => 131 | 19 => 160 | 20 => 161 | 21 => 150 | 22 => 151 | 23 => 152 | 24 => 153 | 25 => 166 | 27 => 167 | 26 => 155 | 28 => 182 | 29 => 209 | 30 => 224 | 31 => 225 | 32 => 226 | 33 => 227 | 35 => 198 | 34 => 239 | 36 => 202 | 37 => 240 | 38 => 241 | 39 => 246 | 40 => 247 | n => n, fun | 9 => 9 | 3 => 3 | 22 => 49 | 24 => 63 | 25 => 134 | 4 => 4 | 34 => 170 | 5 => 5 | 36 => 105 | 37 => 22 | 0 => 0 | 39 => 171 | 21 => 21 | 44 => 189 | 47 => 220 | 50 => 193 | 48 => 191 | 2 => 2 | 52 => 249 | 55 => 250 | 59 => 257 | 60 => 102 | 20 => 20 | 61 => 258 | 65 => 264 | 66 => 150 | 67 => 95 | n => n, fun | 0 => 3 | 1 => 4 | 2 => 14 | 3 => 15 | 4 => 16 | n => n⟩
theorem sh_laysPu14 : Go.Proofs.LaysPu.n14 Tryz.prog sh_laysPu14_ren := {
  mixed := by kernel_rfl
  f14 := Tryz.func115.trans (congrArg some (by kernel_rfl))
  f16 := Tryz.func142.trans (congrArg some (by kernel_rfl))
  f17 := Tryz.func131.trans (congrArg some (by kernel_rfl))
  f19 := Tryz.func160.trans (congrArg some (by kernel_rfl))
  f20 := Tryz.func161.trans (congrArg some (by kernel_rfl))
  f21 := Tryz.func150.trans (congrArg some (by kernel_rfl))
  f22 := Tryz.func151.trans (congrArg some (by kernel_rfl))
  f23 := Tryz.func152.trans (congrArg some (by kernel_rfl))
  f24 := Tryz.func153.trans (congrArg some (by kernel_rfl))
  f25 := Tryz.func166.trans (congrArg some (by kernel_rfl))
  f26 := Tryz.func155.trans (congrArg some (by kernel_rfl))
  f27 := Tryz.func167.trans (congrArg some (by kernel_rfl))
  f28 := Tryz.func182.trans (congrArg some (by kernel_rfl))
  f29 := Tryz.func209.trans (congrArg some (by kernel_rfl))
  f30 := Tryz.func224.trans (congrArg some (by kernel_rfl))
  f31 := Tryz.func225.trans (congrArg some (by kernel_rfl))
  f32 := Tryz.func226.trans (congrArg some (by kernel_rfl))
  f33 := Tryz.func227.trans (congrArg some (by kernel_rfl))
  f34 := Tryz.func239.trans (congrArg some (by kernel_rfl))
  f35 := Tryz.func198.trans (congrArg some (by kernel_rfl))
  f36 := Tryz.func202.trans (congrArg some (by kernel_rfl))
  f37 := Tryz.func240.trans (congrArg some (by kernel_rfl))
  f38 := Tryz.func241.trans (congrArg some (by kernel_rfl))
  f39 := Tryz.func246.trans (congrArg some (by kernel_rfl))
  f40 := Tryz.func247.trans (congrArg some (by kernel_rfl))
  t0 := Tryz.underlying0
  a0 := Tryz.isAgg0
  z0 := Tryz.sizeOf0
  v0 := Tryz.zeroValue0
  i0 := by kernel_rfl
  t2 := Tryz.underlying2
  a2 := Tryz.isAgg2
  z2 := Tryz.sizeOf2
  v2 := Tryz.zeroValue2
  i2 := by kernel_rfl
  t3 := Tryz.underlying3
  a3 := Tryz.isAgg3
  z3 := Tryz.sizeOf3
  v3 := Tryz.zeroValue3
  i3 := by kernel_rfl
  t4 := Tryz.underlying4
  a4 := Tryz.isAgg4
  z4 := Tryz.sizeOf4
  v4 := Tryz.zeroValue4
  i4 := by kernel_rfl
  t5 := Tryz.underlying5
  a5 := Tryz.isAgg5
  z5 := Tryz.sizeOf5
  v5 := Tryz.zeroValue5
  i5 := by kernel_rfl
  t9 := Tryz.underlying9
  a9 := Tryz.isAgg9
  z9 := Tryz.sizeOf9
  v9 := Tryz.zeroValue9
  i9 := by kernel_rfl
  t20 := Tryz.underlying20
  a20 := Tryz.isAgg20
  z20 := Tryz.sizeOf20
  v20 := Tryz.zeroValue20
  i20 := by kernel_rfl
  t21 := Tryz.underlying21
  a21 := Tryz.isAgg21
  z21 := Tryz.sizeOf21
  v21 := Tryz.zeroValue21
  i21 := by kernel_rfl
  t22 := Tryz.underlying49
  a22 := Tryz.isAgg49
  z22 := Tryz.sizeOf49
  v22 := Tryz.zeroValue49
  i22 := by kernel_rfl
  t24 := Tryz.underlying63
  a24 := Tryz.isAgg63
  z24 := Tryz.sizeOf63
  v24 := Tryz.zeroValue63
  i24 := by kernel_rfl
  t25 := Tryz.underlying134
  a25 := Tryz.isAgg134
  z25 := Tryz.sizeOf134
  v25 := Tryz.zeroValue134
  i25 := by kernel_rfl
  t34 := Tryz.underlying170
  a34 := Tryz.isAgg170
  z34 := Tryz.sizeOf170
  v34 := Tryz.zeroValue170
  i34 := by kernel_rfl
  c34 := by kernel_rfl
  t36 := Tryz.underlying105
  a36 := Tryz.isAgg105
  z36 := Tryz.sizeOf105
  v36 := Tryz.zeroValue105
  i36 := by kernel_rfl
  t37 := Tryz.underlying22
  a37 := Tryz.isAgg22
  z37 := Tryz.sizeOf22
  v37 := Tryz.zeroValue22
  i37 := by kernel_rfl
  t39 := Tryz.underlying171
  a39 := Tryz.isAgg171
  z39 := Tryz.sizeOf171
  v39 := Tryz.zeroValue171
  i39 := by kernel_rfl
  t44 := Tryz.underlying189
  a44 := Tryz.isAgg189
  z44 := Tryz.sizeOf189
  v44 := Tryz.zeroValue189
  i44 := by kernel_rfl
  t47 := Tryz.underlying220
  a47 := Tryz.isAgg220
  z47 := Tryz.sizeOf220
  v47 := Tryz.zeroValue220
  i47 := by kernel_rfl
  t48 := Tryz.underlying191
  a48 := Tryz.isAgg191
  z48 := Tryz.sizeOf191
  v48 := Tryz.zeroValue191
  i48 := by kernel_rfl
  t50 := Tryz.underlying193
  a50 := Tryz.isAgg193
  z50 := Tryz.sizeOf193
  v50 := Tryz.zeroValue193
  i50 := by kernel_rfl
  t52 := Tryz.underlying249
  a52 := Tryz.isAgg249
  z52 := Tryz.sizeOf249
  v52 := Tryz.zeroValue249
  i52 := by kernel_rfl
  t55 := Tryz.underlying250
  a55 := Tryz.isAgg250
  z55 := Tryz.sizeOf250
  v55 := Tryz.zeroValue250
  i55 := by kernel_rfl
  t59 := Tryz.underlying257
  a59 := Tryz.isAgg257
  z59 := Tryz.sizeOf257
  v59 := Tryz.zeroValue257
  i59 := by kernel_rfl
  t60 := Tryz.underlying102
  a60 := Tryz.isAgg102
  z60 := Tryz.sizeOf102
  v60 := Tryz.zeroValue102
  i60 := by kernel_rfl
  t61 := Tryz.underlying258
  a61 := Tryz.isAgg258
  z61 := Tryz.sizeOf258
  t65 := Tryz.underlying264
  a65 := Tryz.isAgg264
  z65 := Tryz.sizeOf264
  v65 := Tryz.zeroValue264
  i65 := by kernel_rfl
  t66 := Tryz.underlying150
  a66 := Tryz.isAgg150
  z66 := Tryz.sizeOf150
  v66 := Tryz.zeroValue150
  i66 := by kernel_rfl
  t67 := Tryz.underlying95
  a67 := Tryz.isAgg95
  z67 := Tryz.sizeOf95
  v67 := Tryz.zeroValue95
  i67 := by kernel_rfl
  g0 := by kernel_rfl
  m0 := by kernel_rfl
  g1 := by kernel_rfl
  m1 := by kernel_rfl
  g2 := by kernel_rfl
  m2 := by kernel_rfl
  g3 := by kernel_rfl
  m3 := by kernel_rfl
  g4 := by kernel_rfl
  m4 := by kernel_rfl }
end Go.Proofs.YtaecbclonmhbcaaGreatDoor
