/- knownLexer's number: strconv.ParseInt("12", 10, 64). strconv.ParseUint(s, 10, n) at every text: a number, no error or a new *NumError. Printed by gen_pui.py. strconv.ParseInt: the library shelf laid at this program (written by the kit lay-plain tool). strconv.ParseInt(s, 10, n) at every text: a number, no error or a new *NumError. Printed by gen_psi.py. (*strconv.NumError).Error, at the errors that strconv gives: it returns some text. impl.owned and impl.lexer. ParseFloat over whatever bytes. -/
import Derived.Test.YtaecbclonmhbcaaGreatDoorP27
import Derived.LoopN
import Derived.Test.YtaecbclonmhbcaaGreatDoorP24
import Derived.Lib.AtoiErrMem
import Derived.Shelf.Strconv.ParseIntPublic10
import Derived.Test.YtaecbclonmhbcaaGreatDoorProg
import Derived.Test.YtaecbclonmhbcaaGreatDoorP14
import Derived.Lib.SlFresh
import Derived.OwnWalk
import Derived.Test.YtaecbclonmhbcaaGreatDoorP23
set_option linter.unusedVariables false
set_option linter.unusedSimpArgs false
namespace Go.Proofs.YtaecbclonmhbcaaGreatDoor
open Go.RowKit
set_option maxHeartbeats 4000000 in
set_option maxRecDepth 100000 in
theorem puint_12 (w : World) :
    Calls Tryz.prog 142 #[.string ⟨#[49, 50]⟩, .int .i64 10, .int .i64 64] w fun e w' => e = .returned (.tuple #[.int .u64 12, .nilIface]) ∧ w.grownBy w' none := by
  have hcv := run_bytes_of_string (P := Tryz.prog) w 9 22 5 ⟨#[49, 50]⟩ Tryz.underlying9 Tryz.underlying22 Tryz.underlying5
  have hge := grownCap_ge w (ByteArray.mk #[49, 50]).size 0 5
  generalize grownCap w (ByteArray.mk #[49, 50]).size 0 5 = cp at hcv hge
  have k0 : (w.drew.alloc (.cells (bytesRow ⟨#[49, 50]⟩ cp) 5 ((bytesRow ⟨#[49, 50]⟩ cp).size, (bytesRow ⟨#[49, 50]⟩ cp).size + 1))).cell? ⟨w.heap.size, 0, none⟩ = some (.int .u8 49) := cell_of_heap (heap_alloc_new w.drew _) 0 (bytesRow_at _ _ 0 (by decide))
  have k1 : (w.drew.alloc (.cells (bytesRow ⟨#[49, 50]⟩ cp) 5 ((bytesRow ⟨#[49, 50]⟩ cp).size, (bytesRow ⟨#[49, 50]⟩ cp).size + 1))).cell? ⟨w.heap.size, 1, none⟩ = some (.int .u8 50) := cell_of_heap (heap_alloc_new w.drew _) 1 (bytesRow_at _ _ 1 (by decide))
  have hg : w.grownBy (w.drew.alloc (.cells (bytesRow ⟨#[49, 50]⟩ cp) 5 ((bytesRow ⟨#[49, 50]⟩ cp).size, (bytesRow ⟨#[49, 50]⟩ cp).size + 1))) none := ⟨rfl, rfl, rfl, by simp, fun k hk _ => heap_alloc_lt (w := w.drew) hk⟩
  generalize w.drew.alloc (.cells (bytesRow ⟨#[49, 50]⟩ cp) 5 ((bytesRow ⟨#[49, 50]⟩ cp).size, (bytesRow ⟨#[49, 50]⟩ cp).size + 1)) = w1 at hcv k0 k1 hg
  have HG := Lib.hid hg
  clear hg
  go_enter Tryz.func142, Tryz.ntmps142
  go_wp2
  refine wp_loop_rounds 3 ?_
  rw [rounds_succ]
  go_wp2
  rw [rounds_succ]
  go_wp2
  rw [rounds_succ]
  go_wp2
  go_ret2
  exact ⟨rfl, HG.out⟩
set_option maxHeartbeats 4000000 in
set_option maxRecDepth 100000 in
theorem pint_12 (w : World) :
    Calls Tryz.prog 143 #[.string ⟨#[49, 50]⟩, .int .i64 10, .int .i64 64] w fun e w' => e = .returned (.tuple #[.int .i64 12, .nilIface]) ∧ w.grownBy w' none := by
  go_enter Tryz.func143, Tryz.ntmps143
  go_wp2_with (go_at_call 142; refine (puint_12 _).mono ?_; rintro e w1 ⟨rfl, hg⟩)
  go_ret2
  exact ⟨rfl, hg⟩
set_option maxHeartbeats 4000000 in
set_option maxRecDepth 100000 in
theorem parseInt_12 (w : World) :
    Calls Tryz.prog 116 #[.string ⟨#[49, 50]⟩, .int .i64 10, .int .i64 64] w fun e w' => e = .returned (.tuple #[.int .i64 12, .nilIface]) ∧ w.grownBy w' none := by
  go_enter Tryz.func116, Tryz.ntmps116
  go_wp2_with (go_at_call 143; refine (pint_12 _).mono ?_; rintro e w1 ⟨rfl, hg⟩)
  go_ret2
  exact ⟨rfl, hg⟩
end Go.Proofs.YtaecbclonmhbcaaGreatDoor

namespace Go.Proofs.YtaecbclonmhbcaaGreatDoor
open Go.RowKit
def PuV (s : ByteArray) (w : World) (e : Ending) (w' : World) : Prop := ∃ (u : Nat) (er : Value), e = .returned (.tuple #[.int .u64 u, er]) ∧ NErr s w w' er ∧ Kept w.heap.size w w'
theorem kept_bytesWorld (w : World) (s : ByteArray) : Kept w.heap.size w (Lib.bytesWorld w 5 s) := Kept.of_below (Lib.bytesWorld_below w 5 s) rfl
theorem parseUint8_any (s : ByteArray) (w : World) (hs : s.size ≤ 100000) (h3 : ∃ te pe, w.cell? ⟨3, 0, none⟩ = some (.iface te pe)) (h4 : ∃ te pe, w.cell? ⟨4, 0, none⟩ = some (.iface te pe)) :
    Calls Tryz.prog 115 #[.string s, .int .i64 10, .int .i64 8] w (PuV s w) := by
  obtain ⟨t3, p3, c3⟩ := h3
  obtain ⟨t4, p4, c4⟩ := h4
  cases h : Lib.parseUintB 8 s.data.toList
  · rename_i u
    exact (Any.strconv_ParseUint_10_at8_ok sh_laysPu14 s (by omega) u h w).mono fun e w' h => ⟨u, _, h.1, .inl rfl, by rcases h.2 with h | h; exact h ▸ Kept.refl _ _; exact h ▸ kept_bytesWorld w s⟩
  · exact (Any.strconv_ParseUint_10_at8_syntax sh_laysPu14 s (by omega) h _ w c3 (.inr ⟨_, _, rfl⟩)).mono fun e w' ⟨N, a1, a2, a3, a4⟩ => ⟨0, _, a1, .inr ⟨N, 3, _, _, rfl, a2, a3, by decide, .inl rfl, (Kept.of_below a4 rfl).old (Nat.le_refl _) c3⟩, Kept.of_below a4 rfl⟩
  · exact (Any.strconv_ParseUint_10_at8_range sh_laysPu14 s (by omega) h _ w c4 (.inr ⟨_, _, rfl⟩)).mono fun e w' ⟨N, a1, a2, a3, a4⟩ => ⟨255, _, a1, .inr ⟨N, 4, _, _, rfl, a2, a3, by decide, .inr rfl, (Kept.of_below a4 rfl).old (Nat.le_refl _) c4⟩, Kept.of_below a4 rfl⟩
theorem parseUint16_any (s : ByteArray) (w : World) (hs : s.size ≤ 100000) (h3 : ∃ te pe, w.cell? ⟨3, 0, none⟩ = some (.iface te pe)) (h4 : ∃ te pe, w.cell? ⟨4, 0, none⟩ = some (.iface te pe)) :
    Calls Tryz.prog 115 #[.string s, .int .i64 10, .int .i64 16] w (PuV s w) := by
  obtain ⟨t3, p3, c3⟩ := h3
  obtain ⟨t4, p4, c4⟩ := h4
  cases h : Lib.parseUintB 16 s.data.toList
  · rename_i u
    exact (Any.strconv_ParseUint_10_at16_ok sh_laysPu14 s (by omega) u h w).mono fun e w' h => ⟨u, _, h.1, .inl rfl, by rcases h.2 with h | h; exact h ▸ Kept.refl _ _; exact h ▸ kept_bytesWorld w s⟩
  · exact (Any.strconv_ParseUint_10_at16_syntax sh_laysPu14 s (by omega) h _ w c3 (.inr ⟨_, _, rfl⟩)).mono fun e w' ⟨N, a1, a2, a3, a4⟩ => ⟨0, _, a1, .inr ⟨N, 3, _, _, rfl, a2, a3, by decide, .inl rfl, (Kept.of_below a4 rfl).old (Nat.le_refl _) c3⟩, Kept.of_below a4 rfl⟩
  · exact (Any.strconv_ParseUint_10_at16_range sh_laysPu14 s (by omega) h _ w c4 (.inr ⟨_, _, rfl⟩)).mono fun e w' ⟨N, a1, a2, a3, a4⟩ => ⟨65535, _, a1, .inr ⟨N, 4, _, _, rfl, a2, a3, by decide, .inr rfl, (Kept.of_below a4 rfl).old (Nat.le_refl _) c4⟩, Kept.of_below a4 rfl⟩
theorem parseUint32_any (s : ByteArray) (w : World) (hs : s.size ≤ 100000) (h3 : ∃ te pe, w.cell? ⟨3, 0, none⟩ = some (.iface te pe)) (h4 : ∃ te pe, w.cell? ⟨4, 0, none⟩ = some (.iface te pe)) :
    Calls Tryz.prog 115 #[.string s, .int .i64 10, .int .i64 32] w (PuV s w) := by
  obtain ⟨t3, p3, c3⟩ := h3
  obtain ⟨t4, p4, c4⟩ := h4
  cases h : Lib.parseUintB 32 s.data.toList
  · rename_i u
    exact (Any.strconv_ParseUint_10_at32_ok sh_laysPu14 s (by omega) u h w).mono fun e w' h => ⟨u, _, h.1, .inl rfl, by rcases h.2 with h | h; exact h ▸ Kept.refl _ _; exact h ▸ kept_bytesWorld w s⟩
  · exact (Any.strconv_ParseUint_10_at32_syntax sh_laysPu14 s (by omega) h _ w c3 (.inr ⟨_, _, rfl⟩)).mono fun e w' ⟨N, a1, a2, a3, a4⟩ => ⟨0, _, a1, .inr ⟨N, 3, _, _, rfl, a2, a3, by decide, .inl rfl, (Kept.of_below a4 rfl).old (Nat.le_refl _) c3⟩, Kept.of_below a4 rfl⟩
  · exact (Any.strconv_ParseUint_10_at32_range sh_laysPu14 s (by omega) h _ w c4 (.inr ⟨_, _, rfl⟩)).mono fun e w' ⟨N, a1, a2, a3, a4⟩ => ⟨4294967295, _, a1, .inr ⟨N, 4, _, _, rfl, a2, a3, by decide, .inr rfl, (Kept.of_below a4 rfl).old (Nat.le_refl _) c4⟩, Kept.of_below a4 rfl⟩
theorem parseUint64_any (s : ByteArray) (w : World) (hs : s.size ≤ 100000) (h3 : ∃ te pe, w.cell? ⟨3, 0, none⟩ = some (.iface te pe)) (h4 : ∃ te pe, w.cell? ⟨4, 0, none⟩ = some (.iface te pe)) :
    Calls Tryz.prog 115 #[.string s, .int .i64 10, .int .i64 64] w (PuV s w) := by
  obtain ⟨t3, p3, c3⟩ := h3
  obtain ⟨t4, p4, c4⟩ := h4
  cases h : Lib.parseUintB 64 s.data.toList
  · rename_i u
    exact (Any.strconv_ParseUint_10_at64_ok sh_laysPu14 s (by omega) u h w).mono fun e w' h => ⟨u, _, h.1, .inl rfl, by rcases h.2 with h | h; exact h ▸ Kept.refl _ _; exact h ▸ kept_bytesWorld w s⟩
  · exact (Any.strconv_ParseUint_10_at64_syntax sh_laysPu14 s (by omega) h _ w c3 (.inr ⟨_, _, rfl⟩)).mono fun e w' ⟨N, a1, a2, a3, a4⟩ => ⟨0, _, a1, .inr ⟨N, 3, _, _, rfl, a2, a3, by decide, .inl rfl, (Kept.of_below a4 rfl).old (Nat.le_refl _) c3⟩, Kept.of_below a4 rfl⟩
  · exact (Any.strconv_ParseUint_10_at64_range sh_laysPu14 s (by omega) h _ w c4 (.inr ⟨_, _, rfl⟩)).mono fun e w' ⟨N, a1, a2, a3, a4⟩ => ⟨18446744073709551615, _, a1, .inr ⟨N, 4, _, _, rfl, a2, a3, by decide, .inr rfl, (Kept.of_below a4 rfl).old (Nat.le_refl _) c4⟩, Kept.of_below a4 rfl⟩
end Go.Proofs.YtaecbclonmhbcaaGreatDoor

namespace Go.Proofs.YtaecbclonmhbcaaGreatDoor
open Go.Shelf
def sh_laysC174_ren : Go.Shelf.Ren := ⟨fun | 174 => 116 | 247 => 143 | 245 => 131 | 287 => 142 | 279 => 150 | 280 => 151 | 281 => 152 | 282 => 153 | 321 => 160 | 322 => 161 | 316 => 166 | 171 => 167 | 205 => 155 | 243 => 182 | 246 => 209 | 283 => 224 | 284 => 225 | 285 => 226 | 286 => 227 | 129 => 198 | 317 => 239 | 318 => 202 | 319 => 240 | 320 => 241 | 337 => 246 | 338 => 247 | n => n, fun | 9 => 9 | 3 => 3 | 2 => 2 | 75 => 63 | 85 => 136 | 4 => 4 | 167 => 170 | 5 => 5 | 53 => 49 | 175 => 134 | 46 => 105 | 168 => 171 | 37 => 22 | 0 => 0 | 210 => 189 | 21 => 21 | 127 => 220 | 145 => 193 | 143 => 191 | 171 => 249 | 173 => 250 | 212 => 257 | 51 => 102 | 20 => 20 | 213 => 258 | 232 => 264 | 233 => 150 | 80 => 95 | n => n, fun | 15 => 3 | 16 => 4 | 17 => 14 | 18 => 15 | 19 => 16 | n => n⟩
theorem sh_laysC174 : Go.Proofs.LaysC.n174 Tryz.prog sh_laysC174_ren := {
  mixed := by kernel_rfl
  f129 := Tryz.func198.trans (congrArg some (by kernel_rfl))
  f171 := Tryz.func167.trans (congrArg some (by kernel_rfl))
  f174 := Tryz.func116.trans (congrArg some (by kernel_rfl))
  f205 := Tryz.func155.trans (congrArg some (by kernel_rfl))
  f243 := Tryz.func182.trans (congrArg some (by kernel_rfl))
  f245 := Tryz.func131.trans (congrArg some (by kernel_rfl))
  f246 := Tryz.func209.trans (congrArg some (by kernel_rfl))
  f247 := Tryz.func143.trans (congrArg some (by kernel_rfl))
  f279 := Tryz.func150.trans (congrArg some (by kernel_rfl))
  f280 := Tryz.func151.trans (congrArg some (by kernel_rfl))
  f281 := Tryz.func152.trans (congrArg some (by kernel_rfl))
  f282 := Tryz.func153.trans (congrArg some (by kernel_rfl))
  f283 := Tryz.func224.trans (congrArg some (by kernel_rfl))
  f284 := Tryz.func225.trans (congrArg some (by kernel_rfl))
  f285 := Tryz.func226.trans (congrArg some (by kernel_rfl))
  f286 := Tryz.func227.trans (congrArg some (by kernel_rfl))
  f287 := Tryz.func142.trans (congrArg some (by kernel_rfl))
  f316 := Tryz.func166.trans (congrArg some (by kernel_rfl))
  f317 := Tryz.func239.trans (congrArg some (by kernel_rfl))
  f318 := Tryz.func202.trans (congrArg some (by kernel_rfl))
  f319 := Tryz.func240.trans (congrArg some (by kernel_rfl))
  f320 := Tryz.func241.trans (congrArg some (by kernel_rfl))
  f321 := Tryz.func160.trans (congrArg some (by kernel_rfl))
  f322 := Tryz.func161.trans (congrArg some (by kernel_rfl))
  f337 := Tryz.func246.trans (congrArg some (by kernel_rfl))
  f338 := Tryz.func247.trans (congrArg some (by kernel_rfl))
  t0 := Tryz.underlying0
  a0 := Tryz.isAgg0
  z0 := Tryz.sizeOf0
  v0 := Tryz.zeroValue0
  t2 := Tryz.underlying2
  a2 := Tryz.isAgg2
  z2 := Tryz.sizeOf2
  v2 := Tryz.zeroValue2
  t3 := Tryz.underlying3
  a3 := Tryz.isAgg3
  z3 := Tryz.sizeOf3
  v3 := Tryz.zeroValue3
  t4 := Tryz.underlying4
  a4 := Tryz.isAgg4
  z4 := Tryz.sizeOf4
  v4 := Tryz.zeroValue4
  t5 := Tryz.underlying5
  a5 := Tryz.isAgg5
  z5 := Tryz.sizeOf5
  v5 := Tryz.zeroValue5
  t9 := Tryz.underlying9
  a9 := Tryz.isAgg9
  z9 := Tryz.sizeOf9
  v9 := Tryz.zeroValue9
  t20 := Tryz.underlying20
  a20 := Tryz.isAgg20
  z20 := Tryz.sizeOf20
  v20 := Tryz.zeroValue20
  t21 := Tryz.underlying21
  a21 := Tryz.isAgg21
  z21 := Tryz.sizeOf21
  v21 := Tryz.zeroValue21
  t37 := Tryz.underlying22
  a37 := Tryz.isAgg22
  z37 := Tryz.sizeOf22
  v37 := Tryz.zeroValue22
  t46 := Tryz.underlying105
  a46 := Tryz.isAgg105
  z46 := Tryz.sizeOf105
  v46 := Tryz.zeroValue105
  t51 := Tryz.underlying102
  a51 := Tryz.isAgg102
  z51 := Tryz.sizeOf102
  v51 := Tryz.zeroValue102
  t53 := Tryz.underlying49
  a53 := Tryz.isAgg49
  z53 := Tryz.sizeOf49
  v53 := Tryz.zeroValue49
  t75 := Tryz.underlying63
  a75 := Tryz.isAgg63
  z75 := Tryz.sizeOf63
  v75 := Tryz.zeroValue63
  t85 := Tryz.underlying136
  a85 := Tryz.isAgg136
  z85 := Tryz.sizeOf136
  v85 := Tryz.zeroValue136
  t127 := Tryz.underlying220
  a127 := Tryz.isAgg220
  z127 := Tryz.sizeOf220
  v127 := Tryz.zeroValue220
  t143 := Tryz.underlying191
  a143 := Tryz.isAgg191
  z143 := Tryz.sizeOf191
  v143 := Tryz.zeroValue191
  t145 := Tryz.underlying193
  a145 := Tryz.isAgg193
  z145 := Tryz.sizeOf193
  v145 := Tryz.zeroValue193
  t167 := Tryz.underlying170
  a167 := Tryz.isAgg170
  z167 := Tryz.sizeOf170
  v167 := Tryz.zeroValue170
  t168 := Tryz.underlying171
  a168 := Tryz.isAgg171
  z168 := Tryz.sizeOf171
  v168 := Tryz.zeroValue171
  t171 := Tryz.underlying249
  a171 := Tryz.isAgg249
  z171 := Tryz.sizeOf249
  v171 := Tryz.zeroValue249
  t173 := Tryz.underlying250
  a173 := Tryz.isAgg250
  z173 := Tryz.sizeOf250
  v173 := Tryz.zeroValue250
  t175 := Tryz.underlying134
  a175 := Tryz.isAgg134
  z175 := Tryz.sizeOf134
  v175 := Tryz.zeroValue134
  t210 := Tryz.underlying189
  a210 := Tryz.isAgg189
  z210 := Tryz.sizeOf189
  v210 := Tryz.zeroValue189
  t212 := Tryz.underlying257
  a212 := Tryz.isAgg257
  z212 := Tryz.sizeOf257
  v212 := Tryz.zeroValue257
  t213 := Tryz.underlying258
  a213 := Tryz.isAgg258
  z213 := Tryz.sizeOf258
  t232 := Tryz.underlying264
  a232 := Tryz.isAgg264
  z232 := Tryz.sizeOf264
  v232 := Tryz.zeroValue264
  t233 := Tryz.underlying150
  a233 := Tryz.isAgg150
  z233 := Tryz.sizeOf150
  v233 := Tryz.zeroValue150
  g15 := by kernel_rfl
  g16 := by kernel_rfl
  g17 := by kernel_rfl
  g18 := by kernel_rfl
  g19 := by kernel_rfl
  t80 := Tryz.underlying95
  a80 := Tryz.isAgg95
  z80 := Tryz.sizeOf95
  v80 := Tryz.zeroValue95
  i0 := by kernel_rfl
  i2 := by kernel_rfl
  i3 := by kernel_rfl
  i4 := by kernel_rfl
  i5 := by kernel_rfl
  i9 := by kernel_rfl
  i20 := by kernel_rfl
  i21 := by kernel_rfl
  i37 := by kernel_rfl
  i46 := by kernel_rfl
  i51 := by kernel_rfl
  i53 := by kernel_rfl
  i75 := by kernel_rfl
  i80 := by kernel_rfl
  i85 := by kernel_rfl
  i127 := by kernel_rfl
  i143 := by kernel_rfl
  i145 := by kernel_rfl
  i167 := by kernel_rfl
  i168 := by kernel_rfl
  i171 := by kernel_rfl
  i173 := by kernel_rfl
  i175 := by kernel_rfl
  i210 := by kernel_rfl
  i212 := by kernel_rfl
  i232 := by kernel_rfl
  i233 := by kernel_rfl
  m15 := by kernel_rfl
  m16 := by kernel_rfl
  m17 := by kernel_rfl
  m18 := by kernel_rfl
  m19 := by kernel_rfl
  c0 := by kernel_rfl
  c2 := by kernel_rfl
  c3 := by kernel_rfl
  c4 := by kernel_rfl
  c5 := by kernel_rfl
  c9 := by kernel_rfl
  c20 := by kernel_rfl
  c21 := by kernel_rfl
  c37 := by kernel_rfl
  c46 := by kernel_rfl
  c51 := by kernel_rfl
  c53 := by kernel_rfl
  c75 := by kernel_rfl
  c80 := by kernel_rfl
  c85 := by kernel_rfl
  c127 := by kernel_rfl
  c143 := by kernel_rfl
  c145 := by kernel_rfl
  c167 := by kernel_rfl
  c168 := by kernel_rfl
  c171 := by kernel_rfl
  c173 := by kernel_rfl
  c175 := by kernel_rfl
  c210 := by kernel_rfl
  c212 := by kernel_rfl
  c213 := by kernel_rfl
  c232 := by kernel_rfl
  c233 := by kernel_rfl }
end Go.Proofs.YtaecbclonmhbcaaGreatDoor

namespace Go.Proofs.YtaecbclonmhbcaaGreatDoor
open Go.RowKit
def PsV (s : ByteArray) (w : World) (e : Ending) (w' : World) : Prop := ∃ (u : Int) (er : Value), e = .returned (.tuple #[.int .i64 u, er]) ∧ NErr s w w' er ∧ Kept w.heap.size w w'
theorem parseInt8_any (s : ByteArray) (w : World) (hs : s.size ≤ 100000) (h3 : ∃ te pe, w.cell? ⟨3, 0, none⟩ = some (.iface te pe)) (h4 : ∃ te pe, w.cell? ⟨4, 0, none⟩ = some (.iface te pe)) :
    Calls Tryz.prog 116 #[.string s, .int .i64 10, .int .i64 8] w (PsV s w) := by
  obtain ⟨t3, p3, c3⟩ := h3
  obtain ⟨t4, p4, c4⟩ := h4
  cases h : Lib.parseIntB 8 s.data.toList
  · rename_i u
    exact (Any.strconv_ParseInt_10_at8_ok sh_laysC174 s (by omega) u h w).mono fun e w' h => ⟨u, _, h.1, .inl rfl, by rcases h.2 with h | ⟨t, h⟩; exact h ▸ Kept.refl _ _; exact h ▸ kept_bytesWorld w t⟩
  · exact (Any.strconv_ParseInt_10_at8_syntax sh_laysC174 s (by omega) h _ w c3 (.inr ⟨_, _, rfl⟩)).mono fun e w' ⟨N, a1, a2, a3, a4⟩ => ⟨_, _, a1, .inr ⟨N, 3, _, _, rfl, a2, a3, by decide, .inl rfl, (Kept.of_below a4 rfl).old (Nat.le_refl _) c3⟩, Kept.of_below a4 rfl⟩
  · exact (Any.strconv_ParseInt_10_at8_range sh_laysC174 s (by omega) h _ w c4 (.inr ⟨_, _, rfl⟩)).mono fun e w' ⟨N, a1, a2, a3, a4⟩ => ⟨_, _, a1, .inr ⟨N, 4, _, _, rfl, a2, a3, by decide, .inr rfl, (Kept.of_below a4 rfl).old (Nat.le_refl _) c4⟩, Kept.of_below a4 rfl⟩
theorem parseInt16_any (s : ByteArray) (w : World) (hs : s.size ≤ 100000) (h3 : ∃ te pe, w.cell? ⟨3, 0, none⟩ = some (.iface te pe)) (h4 : ∃ te pe, w.cell? ⟨4, 0, none⟩ = some (.iface te pe)) :
    Calls Tryz.prog 116 #[.string s, .int .i64 10, .int .i64 16] w (PsV s w) := by
  obtain ⟨t3, p3, c3⟩ := h3
  obtain ⟨t4, p4, c4⟩ := h4
  cases h : Lib.parseIntB 16 s.data.toList
  · rename_i u
    exact (Any.strconv_ParseInt_10_at16_ok sh_laysC174 s (by omega) u h w).mono fun e w' h => ⟨u, _, h.1, .inl rfl, by rcases h.2 with h | ⟨t, h⟩; exact h ▸ Kept.refl _ _; exact h ▸ kept_bytesWorld w t⟩
  · exact (Any.strconv_ParseInt_10_at16_syntax sh_laysC174 s (by omega) h _ w c3 (.inr ⟨_, _, rfl⟩)).mono fun e w' ⟨N, a1, a2, a3, a4⟩ => ⟨_, _, a1, .inr ⟨N, 3, _, _, rfl, a2, a3, by decide, .inl rfl, (Kept.of_below a4 rfl).old (Nat.le_refl _) c3⟩, Kept.of_below a4 rfl⟩
  · exact (Any.strconv_ParseInt_10_at16_range sh_laysC174 s (by omega) h _ w c4 (.inr ⟨_, _, rfl⟩)).mono fun e w' ⟨N, a1, a2, a3, a4⟩ => ⟨_, _, a1, .inr ⟨N, 4, _, _, rfl, a2, a3, by decide, .inr rfl, (Kept.of_below a4 rfl).old (Nat.le_refl _) c4⟩, Kept.of_below a4 rfl⟩
theorem parseInt32_any (s : ByteArray) (w : World) (hs : s.size ≤ 100000) (h3 : ∃ te pe, w.cell? ⟨3, 0, none⟩ = some (.iface te pe)) (h4 : ∃ te pe, w.cell? ⟨4, 0, none⟩ = some (.iface te pe)) :
    Calls Tryz.prog 116 #[.string s, .int .i64 10, .int .i64 32] w (PsV s w) := by
  obtain ⟨t3, p3, c3⟩ := h3
  obtain ⟨t4, p4, c4⟩ := h4
  cases h : Lib.parseIntB 32 s.data.toList
  · rename_i u
    exact (Any.strconv_ParseInt_10_at32_ok sh_laysC174 s (by omega) u h w).mono fun e w' h => ⟨u, _, h.1, .inl rfl, by rcases h.2 with h | ⟨t, h⟩; exact h ▸ Kept.refl _ _; exact h ▸ kept_bytesWorld w t⟩
  · exact (Any.strconv_ParseInt_10_at32_syntax sh_laysC174 s (by omega) h _ w c3 (.inr ⟨_, _, rfl⟩)).mono fun e w' ⟨N, a1, a2, a3, a4⟩ => ⟨_, _, a1, .inr ⟨N, 3, _, _, rfl, a2, a3, by decide, .inl rfl, (Kept.of_below a4 rfl).old (Nat.le_refl _) c3⟩, Kept.of_below a4 rfl⟩
  · exact (Any.strconv_ParseInt_10_at32_range sh_laysC174 s (by omega) h _ w c4 (.inr ⟨_, _, rfl⟩)).mono fun e w' ⟨N, a1, a2, a3, a4⟩ => ⟨_, _, a1, .inr ⟨N, 4, _, _, rfl, a2, a3, by decide, .inr rfl, (Kept.of_below a4 rfl).old (Nat.le_refl _) c4⟩, Kept.of_below a4 rfl⟩
theorem parseInt64_any (s : ByteArray) (w : World) (hs : s.size ≤ 100000) (h3 : ∃ te pe, w.cell? ⟨3, 0, none⟩ = some (.iface te pe)) (h4 : ∃ te pe, w.cell? ⟨4, 0, none⟩ = some (.iface te pe)) :
    Calls Tryz.prog 116 #[.string s, .int .i64 10, .int .i64 64] w (PsV s w) := by
  obtain ⟨t3, p3, c3⟩ := h3
  obtain ⟨t4, p4, c4⟩ := h4
  cases h : Lib.parseIntB 64 s.data.toList
  · rename_i u
    exact (Any.strconv_ParseInt_10_at64_ok sh_laysC174 s (by omega) u h w).mono fun e w' h => ⟨u, _, h.1, .inl rfl, by rcases h.2 with h | ⟨t, h⟩; exact h ▸ Kept.refl _ _; exact h ▸ kept_bytesWorld w t⟩
  · exact (Any.strconv_ParseInt_10_at64_syntax sh_laysC174 s (by omega) h _ w c3 (.inr ⟨_, _, rfl⟩)).mono fun e w' ⟨N, a1, a2, a3, a4⟩ => ⟨_, _, a1, .inr ⟨N, 3, _, _, rfl, a2, a3, by decide, .inl rfl, (Kept.of_below a4 rfl).old (Nat.le_refl _) c3⟩, Kept.of_below a4 rfl⟩
  · exact (Any.strconv_ParseInt_10_at64_range sh_laysC174 s (by omega) h _ w c4 (.inr ⟨_, _, rfl⟩)).mono fun e w' ⟨N, a1, a2, a3, a4⟩ => ⟨_, _, a1, .inr ⟨N, 4, _, _, rfl, a2, a3, by decide, .inr rfl, (Kept.of_below a4 rfl).old (Nat.le_refl _) c4⟩, Kept.of_below a4 rfl⟩
end Go.Proofs.YtaecbclonmhbcaaGreatDoor

namespace Go.Proofs.YtaecbclonmhbcaaGreatDoor
open Go.RowKit
set_option maxHeartbeats 1000000 in
theorem errString_any (a : Addr) (t : ByteArray) (w : World) (h : w.cell? a = some (.string t)) : Calls Tryz.prog 282 #[.pointer (some a)] w fun e w' => e = .returned (.string t) ∧ w = w' := by
  obtain ⟨b, o, sp⟩ := a
  obtain rfl : sp = none := World.cell?_spot h
  go_enter Tryz.func282, Tryz.ntmps282
  go_wp2
  go_ret
  exact ⟨rfl, rfl⟩
set_option maxHeartbeats 1000000 in
set_option maxRecDepth 100000 in
theorem numErrText_any {W : World} (hT : Tabs W) {N g : Nat} {fn s : ByteArray} {ev : Value} (hh : W.heap[N]? = some (.cells #[.string fn, .string s, ev] 189 (0, 0))) (hf : fn.size ≤ 1000) (hs : s.size ≤ 100000) (hg : g = 3 ∨ g = 4) (hc : W.cell? ⟨g, 0, none⟩ = some ev) :
    Calls Tryz.prog 279 #[.pointer (some ⟨N, 0, none⟩)] W fun e w' => (∃ t, e = .returned (.string t)) ∧ Below W.heap.size W w' := by
  obtain ⟨a, t, rfl, hta, htz⟩ : ∃ (a : Addr) (t : ByteArray), ev = .iface 191 (.pointer (some a)) ∧ W.cell? a = some (.string t) ∧ t.size ≤ 1000 := by
    rcases hg with rfl | rfl
    · obtain ⟨a, t, h1, h2, h3⟩ := hT.e3
      exact ⟨a, t, Option.some.inj (hc.symm.trans h1), h2, h3⟩
    · obtain ⟨a, t, h1, h2, h3⟩ := hT.e4
      exact ⟨a, t, Option.some.inj (hc.symm.trans h1), h2, h3⟩
  have hsz : (strOfNums (Lib.quoteZ Lib.goPrintTabs s)).size ≤ 10 * s.size + 2 := by rw [strOfNums_size]; exact Lib.quoteZ_length_le _ s
  refine (Any.NumError_Error sh_laysFn4 N 0 fn s (strOfNums (Lib.quoteZ Lib.goPrintTabs s)) t 191 (.pointer (some a)) 282 (.pointer (some a)) W
    (cell_of_heap hh 0 rfl) (cell_of_heap hh 1 rfl) (cell_of_heap hh 2 rfl) (by omega)
    (fun W' h => Any.strconv_Quote sh_lays177 (by kernel_rfl) Lib.goPrintTabs s W' (by omega) (printTabs_below hT.pr h) (Utf8Tabs_below hT.u8 h))
    (fun W' => by show _ = _; kernel_rfl)
    (enters_of Tryz.func282 (by kernel_rfl) rfl)
    (fun W' h => (errString_any a t W' ((Kept.of_below h rfl).old (Nat.le_refl _) hta)).mono fun e w' ⟨h1, h2⟩ => ⟨h1, by rw [← h2]; exact Below.refl _ _⟩)).mono ?_
  rintro e w' ⟨rfl, h⟩
  exact ⟨⟨_, rfl⟩, h⟩
end Go.Proofs.YtaecbclonmhbcaaGreatDoor

namespace Go.Proofs.YtaecbclonmhbcaaGreatDoor
open Go.RowKit
def FreshAt (w w' : World) (v' : Value) (l : List Int) : Prop :=
  w.grownBy w' none ∧ ∀ A : Nat → Prop, (∀ k, A k → k < w.heap.size) → BytesAt w' A v' l
set_option maxHeartbeats 400000 in
theorem owned_any {w : World} {A : Nat → Prop} {v : Value} {l : List Int} (h : BytesAt w A v l) (hl : l.length ≤ 140737488355328) :
    Calls Tryz.prog 36 #[v] w fun e w' => ∃ v', e = .returned v' ∧ FreshAt w w' v' l := by
  obtain ⟨i, hi, hzz⟩ := Option.map_eq_some_iff.1 info5
  simp only [Prod.mk.injEq] at hzz
  obtain ⟨hz, hsz, hby⟩ := hzz
  rcases h with ⟨rfl, rfl⟩ | ⟨bd, o, cap, rfl, hc, hn, hx⟩
  · have hr := run_append_owned_none (P := Tryz.prog) w 0 22 22 5 i 1 Tryz.underlying22 hi (.slice none 0 0) 0 [] (World.ownsRow_nil w 0 5 1)
    go_enter Tryz.func36, Tryz.ntmps36
    go_wp2_with (at_builtin; refine Lib.wpList_append_run_sl _ rfl _ _ 22 rfl _ _ rfl rfl hr ?_)
    go_ret
    exact ⟨_, rfl, ⟨rfl, rfl, rfl, Nat.le_refl _, fun _ _ _ => rfl⟩, fun _ _ => .inl ⟨rfl, rfl⟩⟩
  · by_cases h0 : l.length = 0
    · have hl0 : l = [] := List.eq_nil_of_length_eq_zero h0
      subst hl0
      have hr : (Builtin.append_ #[22, 22] 22 #[.slice none 0 0, .slice (some ⟨bd, o, none⟩) 0 cap]).run Tryz.prog w = .ok (.slice none 0 0) w := by
        simp [Builtin.append_, run_underlying Tryz.underlying22, sizeOf, typeInfo, hi, Builtin.lenOf, Builtin.firstCells, loadCells, loadCellsFrom]
      clear hx
      go_enter Tryz.func36, Tryz.ntmps36
      go_wp2_with (at_builtin; refine Lib.wpList_append_run_sl _ rfl _ _ 22 rfl _ _ rfl rfl hr ?_)
      go_ret
      exact ⟨_, rfl, ⟨rfl, rfl, rfl, Nat.le_refl _, fun _ _ _ => rfl⟩, fun _ _ => .inl ⟨rfl, rfl⟩⟩
    · have hr := run_append_nil (P := Tryz.prog) w 22 22 5 i (.int .u8 0) Tryz.underlying22 hi hz ⟨bd, o, none⟩ l.length cap (l.map (Value.int .u8)) (by rw [List.length_map, hsz, Nat.mul_one])
        (fun j u hj => by
          rw [List.getElem?_map] at hj
          obtain ⟨y, hy, rfl⟩ := Option.map_eq_some_iff.1 hj
          have hjl := (List.getElem?_eq_some_iff.1 hy).1
          have := hx j hjl
          rw [show l.getD j 0 = y by simp [List.getD, hy]] at this
          rw [← this, show (⟨bd, o, none⟩ : Addr).add j = ⟨bd, o + j, none⟩ by unfold Addr.add; split <;> simp_all])
        (by omega) (by omega) (by rw [hby]; omega)
      have hge := grownCap_ge w l.length 0 5
      generalize grownCap w l.length 0 5 = cp at hr hge
      clear hx
      go_enter Tryz.func36, Tryz.ntmps36
      go_wp2_with (at_builtin; refine Lib.wpList_append_run_sl _ rfl _ _ 22 rfl _ _ rfl rfl hr ?_)
      go_ret
      refine ⟨_, rfl, ⟨rfl, rfl, rfl, by simp, fun k hk _ => heap_alloc_lt (w := w.drew) hk⟩, fun A' hA => .inr ⟨w.heap.size, 0, cp, rfl, hge, ⟨fun a => by have := hA _ a; omega, by simp⟩, fun j hj => ?_⟩⟩
      rw [Nat.zero_add]
      refine cell_of_heap (heap_alloc_new w.drew _) j ?_
      have h1 : j < (l.map (Value.int IntKind.u8)).length := by simpa using hj
      rw [Array.getElem?_append_left (by simpa using h1)]
      simp [List.getD, hj]
theorem BytesAt.isSlice {w : World} {A : Nat → Prop} {v : Value} {l : List Int} (h : BytesAt w A v l) : ∃ p c, v = .slice p l.length c := by
  rcases h with ⟨rfl, rfl⟩ | ⟨b, o, c, rfl, -⟩
  · exact ⟨none, 0, rfl⟩
  · exact ⟨_, c, rfl⟩
theorem FreshAt.isSlice {w w' : World} {v' : Value} {l : List Int} (h : FreshAt w w' v' l) : ∃ p c, v' = .slice p l.length c := (h.2 (fun _ => False) (fun _ a => a.elim)).isSlice
theorem BytesAt.grown {w w' : World} {A : Nat → Prop} {v : Value} {l : List Int} {r : Option Nat} (h : BytesAt w A v l) (hg : w.grownBy w' r) (hr : ∀ k, r = some k → A k) : BytesAt w' A v l := by
  rcases h with h | ⟨b, o, cap, hv, hc, hn, hx⟩
  · exact .inl h
  · exact .inr ⟨b, o, cap, hv, hc, ⟨hn.1, Nat.lt_of_lt_of_le hn.2 hg.size⟩, fun i hi => hg.cell (hx i hi) fun e => hn.1 (hr _ e.symm)⟩
theorem BytesAt.other {w : World} {A A' : Nat → Prop} {v : Value} {l : List Int} (h : BytesAt w A v l) (hA : ∀ k, k < w.heap.size → A' k → A k) : BytesAt w A' v l := by
  rcases h with h | ⟨b, o, cap, hv, hc, hn, hx⟩
  · exact .inl h
  · exact .inr ⟨b, o, cap, hv, hc, ⟨fun a => hn.1 (hA _ hn.2 a), hn.2⟩, hx⟩
def Lx.begin (l : List Int) (m : Bool) : Lx := { d := l, start := 0, pos := 0, kind := 0, bv := false, cl := false, tok := [], delim := 0, fst := false, sep := 0, multi := m, err := .nil, errs := [] }
theorem Env.grown {w w' : World} {ae : Sur} {ao : Addr} {r : Option Nat} (h : Env w ae ao) (hg : w.grownBy w' r) (h0 : r ≠ some 0) (h1 : r ≠ some 1) : Env w' ae ao :=
  ⟨hg.cell h.eof (Ne.symm h1), hg.cell h.other (Ne.symm h0), h.ne⟩
set_option maxHeartbeats 400000 in
theorem lexer_any {w : World} {A : Nat → Prop} {v : Value} {l : List Int} {ae : Sur} {ao : Addr} (h : BytesAt w A v l) (hl : l.length ≤ 140737488355328) (he : Env w ae ao) (hh : ∀ k, ae.held k → k < w.heap.size) (h2 : 1 < w.heap.size) (m : Bool) :
    Calls Tryz.prog 25 #[v, .bool m] w fun e w' => ∃ b vd, e = .returned (.pointer (some ⟨b, 0, none⟩)) ∧ w.heap.size ≤ b ∧ w.grownBy w' none ∧ LexAt w' b ae ao (Lx.begin l m) vd (.slice none 0 0) .nilIface (.slice none 0 0) := by
  go_enter Tryz.func25, Tryz.ntmps25
  go_wp2_with (go_at_call 36; refine (owned_any h hl).mono ?_; rintro e w1 ⟨v1, rfl, hgb⟩; obtain ⟨p1, c1, rfl⟩ := hgb.isSlice; obtain ⟨hg, hb⟩ := hgb)
  go_ret
  refine ⟨_, .slice p1 l.length c1, rfl, hg.size, ⟨hg.os, hg.tape, hg.output, Nat.le_trans hg.size (by simp), fun k hk hn => (heap_alloc_lt (Nat.lt_of_lt_of_le hk hg.size)).trans (hg.block k hk hn)⟩, ?_⟩
  have hga : w1.grownBy (w1.alloc (.cells (lxCells (.slice p1 l.length c1) (Lx.begin l m) (.slice none 0 0) .nilIface (.slice none 0 0)) 83)) none := World.grownBy_alloc w1 _ none
  have hs := hg.size
  refine ⟨heap_alloc_new w1 _, ?_, .inl ⟨rfl, rfl⟩, rfl, (he.grown hg (by simp) (by simp)).grown hga (by simp) (by simp), by omega, fun k hk => ?_⟩
  · refine BytesAt.grown (BytesAt.other (hb (fun k => ae.held k ∧ k < w.heap.size) fun k a => a.2) ?_) hga (by simp)
    rintro k hk (rfl | a)
    · omega
    · exact ⟨a, hh k a⟩
  · have := hh k hk; have := hga.size; exact Nat.lt_of_lt_of_le (by omega) this
section
variable {w w' : World} {b : Nat} {ae : Sur} {ao : Addr} {x : Lx} {vd vt ve vm : Value}
theorem LexAt.grown {r : Option Nat} (h : LexAt w b ae ao x vd vt ve vm) (hg : w.grownBy w' r) (hr : ∀ k, r = some k → ae.held k ∧ k ≠ b ∧ 1 < k) : LexAt w' b ae ao x vd vt ve vm := by
  have hA : ∀ k, r = some k → ae.off b k := fun k e => .inr (hr k e).1
  refine ⟨?_, h.data.grown hg hA, h.tok.grown hg hA, ?_, h.env.grown hg ?_ ?_, h.b2, fun k a => Nat.lt_of_lt_of_le (h.held k a) hg.size⟩
  · rw [hg.block b h.lt (fun e => (hr b e.symm).2.1 rfl)]; exact h.heap
  · have he := h.err
    cases hx : x.err <;> rw [hx] at he <;> simp only [ErrAt] at he ⊢ <;> try exact he
    obtain ⟨k, s, t, hv, hn, hh⟩ := he
    exact ⟨k, s, t, hv, hn, by rw [hg.block k (lt_heap hh) (fun e => hn (hA k e.symm))]; exact hh⟩
  · intro e; have := (hr 0 e).2.2; omega
  · intro e; have := (hr 1 e).2.2; omega
end
end Go.Proofs.YtaecbclonmhbcaaGreatDoor

namespace Go.Proofs.YtaecbclonmhbcaaGreatDoor
open Go.RowKit
set_option maxHeartbeats 4000000 in
set_option maxRecDepth 100000 in
theorem prefix64_all (s : ByteArray) (w : World) (hs : s.size ≤ 100000) (hF : FlT w) :
    Calls Tryz.prog 149 #[.string s, .int .i64 64] w (FlPost .f64 s w) := by
  have HA := Lib.hid (atof64_all s w hs hF)
  clear hF
  go_enter Tryz.func149, Tryz.ntmps149
  go_wp2_with (go_at_call 165; refine HA.out.mono ?_; rintro e w1 ⟨x, n, er, rfl, hn, he, hk⟩)
  exact bodyPost_ret (results_three rfl _ _ _) rfl ⟨x, n, er, rfl, hn, he, hk⟩
set_option maxHeartbeats 4000000 in
set_option maxRecDepth 100000 in
theorem prefix32_all (s : ByteArray) (w : World) (hs : s.size ≤ 100000) (hF : FlT w) :
    Calls Tryz.prog 149 #[.string s, .int .i64 32] w (FlPost .f64 s w) := by
  have HA := Lib.hid (atof32_all s w hs hF)
  clear hF
  go_enter Tryz.func149, Tryz.ntmps149
  go_wp2_with (go_at_call 164; refine HA.out.mono ?_; rintro e w1 ⟨x, n, er, rfl, hn, he, hk⟩; obtain ⟨r, q, hw⟩ := run_widen x w1)
  exact bodyPost_ret (results_three rfl _ _ _) rfl ⟨_, n, er, rfl, hn, he, hk.drewN q⟩
set_option maxHeartbeats 4000000 in
set_option maxRecDepth 100000 in
theorem inner64_all (s : ByteArray) (w : World) (hs : s.size ≤ 100000) (hF : FlT w) :
    Calls Tryz.prog 130 #[.string s, .int .i64 64] w (PfV w) := by
  have HA := Lib.hid (prefix64_all s w hs hF)
  clear hF
  go_enter Tryz.func130, Tryz.ntmps130
  go_wp2_with (go_at_call 149; refine HA.out.mono ?_; rintro e w1 ⟨x, n, er, rfl, hn, he, hk⟩; have HE := Lib.hid he; have HK := Lib.hid hk; clear he hk)
  all_goals first
    | exact bodyPost_ret (results_tmp2 rfl _ _ _) rfl ⟨_, _, rfl, .inr (.inr rfl), HK.out⟩
    | exact bodyPost_ret (results_tmp2 rfl _ _ _) rfl ⟨_, _, rfl, HE.out, HK.out⟩
set_option maxHeartbeats 4000000 in
set_option maxRecDepth 100000 in
theorem inner32_all (s : ByteArray) (w : World) (hs : s.size ≤ 100000) (hF : FlT w) :
    Calls Tryz.prog 130 #[.string s, .int .i64 32] w (PfV w) := by
  have HA := Lib.hid (prefix32_all s w hs hF)
  clear hF
  go_enter Tryz.func130, Tryz.ntmps130
  go_wp2_with (go_at_call 149; refine HA.out.mono ?_; rintro e w1 ⟨x, n, er, rfl, hn, he, hk⟩; have HE := Lib.hid he; have HK := Lib.hid hk; clear he hk)
  all_goals first
    | exact bodyPost_ret (results_tmp2 rfl _ _ _) rfl ⟨_, _, rfl, .inr (.inr rfl), HK.out⟩
    | exact bodyPost_ret (results_tmp2 rfl _ _ _) rfl ⟨_, _, rfl, HE.out, HK.out⟩
theorem parseFloat64_all (s : ByteArray) (w : World) (hs : s.size ≤ 100000) (hF : FlT w) (h3 : ∃ te pe, w.cell? ⟨3, 0, none⟩ = some (.iface te pe)) (h4 : ∃ te pe, w.cell? ⟨4, 0, none⟩ = some (.iface te pe)) :
    Calls Tryz.prog 107 #[.string s, .int .i64 64] w (PfoV s w) := parseFloat_any s 64 w hs (inner64_all s w hs hF) h3 h4
theorem parseFloat32_all (s : ByteArray) (w : World) (hs : s.size ≤ 100000) (hF : FlT w) (h3 : ∃ te pe, w.cell? ⟨3, 0, none⟩ = some (.iface te pe)) (h4 : ∃ te pe, w.cell? ⟨4, 0, none⟩ = some (.iface te pe)) :
    Calls Tryz.prog 107 #[.string s, .int .i64 32] w (PfoV s w) := parseFloat_any s 32 w hs (inner32_all s w hs hF) h3 h4
end Go.Proofs.YtaecbclonmhbcaaGreatDoor
