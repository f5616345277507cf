/- impl.kind, impl.one, and the lexer's Error, GetPos. knownLexer's number: strconv.ParseInt("12", 10, 64). strconv.ParseUint(s, 10, n) at every text: a number, no error or a new *NumError. Printed by gen_pui.py. strconv.ParseInt: the library shelf laid at this program (written by the kit lay-plain tool). -/
import Derived.Test.YtaecbclonmhbcaaGreatDoorG29
import Derived.LaidEql
import Derived.Stop.Asserts
import Derived.LoopN
import Derived.Test.YtaecbclonmhbcaaGreatDoorG25
import Derived.Lib.AtoiErrMem
import Derived.Shelf.Strconv.ParseIntPublic10
import Derived.Test.YtaecbclonmhbcaaGreatDoorProg
set_option linter.unusedVariables false
set_option linter.unusedSimpArgs false
/- impl.kind, impl.one, and the lexer's Error, GetPos. -/
namespace Go.Proofs.YtaecbclonmhbcaaGreatDoor
open Go.RowKit

section
variable {w : World} {b : Nat} {ae : Sur} {ao : Addr} {x : Lx} {vd vt ve vm : Value}

set_option maxHeartbeats 400000 in
theorem error_any (h : LexAt w b ae ao x vd vt ve vm) :
    Calls Tryz.prog 28 #[.pointer (some ⟨b, 0, none⟩)] w fun e w' => e = .returned ve ∧ w = w' := by
  have c11 := h.c11
  clear h
  go_enter Tryz.func28, Tryz.ntmps28
  go_wp2
  go_ret
  exact ⟨rfl, rfl⟩

set_option maxHeartbeats 400000 in
theorem getPos_any (h : LexAt w b ae ao x vd vt ve vm) :
    Calls Tryz.prog 34 #[.pointer (some ⟨b, 0, none⟩)] w fun e w' => e = .returned (.int .i64 x.pos) ∧ w = w' := by
  have c2 := h.c2
  clear h
  go_enter Tryz.func34, Tryz.ntmps34
  go_wp2
  go_ret
  exact ⟨rfl, rfl⟩

def b01 (c : Bool) : Int := if c then 1 else 0
set_option maxHeartbeats 400000 in
theorem one_any (c : Bool) (w : World) :
    Calls Tryz.prog 62 #[.bool c] w fun e w' => e = .returned (.int .i64 (b01 c)) ∧ w = w' := by
  cases c <;>
  · go_enter Tryz.func62, Tryz.ntmps62
    go_wp2
    go_ret
    exact ⟨rfl, rfl⟩

set_option maxHeartbeats 400000 in
theorem kind_nil (w : World) :
    Calls Tryz.prog 35 #[.nilIface] w fun e w' => e = .returned (.int .i64 0) ∧ w = w' := by
  go_enter Tryz.func35, Tryz.ntmps35
  go_wp2
  go_ret
  exact ⟨rfl, rfl⟩

theorem und191 : ∃ i j, Tryz.prog.info? 191 = some i ∧ i.comparable = true ∧ Tryz.prog.info? 193 = some j ∧ j.size ≠ 0 := by
  have hc : (Tryz.prog.info? 191).map (·.comparable) = some true := by kernel_rfl
  have hs : (Tryz.prog.info? 193).map (fun j => decide (j.size ≠ 0)) = some true := by kernel_rfl
  obtain ⟨i, hi, hcmp⟩ := Option.map_eq_some_iff.1 hc
  obtain ⟨j, hj, hjs⟩ := Option.map_eq_some_iff.1 hs
  exact ⟨i, j, hi, hcmp, hj, of_decide_eq_true hjs⟩

set_option maxHeartbeats 400000 in
theorem kind_lex (w : World) (v : Value) (he : Env w ae ao) :
    Calls Tryz.prog 35 #[.iface 60 v] w fun e w' => e = .returned (.int .i64 2) ∧ w = w' := by
  have e1 := he.eof
  clear he
  have q1 := run_eql_iface_types (P := Tryz.prog) 60 191 v (.pointer (some ae.addr)) Tryz.underlying63 (by decide) w
  go_enter Tryz.func35, Tryz.ntmps35
  go_wp2
  go_ret
  exact ⟨rfl, rfl⟩

set_option maxHeartbeats 400000 in
theorem kind_eof (w : World) (he : Env w ae ao) :
    Calls Tryz.prog 35 #[.iface 191 (.pointer (some ae.addr))] w fun e w' => e = .returned (.int .i64 1) ∧ w = w' := by
  have e1 := he.eof
  clear he
  obtain ⟨i, j, hi, hcmp, hj, hz⟩ := und191
  have q1 := run_eql_iface_ptr_same (P := Tryz.prog) w ae.addr Tryz.underlying63 Tryz.underlying191 hi hcmp hj
  go_enter Tryz.func35, Tryz.ntmps35
  go_wp2
  go_ret
  exact ⟨rfl, rfl⟩

set_option maxHeartbeats 400000 in
theorem kind_other (w : World) (he : Env w ae ao) {ca cb : Array Value} {ta tb : TypeId} (ha : w.heap[ao.block]? = some (.cells ca ta (0, 0))) (hb : w.heap[ae.addr.block]? = some (.cells cb tb (0, 0))) :
    Calls Tryz.prog 35 #[.iface 191 (.pointer (some ao))] w fun e w' => e = .returned (.int .i64 2) ∧ w = w' := by
  have e1 := he.eof
  have hne := he.ne
  clear he
  obtain ⟨i, j, hi, hcmp, hj, hz⟩ := und191
  have q1 := run_eql_iface_ptr_other (P := Tryz.prog) w Tryz.underlying63 Tryz.underlying191 hi hcmp hj hz (Ne.symm hne) ha hb
  go_enter Tryz.func35, Tryz.ntmps35
  go_wp2
  go_ret
  exact ⟨rfl, rfl⟩
end
end Go.Proofs.YtaecbclonmhbcaaGreatDoor

/- knownLexer's number: strconv.ParseInt("12", 10, 64). -/
namespace Go.Proofs.YtaecbclonmhbcaaGreatDoor
open Go.RowKit

set_option maxHeartbeats 4000000 in
set_option maxRecDepth 100000 in
theorem puint_12 (w : World) :
    Calls Tryz.prog 142 #[.string ⟨#[49, 50]⟩, .int .i64 10, .int .i64 64] w fun e w' => e = .returned (.tuple #[.int .u64 12, .nilIface]) ∧ w.grownBy w' none := by
  have hcv := run_bytes_of_string (P := Tryz.prog) w 9 22 5 ⟨#[49, 50]⟩ Tryz.underlying9 Tryz.underlying22 Tryz.underlying5
  have hge := grownCap_ge w (ByteArray.mk #[49, 50]).size 0 5
  generalize grownCap w (ByteArray.mk #[49, 50]).size 0 5 = cp at hcv hge
  have k0 : (w.drew.alloc (.cells (bytesRow ⟨#[49, 50]⟩ cp) 5 ((bytesRow ⟨#[49, 50]⟩ cp).size, (bytesRow ⟨#[49, 50]⟩ cp).size + 1))).cell? ⟨w.heap.size, 0, none⟩ = some (.int .u8 49) := cell_of_heap (heap_alloc_new w.drew _) 0 (bytesRow_at _ _ 0 (by decide))
  have k1 : (w.drew.alloc (.cells (bytesRow ⟨#[49, 50]⟩ cp) 5 ((bytesRow ⟨#[49, 50]⟩ cp).size, (bytesRow ⟨#[49, 50]⟩ cp).size + 1))).cell? ⟨w.heap.size, 1, none⟩ = some (.int .u8 50) := cell_of_heap (heap_alloc_new w.drew _) 1 (bytesRow_at _ _ 1 (by decide))
  have hg : w.grownBy (w.drew.alloc (.cells (bytesRow ⟨#[49, 50]⟩ cp) 5 ((bytesRow ⟨#[49, 50]⟩ cp).size, (bytesRow ⟨#[49, 50]⟩ cp).size + 1))) none := ⟨rfl, rfl, rfl, by simp, fun k hk _ => heap_alloc_lt (w := w.drew) hk⟩
  generalize w.drew.alloc (.cells (bytesRow ⟨#[49, 50]⟩ cp) 5 ((bytesRow ⟨#[49, 50]⟩ cp).size, (bytesRow ⟨#[49, 50]⟩ cp).size + 1)) = w1 at hcv k0 k1 hg
  have HG := Lib.hid hg
  clear hg
  go_enter Tryz.func142, Tryz.ntmps142
  go_wp2
  refine wp_loop_rounds 3 ?_
  rw [rounds_succ]
  go_wp2
  rw [rounds_succ]
  go_wp2
  rw [rounds_succ]
  go_wp2
  go_ret2
  exact ⟨rfl, HG.out⟩

set_option maxHeartbeats 4000000 in
set_option maxRecDepth 100000 in
theorem pint_12 (w : World) :
    Calls Tryz.prog 143 #[.string ⟨#[49, 50]⟩, .int .i64 10, .int .i64 64] w fun e w' => e = .returned (.tuple #[.int .i64 12, .nilIface]) ∧ w.grownBy w' none := by
  go_enter Tryz.func143, Tryz.ntmps143
  go_wp2_with (go_at_call 142; refine (puint_12 _).mono ?_; rintro e w1 ⟨rfl, hg⟩)
  go_ret2
  exact ⟨rfl, hg⟩

set_option maxHeartbeats 4000000 in
set_option maxRecDepth 100000 in
theorem parseInt_12 (w : World) :
    Calls Tryz.prog 116 #[.string ⟨#[49, 50]⟩, .int .i64 10, .int .i64 64] w fun e w' => e = .returned (.tuple #[.int .i64 12, .nilIface]) ∧ w.grownBy w' none := by
  go_enter Tryz.func116, Tryz.ntmps116
  go_wp2_with (go_at_call 143; refine (pint_12 _).mono ?_; rintro e w1 ⟨rfl, hg⟩)
  go_ret2
  exact ⟨rfl, hg⟩
end Go.Proofs.YtaecbclonmhbcaaGreatDoor

/- strconv.ParseUint(s, 10, n) at every text: a number, no error or a new *NumError. Printed by gen_pui.py. -/
namespace Go.Proofs.YtaecbclonmhbcaaGreatDoor
open Go.RowKit

def PuV (s : ByteArray) (w : World) (e : Ending) (w' : World) : Prop := ∃ (u : Nat) (er : Value), e = .returned (.tuple #[.int .u64 u, er]) ∧ NErr s w w' er ∧ Kept w.heap.size w w'
theorem kept_bytesWorld (w : World) (s : ByteArray) : Kept w.heap.size w (Lib.bytesWorld w 5 s) := Kept.of_below (Lib.bytesWorld_below w 5 s) rfl

theorem parseUint8_any (s : ByteArray) (w : World) (hs : s.size ≤ 100000) (h3 : ∃ te pe, w.cell? ⟨3, 0, none⟩ = some (.iface te pe)) (h4 : ∃ te pe, w.cell? ⟨4, 0, none⟩ = some (.iface te pe)) :
    Calls Tryz.prog 115 #[.string s, .int .i64 10, .int .i64 8] w (PuV s w) := by
  obtain ⟨t3, p3, c3⟩ := h3
  obtain ⟨t4, p4, c4⟩ := h4
  cases h : Lib.parseUintB 8 s.data.toList
  · rename_i u
    exact (Any.strconv_ParseUint_10_at8_ok sh_laysPu14 s (by omega) u h w).mono fun e w' h => ⟨u, _, h.1, .inl rfl, by rcases h.2 with h | h; exact h ▸ Kept.refl _ _; exact h ▸ kept_bytesWorld w s⟩
  · exact (Any.strconv_ParseUint_10_at8_syntax sh_laysPu14 s (by omega) h _ w c3 (.inr ⟨_, _, rfl⟩)).mono fun e w' ⟨N, a1, a2, a3, a4⟩ => ⟨0, _, a1, .inr ⟨N, 3, _, _, rfl, a2, a3, by decide, .inl rfl, (Kept.of_below a4 rfl).old (Nat.le_refl _) c3⟩, Kept.of_below a4 rfl⟩
  · exact (Any.strconv_ParseUint_10_at8_range sh_laysPu14 s (by omega) h _ w c4 (.inr ⟨_, _, rfl⟩)).mono fun e w' ⟨N, a1, a2, a3, a4⟩ => ⟨255, _, a1, .inr ⟨N, 4, _, _, rfl, a2, a3, by decide, .inr rfl, (Kept.of_below a4 rfl).old (Nat.le_refl _) c4⟩, Kept.of_below a4 rfl⟩

theorem parseUint16_any (s : ByteArray) (w : World) (hs : s.size ≤ 100000) (h3 : ∃ te pe, w.cell? ⟨3, 0, none⟩ = some (.iface te pe)) (h4 : ∃ te pe, w.cell? ⟨4, 0, none⟩ = some (.iface te pe)) :
    Calls Tryz.prog 115 #[.string s, .int .i64 10, .int .i64 16] w (PuV s w) := by
  obtain ⟨t3, p3, c3⟩ := h3
  obtain ⟨t4, p4, c4⟩ := h4
  cases h : Lib.parseUintB 16 s.data.toList
  · rename_i u
    exact (Any.strconv_ParseUint_10_at16_ok sh_laysPu14 s (by omega) u h w).mono fun e w' h => ⟨u, _, h.1, .inl rfl, by rcases h.2 with h | h; exact h ▸ Kept.refl _ _; exact h ▸ kept_bytesWorld w s⟩
  · exact (Any.strconv_ParseUint_10_at16_syntax sh_laysPu14 s (by omega) h _ w c3 (.inr ⟨_, _, rfl⟩)).mono fun e w' ⟨N, a1, a2, a3, a4⟩ => ⟨0, _, a1, .inr ⟨N, 3, _, _, rfl, a2, a3, by decide, .inl rfl, (Kept.of_below a4 rfl).old (Nat.le_refl _) c3⟩, Kept.of_below a4 rfl⟩
  · exact (Any.strconv_ParseUint_10_at16_range sh_laysPu14 s (by omega) h _ w c4 (.inr ⟨_, _, rfl⟩)).mono fun e w' ⟨N, a1, a2, a3, a4⟩ => ⟨65535, _, a1, .inr ⟨N, 4, _, _, rfl, a2, a3, by decide, .inr rfl, (Kept.of_below a4 rfl).old (Nat.le_refl _) c4⟩, Kept.of_below a4 rfl⟩

theorem parseUint32_any (s : ByteArray) (w : World) (hs : s.size ≤ 100000) (h3 : ∃ te pe, w.cell? ⟨3, 0, none⟩ = some (.iface te pe)) (h4 : ∃ te pe, w.cell? ⟨4, 0, none⟩ = some (.iface te pe)) :
    Calls Tryz.prog 115 #[.string s, .int .i64 10, .int .i64 32] w (PuV s w) := by
  obtain ⟨t3, p3, c3⟩ := h3
  obtain ⟨t4, p4, c4⟩ := h4
  cases h : Lib.parseUintB 32 s.data.toList
  · rename_i u
    exact (Any.strconv_ParseUint_10_at32_ok sh_laysPu14 s (by omega) u h w).mono fun e w' h => ⟨u, _, h.1, .inl rfl, by rcases h.2 with h | h; exact h ▸ Kept.refl _ _; exact h ▸ kept_bytesWorld w s⟩
  · exact (Any.strconv_ParseUint_10_at32_syntax sh_laysPu14 s (by omega) h _ w c3 (.inr ⟨_, _, rfl⟩)).mono fun e w' ⟨N, a1, a2, a3, a4⟩ => ⟨0, _, a1, .inr ⟨N, 3, _, _, rfl, a2, a3, by decide, .inl rfl, (Kept.of_below a4 rfl).old (Nat.le_refl _) c3⟩, Kept.of_below a4 rfl⟩
  · exact (Any.strconv_ParseUint_10_at32_range sh_laysPu14 s (by omega) h _ w c4 (.inr ⟨_, _, rfl⟩)).mono fun e w' ⟨N, a1, a2, a3, a4⟩ => ⟨4294967295, _, a1, .inr ⟨N, 4, _, _, rfl, a2, a3, by decide, .inr rfl, (Kept.of_below a4 rfl).old (Nat.le_refl _) c4⟩, Kept.of_below a4 rfl⟩

theorem parseUint64_any (s : ByteArray) (w : World) (hs : s.size ≤ 100000) (h3 : ∃ te pe, w.cell? ⟨3, 0, none⟩ = some (.iface te pe)) (h4 : ∃ te pe, w.cell? ⟨4, 0, none⟩ = some (.iface te pe)) :
    Calls Tryz.prog 115 #[.string s, .int .i64 10, .int .i64 64] w (PuV s w) := by
  obtain ⟨t3, p3, c3⟩ := h3
  obtain ⟨t4, p4, c4⟩ := h4
  cases h : Lib.parseUintB 64 s.data.toList
  · rename_i u
    exact (Any.strconv_ParseUint_10_at64_ok sh_laysPu14 s (by omega) u h w).mono fun e w' h => ⟨u, _, h.1, .inl rfl, by rcases h.2 with h | h; exact h ▸ Kept.refl _ _; exact h ▸ kept_bytesWorld w s⟩
  · exact (Any.strconv_ParseUint_10_at64_syntax sh_laysPu14 s (by omega) h _ w c3 (.inr ⟨_, _, rfl⟩)).mono fun e w' ⟨N, a1, a2, a3, a4⟩ => ⟨0, _, a1, .inr ⟨N, 3, _, _, rfl, a2, a3, by decide, .inl rfl, (Kept.of_below a4 rfl).old (Nat.le_refl _) c3⟩, Kept.of_below a4 rfl⟩
  · exact (Any.strconv_ParseUint_10_at64_range sh_laysPu14 s (by omega) h _ w c4 (.inr ⟨_, _, rfl⟩)).mono fun e w' ⟨N, a1, a2, a3, a4⟩ => ⟨18446744073709551615, _, a1, .inr ⟨N, 4, _, _, rfl, a2, a3, by decide, .inr rfl, (Kept.of_below a4 rfl).old (Nat.le_refl _) c4⟩, Kept.of_below a4 rfl⟩
end Go.Proofs.YtaecbclonmhbcaaGreatDoor

/- strconv.ParseInt: the library shelf laid at this program (written by the kit lay-plain tool). -/
namespace Go.Proofs.YtaecbclonmhbcaaGreatDoor
open Go.Shelf
def sh_laysC174_ren : Go.Shelf.Ren := ⟨fun | 174 => 116 | 247 => 143 | 245 => 131 | 287 => 142 | 279 => 150 | 280 => 151 | 281 => 152 | 282 => 153 | 321 => 160 | 322 => 161 | 316 => 166 | 171 => 167 | 205 => 155 | 243 => 182 | 246 => 209 | 283 => 224 | 284 => 225 | 285 => 226 | 286 => 227 | 129 => 198 | 317 => 239 | 318 => 202 | 319 => 240 | 320 => 241 | 337 => 246 | 338 => 247 | n => n, fun | 9 => 9 | 3 => 3 | 2 => 2 | 75 => 63 | 85 => 136 | 4 => 4 | 167 => 170 | 5 => 5 | 53 => 49 | 175 => 134 | 46 => 105 | 168 => 171 | 37 => 22 | 0 => 0 | 210 => 189 | 21 => 21 | 127 => 220 | 145 => 193 | 143 => 191 | 171 => 249 | 173 => 250 | 212 => 257 | 51 => 102 | 20 => 20 | 213 => 258 | 232 => 264 | 233 => 150 | 80 => 95 | n => n, fun | 15 => 3 | 16 => 4 | 17 => 14 | 18 => 15 | 19 => 16 | n => n⟩
theorem sh_laysC174 : Go.Proofs.LaysC.n174 Tryz.prog sh_laysC174_ren := {
  mixed := by kernel_rfl
  f129 := Tryz.func198.trans (congrArg some (by kernel_rfl))
  f171 := Tryz.func167.trans (congrArg some (by kernel_rfl))
  f174 := Tryz.func116.trans (congrArg some (by kernel_rfl))
  f205 := Tryz.func155.trans (congrArg some (by kernel_rfl))
  f243 := Tryz.func182.trans (congrArg some (by kernel_rfl))
  f245 := Tryz.func131.trans (congrArg some (by kernel_rfl))
  f246 := Tryz.func209.trans (congrArg some (by kernel_rfl))
  f247 := Tryz.func143.trans (congrArg some (by kernel_rfl))
  f279 := Tryz.func150.trans (congrArg some (by kernel_rfl))
  f280 := Tryz.func151.trans (congrArg some (by kernel_rfl))
  f281 := Tryz.func152.trans (congrArg some (by kernel_rfl))
  f282 := Tryz.func153.trans (congrArg some (by kernel_rfl))
  f283 := Tryz.func224.trans (congrArg some (by kernel_rfl))
  f284 := Tryz.func225.trans (congrArg some (by kernel_rfl))
  f285 := Tryz.func226.trans (congrArg some (by kernel_rfl))
  f286 := Tryz.func227.trans (congrArg some (by kernel_rfl))
  f287 := Tryz.func142.trans (congrArg some (by kernel_rfl))
  f316 := Tryz.func166.trans (congrArg some (by kernel_rfl))
  f317 := Tryz.func239.trans (congrArg some (by kernel_rfl))
  f318 := Tryz.func202.trans (congrArg some (by kernel_rfl))
  f319 := Tryz.func240.trans (congrArg some (by kernel_rfl))
  f320 := Tryz.func241.trans (congrArg some (by kernel_rfl))
  f321 := Tryz.func160.trans (congrArg some (by kernel_rfl))
  f322 := Tryz.func161.trans (congrArg some (by kernel_rfl))
  f337 := Tryz.func246.trans (congrArg some (by kernel_rfl))
  f338 := Tryz.func247.trans (congrArg some (by kernel_rfl))
  t0 := Tryz.underlying0
  a0 := Tryz.isAgg0
  z0 := Tryz.sizeOf0
  v0 := Tryz.zeroValue0
  t2 := Tryz.underlying2
  a2 := Tryz.isAgg2
  z2 := Tryz.sizeOf2
  v2 := Tryz.zeroValue2
  t3 := Tryz.underlying3
  a3 := Tryz.isAgg3
  z3 := Tryz.sizeOf3
  v3 := Tryz.zeroValue3
  t4 := Tryz.underlying4
  a4 := Tryz.isAgg4
  z4 := Tryz.sizeOf4
  v4 := Tryz.zeroValue4
  t5 := Tryz.underlying5
  a5 := Tryz.isAgg5
  z5 := Tryz.sizeOf5
  v5 := Tryz.zeroValue5
  t9 := Tryz.underlying9
  a9 := Tryz.isAgg9
  z9 := Tryz.sizeOf9
  v9 := Tryz.zeroValue9
  t20 := Tryz.underlying20
  a20 := Tryz.isAgg20
  z20 := Tryz.sizeOf20
  v20 := Tryz.zeroValue20
  t21 := Tryz.underlying21
  a21 := Tryz.isAgg21
  z21 := Tryz.sizeOf21
  v21 := Tryz.zeroValue21
  t37 := Tryz.underlying22
  a37 := Tryz.isAgg22
  z37 := Tryz.sizeOf22
  v37 := Tryz.zeroValue22
  t46 := Tryz.underlying105
  a46 := Tryz.isAgg105
  z46 := Tryz.sizeOf105
  v46 := Tryz.zeroValue105
  t51 := Tryz.underlying102
  a51 := Tryz.isAgg102
  z51 := Tryz.sizeOf102
  v51 := Tryz.zeroValue102
  t53 := Tryz.underlying49
  a53 := Tryz.isAgg49
  z53 := Tryz.sizeOf49
  v53 := Tryz.zeroValue49
  t75 := Tryz.underlying63
  a75 := Tryz.isAgg63
  z75 := Tryz.sizeOf63
  v75 := Tryz.zeroValue63
  t85 := Tryz.underlying136
  a85 := Tryz.isAgg136
  z85 := Tryz.sizeOf136
  v85 := Tryz.zeroValue136
  t127 := Tryz.underlying220
  a127 := Tryz.isAgg220
  z127 := Tryz.sizeOf220
  v127 := Tryz.zeroValue220
  t143 := Tryz.underlying191
  a143 := Tryz.isAgg191
  z143 := Tryz.sizeOf191
  v143 := Tryz.zeroValue191
  t145 := Tryz.underlying193
  a145 := Tryz.isAgg193
  z145 := Tryz.sizeOf193
  v145 := Tryz.zeroValue193
  t167 := Tryz.underlying170
  a167 := Tryz.isAgg170
  z167 := Tryz.sizeOf170
  v167 := Tryz.zeroValue170
  t168 := Tryz.underlying171
  a168 := Tryz.isAgg171
  z168 := Tryz.sizeOf171
  v168 := Tryz.zeroValue171
  t171 := Tryz.underlying249
  a171 := Tryz.isAgg249
  z171 := Tryz.sizeOf249
  v171 := Tryz.zeroValue249
  t173 := Tryz.underlying250
  a173 := Tryz.isAgg250
  z173 := Tryz.sizeOf250
  v173 := Tryz.zeroValue250
  t175 := Tryz.underlying134
  a175 := Tryz.isAgg134
  z175 := Tryz.sizeOf134
  v175 := Tryz.zeroValue134
  t210 := Tryz.underlying189
  a210 := Tryz.isAgg189
  z210 := Tryz.sizeOf189
  v210 := Tryz.zeroValue189
  t212 := Tryz.underlying257
  a212 := Tryz.isAgg257
  z212 := Tryz.sizeOf257
  v212 := Tryz.zeroValue257
  t213 := Tryz.underlying258
  a213 := Tryz.isAgg258
  z213 := Tryz.sizeOf258
  t232 := Tryz.underlying264
  a232 := Tryz.isAgg264
  z232 := Tryz.sizeOf264
  v232 := Tryz.zeroValue264
  t233 := Tryz.underlying150
  a233 := Tryz.isAgg150
  z233 := Tryz.sizeOf150
  v233 := Tryz.zeroValue150
  g15 := by kernel_rfl
  g16 := by kernel_rfl
  g17 := by kernel_rfl
  g18 := by kernel_rfl
  g19 := by kernel_rfl
  t80 := Tryz.underlying95
  a80 := Tryz.isAgg95
  z80 := Tryz.sizeOf95
  v80 := Tryz.zeroValue95
  i0 := by kernel_rfl
  i2 := by kernel_rfl
  i3 := by kernel_rfl
  i4 := by kernel_rfl
  i5 := by kernel_rfl
  i9 := by kernel_rfl
  i20 := by kernel_rfl
  i21 := by kernel_rfl
  i37 := by kernel_rfl
  i46 := by kernel_rfl
  i51 := by kernel_rfl
  i53 := by kernel_rfl
  i75 := by kernel_rfl
  i80 := by kernel_rfl
  i85 := by kernel_rfl
  i127 := by kernel_rfl
  i143 := by kernel_rfl
  i145 := by kernel_rfl
  i167 := by kernel_rfl
  i168 := by kernel_rfl
  i171 := by kernel_rfl
  i173 := by kernel_rfl
  i175 := by kernel_rfl
  i210 := by kernel_rfl
  i212 := by kernel_rfl
  i232 := by kernel_rfl
  i233 := by kernel_rfl
  m15 := by kernel_rfl
  m16 := by kernel_rfl
  m17 := by kernel_rfl
  m18 := by kernel_rfl
  m19 := by kernel_rfl
  c0 := by kernel_rfl
  c2 := by kernel_rfl
  c3 := by kernel_rfl
  c4 := by kernel_rfl
  c5 := by kernel_rfl
  c9 := by kernel_rfl
  c20 := by kernel_rfl
  c21 := by kernel_rfl
  c37 := by kernel_rfl
  c46 := by kernel_rfl
  c51 := by kernel_rfl
  c53 := by kernel_rfl
  c75 := by kernel_rfl
  c80 := by kernel_rfl
  c85 := by kernel_rfl
  c127 := by kernel_rfl
  c143 := by kernel_rfl
  c145 := by kernel_rfl
  c167 := by kernel_rfl
  c168 := by kernel_rfl
  c171 := by kernel_rfl
  c173 := by kernel_rfl
  c175 := by kernel_rfl
  c210 := by kernel_rfl
  c212 := by kernel_rfl
  c213 := by kernel_rfl
  c232 := by kernel_rfl
  c233 := by kernel_rfl }
end Go.Proofs.YtaecbclonmhbcaaGreatDoor
