/- Contracts of math/bits: the library shelf laid at this program (written by the kit lay-plain tool). internal/strconv's fast scaling: small functions. internal/strconv.prescale, parseFloat64. internal/strconv.pack32, parseFloat32. Printed by gen_fl3.py. -/
import Derived.Shelf.Small.Utf8
import Derived.Shelf.Strconv.Itoa0
import Derived.Shelf.Bits.Mul64
import Derived.Test.YtaecbclonmhbcaaGreatDoorProg
import Derived.Test.YtaecbclonmhbcaaGreatDoorG01
import Derived.Lib.EndianBits
set_option linter.unusedVariables false
set_option linter.unusedSimpArgs false
/- Contracts of math/bits: the library shelf laid at this program (written by the kit lay-plain tool). -/
namespace Go.Proofs.YtaecbclonmhbcaaGreatDoor
open Go.Shelf
def sh_lays129_ren : Go.Shelf.Ren := ⟨fun | 129 => 198 | n => n, fun | 53 => 49 | 3 => 3 | 4 => 4 | 46 => 105 | 5 => 5 | 9 => 9 | n => n, fun | n => n⟩
theorem sh_lays129 : Go.Proofs.Lays.n129 Tryz.prog sh_lays129_ren := {
  mixed := by kernel_rfl
  f129 := Tryz.func198.trans (congrArg some (by kernel_rfl))
  t3 := Tryz.underlying3
  a3 := Tryz.isAgg3
  z3 := Tryz.sizeOf3
  v3 := Tryz.zeroValue3
  t4 := Tryz.underlying4
  a4 := Tryz.isAgg4
  z4 := Tryz.sizeOf4
  v4 := Tryz.zeroValue4
  t5 := Tryz.underlying5
  a5 := Tryz.isAgg5
  z5 := Tryz.sizeOf5
  v5 := Tryz.zeroValue5
  t9 := Tryz.underlying9
  a9 := Tryz.isAgg9
  z9 := Tryz.sizeOf9
  v9 := Tryz.zeroValue9
  t46 := Tryz.underlying105
  a46 := Tryz.isAgg105
  z46 := Tryz.sizeOf105
  v46 := Tryz.zeroValue105
  t53 := Tryz.underlying49
  a53 := Tryz.isAgg49
  z53 := Tryz.sizeOf49
  v53 := Tryz.zeroValue49 }
theorem sh_bits_Len64 (x : Int) (w : World) (h0 : 0 ≤ x) (h1 : x ≤ 18446744073709551615) :
    Calls Tryz.prog 198 #[.int .u64 x] w fun e w' => e = .returned (.int .i64 (Lib.bitLen x.toNat)) ∧ w' = w := Any.bits_Len64 sh_lays129 x w h0 h1
def sh_lays264_ren : Go.Shelf.Ren := ⟨fun | 264 => 220 | n => n, fun | 53 => 49 | 46 => 105 | n => n, fun | n => n⟩
theorem sh_lays264 : Go.Proofs.Lays.n264 Tryz.prog sh_lays264_ren := {
  mixed := by kernel_rfl
  f264 := Tryz.func220.trans (congrArg some (by kernel_rfl))
  t46 := Tryz.underlying105
  a46 := Tryz.isAgg105
  z46 := Tryz.sizeOf105
  v46 := Tryz.zeroValue105
  t53 := Tryz.underlying49
  a53 := Tryz.isAgg49
  z53 := Tryz.sizeOf49
  v53 := Tryz.zeroValue49 }
open Go.RowKit Go.Lib in
theorem sh_bits_Mul64 (x y : Nat) (hx : x < 18446744073709551616) (hy : y < 18446744073709551616) (w : World) :
    Calls Tryz.prog 220 #[.int .u64 x, .int .u64 y] w fun e w' => e = .returned (.tuple #[.int .u64 ((x * y / 18446744073709551616 : Nat) : Int), .int .u64 ((x * y % 18446744073709551616 : Nat) : Int)]) ∧ w' = w := Any.bits_Mul64 sh_lays264 x y hx hy w
end Go.Proofs.YtaecbclonmhbcaaGreatDoor

/- internal/strconv's fast scaling: small functions. -/
namespace Go.Proofs.YtaecbclonmhbcaaGreatDoor
open Go.RowKit

theorem i64_and63 (x : Int) (h0 : 0 ≤ x) (h1 : x < 64) : bits .and .i64 x 63 = x := by
  rw [show (63 : Int) = 2 ^ 6 - 1 from by decide, bits_mask .i64 63 (by decide) (fun n h0 h1 => by rw [IntKind.wrap_i64]; omega) 6 (by decide) x h0 (by omega)]
  omega

/-- 1 for true. -/
def b2 (b : Bool) : Int := if b then 1 else 0
theorem b2_range (b : Bool) : 0 ≤ b2 b ∧ b2 b ≤ 1 := by cases b <;> decide
set_option maxHeartbeats 1000000 in
theorem bool2_any (b : Bool) (w : World) : Calls Tryz.prog 178 #[.bool b] w fun e w' => e = .returned (.int .u64 (b2 b)) ∧ w = w' := by
  cases b
  · go_enter Tryz.func178, Tryz.ntmps178
    go_wp2
    go_ret
    exact ⟨rfl, rfl⟩
  · go_enter Tryz.func178, Tryz.ntmps178
    go_wp2
    go_ret
    exact ⟨rfl, rfl⟩

/-- uscale's answer where the high product has digits that are shifted away; and where it has none. -/
def uscF (H M M2 s : Nat) : Int :=
  if IntKind.u64.wrap ((H : Int) / 2 ^ s * 2 ^ s) != H then bits .or .u64 ((H : Int) / 2 ^ s) 1
  else bits .or .u64 (IntKind.u64.wrap ((H : Int) - b2 (decide (M < M2))) / 2 ^ s) (b2 (decide (1 < IntKind.u64.wrap ((M : Int) - M2))))
def uscaleF (x hi lo s : Nat) : Int := uscF (x * hi / 18446744073709551616) (x * hi % 18446744073709551616) (x * lo / 18446744073709551616) s

set_option maxHeartbeats 2000000 in
set_option maxRecDepth 100000 in
theorem uscale_any (x hi lo : Nat) (s : Nat) (hx : x < 18446744073709551616) (hh : hi < 18446744073709551616) (hl : lo < 18446744073709551616) (hs : s < 64) (w : World) (g : Nat)
    (c0 : w.cell? ⟨g, 0, none⟩ = some (.int .u64 hi)) (c1 : w.cell? ⟨g, 1, none⟩ = some (.int .u64 lo)) (c2 : w.cell? ⟨g, 2, none⟩ = some (.int .i64 s)) :
    Calls Tryz.prog 201 #[.int .u64 x, .pointer (some ⟨g, 0, none⟩)] w fun e w' => e = .returned (.int .u64 (uscaleF x hi lo s)) ∧ ∃ n, w' = w.drewN n := by
  have h63 := i64_and63 s (by omega) (by omega)
  unfold uscaleF
  obtain ⟨H, hH⟩ : ∃ H, H = x * hi / 18446744073709551616 := ⟨_, rfl⟩
  obtain ⟨M, hM⟩ : ∃ M, M = x * hi % 18446744073709551616 := ⟨_, rfl⟩
  obtain ⟨M2, hM2⟩ : ∃ M, M = x * lo / 18446744073709551616 := ⟨_, rfl⟩
  obtain ⟨M3, hM3⟩ : ∃ M, M = x * lo % 18446744073709551616 := ⟨_, rfl⟩
  have C1 := sh_bits_Mul64 x hi hx hh w
  have C2 := sh_bits_Mul64 x lo hx hl w
  rw [← hH, ← hM] at C1
  rw [← hM2, ← hM3] at C2
  rw [← hH, ← hM, ← hM2]
  have HC1 := Lib.hid (C1.mono fun e w' (h : _ ∧ _) => (⟨h.1, h.2.symm⟩ : _ ∧ w = w'))
  have HC2 := Lib.hid (C2.mono fun e w' (h : _ ∧ _) => (⟨h.1, h.2.symm⟩ : _ ∧ w = w'))
  have hs0 : (0 : Int) ≤ (s : Int) := by omega
  have hs1 : (s : Int) < 64 := by omega
  clear C1 C2 hH hM hM2 hM3 hx hh hl hs
  cases ht : IntKind.u64.wrap ((H : Int) / 2 ^ s * 2 ^ s) != H with
  | true =>
    have hF : uscF H M M2 s = bits .or .u64 ((H : Int) / 2 ^ s) 1 := by unfold uscF; rw [ht]; rfl
    rw [hF]
    clear hF
    go_enter Tryz.func201, Tryz.ntmps201
    go_wp2_with (go_at_call 220; refine HC1.out.mono ?_; rintro e w1 ⟨rfl, rfl⟩)
    go_ret
    exact ⟨rfl, 0, rfl⟩
  | false =>
    have hF : uscF H M M2 s = bits .or .u64 (IntKind.u64.wrap ((H : Int) - b2 (decide (M < M2))) / 2 ^ s) (b2 (decide (1 < IntKind.u64.wrap ((M : Int) - M2)))) := by unfold uscF; rw [ht]; rfl
    rw [hF]
    clear hF
    obtain ⟨D, hD⟩ : ∃ D, D = b2 (decide (M < M2)) := ⟨_, rfl⟩
    have CB := fun w => bool2_any (decide (M < M2)) w
    rw [← hD] at CB ⊢
    have HB := Lib.hid CB
    clear CB hD
    go_enter Tryz.func201, Tryz.ntmps201
    go_wp2_with (first
      | (go_at_call 220; with_reducible refine HC1.out.mono ?_; rintro e w1 ⟨rfl, rfl⟩)
      | (go_at_call 220; refine HC2.out.mono ?_; rintro e w1 ⟨rfl, rfl⟩)
      | (go_at_call 178; refine (HB.out _).mono ?_; rintro e w1 ⟨rfl, rfl⟩))
    go_quiet ((go_at_call 178; exact Calls.quiet_of_same ((bool2_any _ _).mono fun e w' h => ⟨h.1, h.2.symm⟩)))
    go_wp2
    go_ret
    exact ⟨rfl, _, rfl⟩

theorem wrap_u64_range (n : Int) : 0 ≤ IntKind.u64.wrap n ∧ IntKind.u64.wrap n < 18446744073709551616 := by
  rw [IntKind.wrap_u64]; omega
theorem or_u64_range {a b : Int} (ha : 0 ≤ a) (ha1 : a < 18446744073709551616) (hb : 0 ≤ b) (hb1 : b < 18446744073709551616) : 0 ≤ bits .or .u64 a b ∧ bits .or .u64 a b < 18446744073709551616 := by
  obtain ⟨x, rfl⟩ := Int.eq_ofNat_of_zero_le ha
  obtain ⟨y, rfl⟩ := Int.eq_ofNat_of_zero_le hb
  have hx : x < 2 ^ 64 := by omega
  have hy : y < 2 ^ 64 := by omega
  have h := (bits_nat .u64 64 (by decide) wraps_u64 x y hx hy).2
  have h2 := Nat.or_lt_two_pow hx hy
  rw [h]
  omega
theorem uscaleF_range (x hi lo s : Nat) (hx : x < 18446744073709551616) (hh : hi < 18446744073709551616) : 0 ≤ uscaleF x hi lo s ∧ uscaleF x hi lo s < 18446744073709551616 := by
  have hH : x * hi / 18446744073709551616 < 18446744073709551616 := by
    rw [Nat.div_lt_iff_lt_mul (by decide)]
    exact Nat.mul_lt_mul'' hx hh
  have hp : (0 : Int) < 2 ^ s := Int.pow_pos (by decide)
  have div_range : ∀ a : Int, 0 ≤ a → a < 18446744073709551616 → 0 ≤ a / 2 ^ s ∧ a / 2 ^ s < 18446744073709551616 := fun a h0 h1 =>
    ⟨Int.ediv_nonneg h0 (Int.le_of_lt hp), Int.lt_of_le_of_lt (Int.ediv_le_self _ h0) h1⟩
  unfold uscaleF uscF
  split
  · have := div_range ((x * hi / 18446744073709551616 : Nat) : Int) (by omega) (by omega)
    exact or_u64_range this.1 this.2 (by decide) (by decide)
  · have hw := wrap_u64_range (((x * hi / 18446744073709551616 : Nat) : Int) - b2 (decide (x * hi % 18446744073709551616 < x * lo / 18446744073709551616)))
    have := div_range _ hw.1 hw.2
    have hb := b2_range (decide (1 < IntKind.u64.wrap (((x * hi % 18446744073709551616 : Nat) : Int) - ((x * lo / 18446744073709551616 : Nat) : Int))))
    exact or_u64_range this.1 this.2 hb.1 (by omega)

set_option maxHeartbeats 1000000 in
theorem l2p_any (p : Int) (w : World) (h0 : -100000 ≤ p) (h1 : p ≤ 100000) : Calls Tryz.prog 199 #[.int .i64 p] w fun e w' => e = .returned (.int .i64 (p * 108853 / 32768)) ∧ w = w' := by
  go_enter Tryz.func199, Tryz.ntmps199
  go_wp2
  go_ret
  exact ⟨rfl, rfl⟩
def unminF (x : Int) : Int := IntKind.u64.wrap (IntKind.u64.wrap (x * 4) - 2)
set_option maxHeartbeats 1000000 in
theorem unmin_any (w : World) (x : Int) : Calls Tryz.prog 203 #[.int .u64 x] w fun e w' => e = .returned (.int .u64 (unminF x)) ∧ w = w' := by
  go_enter Tryz.func203, Tryz.ntmps203
  go_wp2
  go_ret
  exact ⟨rfl, rfl⟩
def roundF (x : Int) : Int := IntKind.u64.wrap (IntKind.u64.wrap (x + 1) + bits BinOp.and IntKind.u64 (x / 4) 1) / 4
theorem roundF_range (x : Int) : 0 ≤ roundF x ∧ roundF x < 18446744073709551616 := by
  have := wrap_u64_range (IntKind.u64.wrap (x + 1) + bits BinOp.and IntKind.u64 (x / 4) 1)
  unfold roundF; omega
set_option maxHeartbeats 1000000 in
theorem round_any (w : World) (x : Int) : Calls Tryz.prog 205 #[.int .u64 x] w fun e w' => e = .returned (.int .u64 (roundF x)) ∧ w = w' := by
  go_enter Tryz.func205, Tryz.ntmps205
  go_wp2
  go_ret
  exact ⟨rfl, rfl⟩

theorem frombits_run (m : Int) (w : World) : (callFunc 179 #[.int .u64 m]).run Tryz.prog w = .ok (.value (.float .f64 m.toNat)) w := by
  rw [run_callFunc_extern Tryz.func179 (by kernel_rfl) (by kernel_rfl) (by kernel_rfl) (e := Extern.MathFloatBits.float64frombits) (by kernel_rfl)]
  rfl

/-- pack64: the bits, and whether it is beyond all. -/
def packF (m e : Int) : Int × Bool :=
  if bits .and .u64 m 4503599627370496 == 0 then (m, false)
  else if 972 ≤ e then (bits .or .u64 (bits .and .u64 m 9223372036854775808) 9218868437227405312, true)
  else (bits .or .u64 (bits .andNot .u64 m 4503599627370496) (IntKind.u64.wrap (IntKind.u64.wrap (wrap64 (1075 + e)) * 4503599627370496)), false)
/-- ErrRange, or nothing. -/
def rangeV (b : Bool) : Value := if b then .iface 170 (.int .i64 1) else .nilIface

set_option maxHeartbeats 1000000 in
set_option maxRecDepth 100000 in
theorem pack64_any (w : World) (m e : Int) : Calls Tryz.prog 208 #[.int .u64 m, .int .i64 e] w fun e' w' => e' = .returned (.tuple #[.float .f64 (packF m e).1.toNat, rangeV (packF m e).2]) ∧ w = w' := by
  have fb := frombits_run
  cases h0 : bits .and .u64 m 4503599627370496 == 0 with
  | true =>
    have hF : packF m e = (m, false) := by unfold packF; rw [h0]; rfl
    rw [hF]
    clear hF
    go_enter Tryz.func208, Tryz.ntmps208
    go_wp2
    go_ret2
    exact ⟨rfl, rfl⟩
  | false =>
    by_cases h1 : 972 ≤ e
    · have hF : packF m e = (bits .or .u64 (bits .and .u64 m 9223372036854775808) 9218868437227405312, true) := by unfold packF; rw [h0, if_neg (by decide), if_pos h1]
      rw [hF]
      clear hF
      go_enter Tryz.func208, Tryz.ntmps208
      go_wp2
      go_ret2
      exact ⟨rfl, rfl⟩
    · have hF : packF m e = (bits .or .u64 (bits .andNot .u64 m 4503599627370496) (IntKind.u64.wrap (IntKind.u64.wrap (wrap64 (1075 + e)) * 4503599627370496)), false) := by unfold packF; rw [h0, if_neg (by decide), if_neg h1]
      rw [hF]
      clear hF
      go_enter Tryz.func208, Tryz.ntmps208
      go_wp2
      go_ret2
      exact ⟨rfl, rfl⟩
end Go.Proofs.YtaecbclonmhbcaaGreatDoor

/- internal/strconv.prescale, parseFloat64. -/
namespace Go.Proofs.YtaecbclonmhbcaaGreatDoor
open Go.RowKit

/-- The scaler's block. -/
def PreAt (w : World) (g hi lo : Nat) (s : Int) (w' : World) : Prop := w'.heap[g]? = some (.cells #[.int .u64 hi, .int .u64 lo, .int .i64 s] 228 (0, 0)) ∧ Kept g w w'
set_option maxHeartbeats 1000000 in
set_option maxRecDepth 100000 in
theorem prescale_any (w : World) (g : Nat) (e p lp : Int) (hp0 : -348 ≤ p) (hp1 : p ≤ 347) (v0 v1 v2 : Value) (hi lo : Nat) (hg : w.heap[g]? = some (.cells #[v0, v1, v2] 228 (0, 0)))
    (k0 : w.cell? ⟨12, (p + 348).toNat * 2, none⟩ = some (.int .u64 hi)) (k1 : w.cell? ⟨12, (p + 348).toNat * 2 + 1, none⟩ = some (.int .u64 lo)) (_hne : g ≠ 12) :
    Calls Tryz.prog 200 #[.pointer (some ⟨g, 0, none⟩), .int .i64 e, .int .i64 p, .int .i64 lp] w fun e' w' => e' = .returned (.tuple #[]) ∧ PreAt w g hi lo (wrap64 (-wrap64 (wrap64 (e + lp) + 3))) w' := by
  have c0 := cell_of_heap hg 0 rfl
  have c1 := cell_of_heap hg 1 rfl
  have c2 := cell_of_heap hg 2 rfl
  have f0 := free_of_heap hg 0
  have f1 := free_of_heap hg 1
  have f2 := free_of_heap hg 2
  have HG := Lib.hid hg
  clear hg
  go_enter Tryz.func200, Tryz.ntmps200
  go_wp2
  go_end0
  exact ⟨rfl, heap_setCell (heap_setCell (heap_setCell HG.out 0 _) 1 _) 2 _, (((Kept.refl g w).setCell 0 _).setCell 1 _).setCell 2 _⟩

set_option maxHeartbeats 1000000 in
theorem bool2i_any (b : Bool) (w : World) : Calls Tryz.prog 202 #[.bool b] w fun e w' => e = .returned (.int .i64 (b2 b)) ∧ w = w' := by
  cases b
  · go_enter Tryz.func202, Tryz.ntmps202
    go_wp2
    go_ret
    exact ⟨rfl, rfl⟩
  · go_enter Tryz.func202, Tryz.ntmps202
    go_wp2
    go_ret
    exact ⟨rfl, rfl⟩

theorem grown_new {w w1 : World} {o : Obj} (h : Kept w.heap.size (w.alloc o) w1) : w.grownBy w1 none :=
  ⟨h.os, h.tape, h.output, Nat.le_trans (by simp) h.size, fun k hk _ => (h.block k (by simp; omega) (by omega)).trans (heap_alloc_lt hk)⟩
theorem _root_.Go.World.grownBy.drewN' {u v : World} {r : Option Nat} (h : u.grownBy v r) (n : Nat) : u.grownBy (v.drewN n) r := ⟨h.os, h.tape, h.output, h.size, h.block⟩
/-- Is the unrounded number beyond 53 digits? -/
def pfK (U : Int) : Int := b2 (decide (unminF 9007199254740992 ≤ U))
def pfU (U : Int) : Int := bits .or .u64 (U / 2 ^ (pfK U).toNat) (bits .and .u64 U 1)
def pfEnd (E U sign : Int) : Int × Bool := packF (bits .or .u64 sign (roundF (pfU U))) (-(E - pfK U))
def pfE (d : Nat) (p : Int) : Int := min 1074 (53 - (Lib.bitLen d : Int) - p * 108853 / 32768)
def pfS (d : Nat) (p : Int) : Nat := (61 - pfE d p - Lib.bitLen d - p * 108853 / 32768).toNat
/-- parseFloat64: the bits, and whether it is beyond all. -/
def pf64F (d : Nat) (p sign : Int) (hi lo : Nat) : Int × Bool :=
  if 64 ≤ pfS d p then (bits .or .u64 sign 0, false)
  else pfEnd (pfE d p) (uscaleF (d * 2 ^ (64 - Lib.bitLen d) % 18446744073709551616) hi lo (pfS d p)) sign

theorem bitLenAux_le : ∀ f x, Lib.bitLenAux f x ≤ f
  | 0, _ => Nat.le_refl _
  | f + 1, x => by
    simp only [Lib.bitLenAux]
    split
    · omega
    · have := bitLenAux_le f (x / 2); omega
theorem bitLen_le (x : Nat) : Lib.bitLen x ≤ 64 := bitLenAux_le 64 x
theorem bitLen_pos (d : Nat) (h : d ≠ 0) (hd : d < 18446744073709551616) : 1 ≤ Lib.bitLen d := by
  rw [Lib.bitLen_half d h (by omega)]; omega
set_option maxHeartbeats 2000000 in
set_option maxRecDepth 100000 in
theorem parseFloat64_any (w : World) (d : Nat) (p sign : Int) (hp0 : -348 ≤ p) (hp1 : p ≤ 347) (hd0 : d ≠ 0) (hd : d < 18446744073709551616) (hi lo : Nat) (hhi : hi < 18446744073709551616) (hlo : lo < 18446744073709551616)
    (k0 : w.cell? ⟨12, (p + 348).toNat * 2, none⟩ = some (.int .u64 hi)) (k1 : w.cell? ⟨12, (p + 348).toNat * 2 + 1, none⟩ = some (.int .u64 lo)) :
    Calls Tryz.prog 181 #[.int .u64 d, .int .i64 p, .int .u64 sign] w fun e' w' => e' = .returned (.tuple #[.float .f64 (pf64F d p sign hi lo).1.toNat, rangeV (pf64F d p sign hi lo).2]) ∧ w.grownBy w' none := by
  have hF : pf64F d p sign hi lo = if 64 ≤ pfS d p then (bits .or .u64 sign 0, false) else pfEnd (pfE d p) (uscaleF (d * 2 ^ (64 - Lib.bitLen d) % 18446744073709551616) hi lo (pfS d p)) sign := rfl
  have b1 := bitLen_pos d hd0 hd
  have b2' := bitLen_le d
  have hE0 : pfE d p = min 1074 (53 - (Lib.bitLen d : Int) - p * 108853 / 32768) := rfl
  have hS0 : pfS d p = (61 - pfE d p - Lib.bitLen d - p * 108853 / 32768).toNat := rfl
  have l1 : -1200 ≤ p * 108853 / 32768 := by omega
  have l2 : p * 108853 / 32768 ≤ 1200 := by omega
  have CB := sh_bits_Len64 d w (by omega) (by omega)
  rw [Int.toNat_natCast] at CB
  have CL := l2p_any p w (by omega) (by omega)
  generalize pfE d p = E at hF hE0 hS0
  generalize pfS d p = S at hF hS0
  generalize Lib.bitLen d = B at hF hE0 hS0 CB b1 b2'
  generalize p * 108853 / 32768 = LP at hE0 hS0 CL l1 l2
  have HCB := Lib.hid (CB.mono fun e w' (h : _ ∧ _) => (⟨h.1, h.2.symm⟩ : _ ∧ w = w'))
  have HCL := Lib.hid CL
  have hs12 : 12 < w.heap.size := World.block_lt_of_cell? w _ k0
  have e1 : E ≤ 1074 := by omega
  have e2 : E ≤ 53 - B - LP := by omega
  have e3 : -2000 ≤ E := by omega
  have hS1 : (S : Int) = 61 - E - B - LP := by omega
  have HS : RowKit.Hid (wrap64 (-wrap64 (wrap64 (E - (64 - (B : Int)) + LP) + 3)) = (S : Int)) := by show _ = _; unfold wrap64; omega
  have hE := hE0.symm
  obtain ⟨X, hX⟩ : ∃ X : Nat, X = d * 2 ^ (64 - B) % 18446744073709551616 := ⟨_, rfl⟩
  have hXw : IntKind.u64.wrap ((d : Int) * 2 ^ (64 - B)) = (X : Int) := by
    rw [hX, IntKind.wrap_u64, Int.natCast_emod, Int.natCast_mul, Int.natCast_pow]; rfl
  have hXl : X < 18446744073709551616 := by rw [hX]; exact Nat.mod_lt _ (by decide)
  rw [← hX] at hF
  rw [hF]
  have HXL := Lib.hid hXl
  have HH := Lib.hid hhi
  have HL := Lib.hid hlo
  clear CB CL hd hd0 hS0 hS1 hE0 hF hX hXl hhi hlo
  by_cases h64 : 64 ≤ S
  · rw [if_pos h64]
    have h64' : 64 ≤ (S : Int) := by omega
    have fb := frombits_run
    clear hXw
    go_enter Tryz.func181, Tryz.ntmps181
    go_wp2_with (first
      | (go_at_call 198; refine HCB.out.mono ?_; rintro e w1 ⟨rfl, rfl⟩)
      | (go_at_call 199; refine HCL.out.mono ?_; rintro e w1 ⟨rfl, rfl⟩)
      | (go_at_call 200; refine (prescale_any _ w.heap.size _ p LP hp0 hp1 _ _ _ hi lo (heap_alloc_new w _) ((World.grownBy_alloc w _ none).cell k0 (by simp)) ((World.grownBy_alloc w _ none).cell k1 (by simp)) (by omega)).mono ?_; rintro e w1 ⟨rfl, hg1, hk1⟩; rw [HS.out] at hg1; have z2 := cell_of_heap hg1 2 rfl; have HK := Lib.hid hk1; clear hg1 hk1))
    go_ret2
    exact ⟨rfl, grown_new HK.out⟩
  · rw [if_neg h64]
    have h64' : ¬ 64 ≤ (S : Int) := by omega
    have HLT := Lib.hid (show S < 64 by omega)
    obtain ⟨U, hU⟩ : ∃ U, U = uscaleF X hi lo S := ⟨_, rfl⟩
    obtain ⟨K, hK⟩ : ∃ K, K = pfK U := ⟨_, rfl⟩
    have hKr := b2_range (decide (unminF 9007199254740992 ≤ U))
    have hend : pfEnd E U sign = packF (bits .or .u64 sign (roundF (bits .or .u64 (U / 2 ^ K.toNat) (bits .and .u64 U 1)))) (-(E - K)) := by rw [hK]; rfl
    rw [← hU, hend]
    have CK := fun w => bool2i_any (decide (unminF 9007199254740992 ≤ U)) w
    rw [show b2 (decide (unminF 9007199254740992 ≤ U)) = K from hK.symm] at hKr CK
    obtain ⟨hK0, hK1⟩ := hKr
    have HCK := Lib.hid CK
    have HU := Lib.hid hU
    clear hend hU hK CK
    generalize hN : unminF 9007199254740992 = N at HCK
    have HN := Lib.hid hN
    clear hN
    go_enter Tryz.func181, Tryz.ntmps181
    go_wp2_with (first
      | (go_at_call 198; refine HCB.out.mono ?_; rintro e w1 ⟨rfl, rfl⟩)
      | (go_at_call 199; refine HCL.out.mono ?_; rintro e w1 ⟨rfl, rfl⟩)
      | (go_at_call 200; refine (prescale_any _ w.heap.size _ p LP hp0 hp1 _ _ _ hi lo (heap_alloc_new w _) ((World.grownBy_alloc w _ none).cell k0 (by simp)) ((World.grownBy_alloc w _ none).cell k1 (by simp)) (by omega)).mono ?_; rintro e w1 ⟨rfl, hg1, hk1⟩; rw [HS.out] at hg1; have z0 := cell_of_heap hg1 0 rfl; have z1 := cell_of_heap hg1 1 rfl; have z2 := cell_of_heap hg1 2 rfl; have HK := Lib.hid hk1; clear hg1 hk1)
      | (go_at_call 201; refine (uscale_any X hi lo S HXL.out HH.out HL.out HLT.out _ w.heap.size z0 z1 z2).mono ?_; rintro e w2 ⟨he, nq, rfl⟩; rw [← HU.out] at he; subst he)
      | (go_at_call 203; refine (unmin_any _ _).mono ?_; rintro e w3 ⟨he, rfl⟩; rw [HN.out] at he; subst he)
      | (go_at_call 202; refine (HCK.out _).mono ?_; rintro e w3 ⟨rfl, rfl⟩)
      | (go_at_call 205; refine (round_any _ _).mono ?_; rintro e w3 ⟨rfl, rfl⟩)
      | (go_at_call 208; refine (pack64_any _ _ _).mono ?_; rintro e w3 ⟨rfl, rfl⟩))
    go_ret2
    exact ⟨rfl, (grown_new HK.out).drewN' _⟩
end Go.Proofs.YtaecbclonmhbcaaGreatDoor

/- internal/strconv.pack32, parseFloat32. Printed by gen_fl3.py. -/
namespace Go.Proofs.YtaecbclonmhbcaaGreatDoor
open Go.RowKit

theorem frombits32_run (m : Int) (w : World) : (callFunc 173 #[.int .u32 m]).run Tryz.prog w = .ok (.value (.float .f32 m.toNat)) w := by
  rw [run_callFunc_extern Tryz.func173 (by kernel_rfl) (by kernel_rfl) (by kernel_rfl) (e := Extern.MathFloatBits.float32frombits) (by kernel_rfl)]
  rfl

/-- pack32: the bits, and whether it is beyond all. -/
def pack32F (m e : Int) : Int × Bool :=
  if bits .and .u32 m 8388608 == 0 then (m, false)
  else if 105 ≤ e then (bits .or .u32 (bits .and .u32 m 2147483648) 2139095040, true)
  else (bits .or .u32 (bits .andNot .u32 m 8388608) (IntKind.u32.wrap (IntKind.u32.wrap (wrap64 (150 + e)) * 8388608)), false)
set_option maxHeartbeats 1000000 in
set_option maxRecDepth 100000 in
theorem pack32_any (w : World) (m e : Int) : Calls Tryz.prog 204 #[.int .u32 m, .int .i64 e] w fun e' w' => e' = .returned (.tuple #[.float .f32 (pack32F m e).1.toNat, rangeV (pack32F m e).2]) ∧ w = w' := by
  have fb := frombits32_run
  cases h0 : bits .and .u32 m 8388608 == 0 with
  | true =>
    have hF : pack32F m e = (m, false) := by unfold pack32F; rw [h0]; rfl
    rw [hF]
    clear hF
    go_enter Tryz.func204, Tryz.ntmps204
    go_wp2
    go_ret2
    exact ⟨rfl, rfl⟩
  | false =>
    by_cases h1 : 105 ≤ e
    · have hF : pack32F m e = (bits .or .u32 (bits .and .u32 m 2147483648) 2139095040, true) := by unfold pack32F; rw [h0, if_neg (by decide), if_pos h1]
      rw [hF]
      clear hF
      go_enter Tryz.func204, Tryz.ntmps204
      go_wp2
      go_ret2
      exact ⟨rfl, rfl⟩
    · have hF : pack32F m e = (bits .or .u32 (bits .andNot .u32 m 8388608) (IntKind.u32.wrap (IntKind.u32.wrap (wrap64 (150 + e)) * 8388608)), false) := by unfold pack32F; rw [h0, if_neg (by decide), if_neg h1]
      rw [hF]
      clear hF
      go_enter Tryz.func204, Tryz.ntmps204
      go_wp2
      go_ret2
      exact ⟨rfl, rfl⟩
/-- Is the unrounded number beyond 24 digits? -/
def pgK (U : Int) : Int := b2 (decide (unminF 16777216 ≤ U))
def pgU (U : Int) : Int := bits .or .u64 (U / 2 ^ (pgK U).toNat) (bits .and .u64 U 1)
def pgEnd (E U sign : Int) : Int × Bool := pack32F (bits .or .u32 sign (IntKind.u32.wrap (roundF (pgU U)))) (-(E - pgK U))
def pgE (d : Nat) (p : Int) : Int := min 149 (24 - (Lib.bitLen d : Int) - p * 108853 / 32768)
def pgS (d : Nat) (p : Int) : Nat := (61 - pgE d p - Lib.bitLen d - p * 108853 / 32768).toNat
/-- parseFloat32: the bits, and whether it is beyond all. -/
def pf32F (d : Nat) (p sign : Int) (hi lo : Nat) : Int × Bool :=
  if 64 ≤ pgS d p then (bits .or .u32 sign 0, false)
  else pgEnd (pgE d p) (uscaleF (d * 2 ^ (64 - Lib.bitLen d) % 18446744073709551616) hi lo (pgS d p)) sign

set_option maxHeartbeats 2000000 in
set_option maxRecDepth 100000 in
theorem parseFloat32_any (w : World) (d : Nat) (p sign : Int) (hp0 : -348 ≤ p) (hp1 : p ≤ 347) (hd0 : d ≠ 0) (hd : d < 18446744073709551616) (hi lo : Nat) (hhi : hi < 18446744073709551616) (hlo : lo < 18446744073709551616)
    (k0 : w.cell? ⟨12, (p + 348).toNat * 2, none⟩ = some (.int .u64 hi)) (k1 : w.cell? ⟨12, (p + 348).toNat * 2 + 1, none⟩ = some (.int .u64 lo)) :
    Calls Tryz.prog 175 #[.int .u64 d, .int .i64 p, .int .u32 sign] w fun e' w' => e' = .returned (.tuple #[.float .f32 (pf32F d p sign hi lo).1.toNat, rangeV (pf32F d p sign hi lo).2]) ∧ w.grownBy w' none := by
  have hF : pf32F d p sign hi lo = if 64 ≤ pgS d p then (bits .or .u32 sign 0, false) else pgEnd (pgE d p) (uscaleF (d * 2 ^ (64 - Lib.bitLen d) % 18446744073709551616) hi lo (pgS d p)) sign := rfl
  have b1 := bitLen_pos d hd0 hd
  have b2' := bitLen_le d
  have hE0 : pgE d p = min 149 (24 - (Lib.bitLen d : Int) - p * 108853 / 32768) := rfl
  have hS0 : pgS d p = (61 - pgE d p - Lib.bitLen d - p * 108853 / 32768).toNat := rfl
  have l1 : -1200 ≤ p * 108853 / 32768 := by omega
  have l2 : p * 108853 / 32768 ≤ 1200 := by omega
  have CB := sh_bits_Len64 d w (by omega) (by omega)
  rw [Int.toNat_natCast] at CB
  have CL := l2p_any p w (by omega) (by omega)
  generalize pgE d p = E at hF hE0 hS0
  generalize pgS d p = S at hF hS0
  generalize Lib.bitLen d = B at hF hE0 hS0 CB b1 b2'
  generalize p * 108853 / 32768 = LP at hE0 hS0 CL l1 l2
  have HCB := Lib.hid (CB.mono fun e w' (h : _ ∧ _) => (⟨h.1, h.2.symm⟩ : _ ∧ w = w'))
  have HCL := Lib.hid CL
  have hs12 : 12 < w.heap.size := World.block_lt_of_cell? w _ k0
  have e1 : E ≤ 149 := by omega
  have e2 : E ≤ 24 - B - LP := by omega
  have e3 : -2000 ≤ E := by omega
  have hS1 : (S : Int) = 61 - E - B - LP := by omega
  have HS : RowKit.Hid (wrap64 (-wrap64 (wrap64 (E - (64 - (B : Int)) + LP) + 3)) = (S : Int)) := by show _ = _; unfold wrap64; omega
  have hE := hE0.symm
  obtain ⟨X, hX⟩ : ∃ X : Nat, X = d * 2 ^ (64 - B) % 18446744073709551616 := ⟨_, rfl⟩
  have hXw : IntKind.u64.wrap ((d : Int) * 2 ^ (64 - B)) = (X : Int) := by
    rw [hX, IntKind.wrap_u64, Int.natCast_emod, Int.natCast_mul, Int.natCast_pow]; rfl
  have hXl : X < 18446744073709551616 := by rw [hX]; exact Nat.mod_lt _ (by decide)
  rw [← hX] at hF
  rw [hF]
  have HXL := Lib.hid hXl
  have HH := Lib.hid hhi
  have HL := Lib.hid hlo
  clear CB CL hd hd0 hS0 hS1 hE0 hF hX hXl hhi hlo
  by_cases h64 : 64 ≤ S
  · rw [if_pos h64]
    have h64' : 64 ≤ (S : Int) := by omega
    have fb := frombits32_run
    clear hXw
    go_enter Tryz.func175, Tryz.ntmps175
    go_wp2_with (first
      | (go_at_call 198; refine HCB.out.mono ?_; rintro e w1 ⟨rfl, rfl⟩)
      | (go_at_call 199; refine HCL.out.mono ?_; rintro e w1 ⟨rfl, rfl⟩)
      | (go_at_call 200; refine (prescale_any _ w.heap.size _ p LP hp0 hp1 _ _ _ hi lo (heap_alloc_new w _) ((World.grownBy_alloc w _ none).cell k0 (by simp)) ((World.grownBy_alloc w _ none).cell k1 (by simp)) (by omega)).mono ?_; rintro e w1 ⟨rfl, hg1, hk1⟩; rw [HS.out] at hg1; have z2 := cell_of_heap hg1 2 rfl; have HK := Lib.hid hk1; clear hg1 hk1))
    go_ret2
    exact ⟨rfl, grown_new HK.out⟩
  · rw [if_neg h64]
    have h64' : ¬ 64 ≤ (S : Int) := by omega
    have HLT := Lib.hid (show S < 64 by omega)
    obtain ⟨U, hU⟩ : ∃ U, U = uscaleF X hi lo S := ⟨_, rfl⟩
    obtain ⟨K, hK⟩ : ∃ K, K = pgK U := ⟨_, rfl⟩
    have hKr := b2_range (decide (unminF 16777216 ≤ U))
    have hend : pgEnd E U sign = pack32F (bits .or .u32 sign (IntKind.u32.wrap (roundF (bits .or .u64 (U / 2 ^ K.toNat) (bits .and .u64 U 1))))) (-(E - K)) := by rw [hK]; rfl
    rw [← hU, hend]
    have CK := fun w => bool2i_any (decide (unminF 16777216 ≤ U)) w
    rw [show b2 (decide (unminF 16777216 ≤ U)) = K from hK.symm] at hKr CK
    obtain ⟨hK0, hK1⟩ := hKr
    have HCK := Lib.hid CK
    have HU := Lib.hid hU
    clear hend hU hK CK
    generalize hN : unminF 16777216 = N at HCK
    have HN := Lib.hid hN
    clear hN
    go_enter Tryz.func175, Tryz.ntmps175
    go_wp2_with (first
      | (go_at_call 198; refine HCB.out.mono ?_; rintro e w1 ⟨rfl, rfl⟩)
      | (go_at_call 199; refine HCL.out.mono ?_; rintro e w1 ⟨rfl, rfl⟩)
      | (go_at_call 200; refine (prescale_any _ w.heap.size _ p LP hp0 hp1 _ _ _ hi lo (heap_alloc_new w _) ((World.grownBy_alloc w _ none).cell k0 (by simp)) ((World.grownBy_alloc w _ none).cell k1 (by simp)) (by omega)).mono ?_; rintro e w1 ⟨rfl, hg1, hk1⟩; rw [HS.out] at hg1; have z0 := cell_of_heap hg1 0 rfl; have z1 := cell_of_heap hg1 1 rfl; have z2 := cell_of_heap hg1 2 rfl; have HK := Lib.hid hk1; clear hg1 hk1)
      | (go_at_call 201; refine (uscale_any X hi lo S HXL.out HH.out HL.out HLT.out _ w.heap.size z0 z1 z2).mono ?_; rintro e w2 ⟨he, nq, rfl⟩; rw [← HU.out] at he; subst he)
      | (go_at_call 203; refine (unmin_any _ _).mono ?_; rintro e w3 ⟨he, rfl⟩; rw [HN.out] at he; subst he)
      | (go_at_call 202; refine (HCK.out _).mono ?_; rintro e w3 ⟨rfl, rfl⟩)
      | (go_at_call 205; refine (round_any _ _).mono ?_; rintro e w3 ⟨rfl, rfl⟩)
      | (go_at_call 204; refine (pack32_any _ _ _).mono ?_; rintro e w3 ⟨rfl, rfl⟩))
    go_ret2
    exact ⟨rfl, (grown_new HK.out).drewN' _⟩
end Go.Proofs.YtaecbclonmhbcaaGreatDoor
