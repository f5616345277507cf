/- base64: slices within the text and the room, digits put together as a function. -/
import Derived.Test.YtaecbclonmhbcaaGreatDoorG23
set_option linter.unusedVariables false
set_option linter.unusedSimpArgs false
/- base64: slices within the text and the room, digits put together as a function. -/
namespace Go.Proofs.YtaecbclonmhbcaaGreatDoor
open Go.RowKit

theorem elem22 : Tryz.prog.elem 22 = 5 := by kernel_rfl
theorem size5 (W : World) : (sizeOf 5).run Tryz.prog W = .ok 1 W := by show _ = _; kernel_rfl
/-- src[si:si+m]. -/
theorem slice_lh (sb so L sc si m : Nat) (h1 : si + m ≤ sc) (hm : 0 < m) (W : World) :
    (Instr.slice 22 (.slice (some ⟨sb, so, none⟩) L sc) (some (.int .i64 si)) (some (.int .i64 (si + m))) none).run Tryz.prog W = .ok (.slice (some ⟨sb, so + si, none⟩) m (sc - si)) W := by
  have hu : Tryz.prog.underlying 22 = some (.slice (Tryz.prog.elem 22)) := by rw [elem22]; exact Tryz.underlying22
  rw [run_slice_lh (P := Tryz.prog) (t := 22) (ht := hu) (h0 := by omega) (h1 := by omega) (h2 := by omega), elem22, size5]
  simp [Result.andThen, sliced, Addr.add]
  rw [if_neg (by omega)]
  refine ⟨?_, by omega⟩
  by_cases h0 : si = 0
  · subst h0; simp
  · rw [if_neg h0]
/-- dst[n:]. -/
theorem slice_l (pd : Option Addr) (d D n : Nat) (hpd : pd = some ⟨d, 0, none⟩) (h : n ≤ D) : ∃ pd' : Option Addr, (n < D → pd' = some ⟨d, n, none⟩) ∧ ∀ W : World, (Instr.slice 22 (.slice pd D D) (some (.int .i64 n)) none none).run Tryz.prog W = .ok (.slice pd' (D - n) (D - n)) W := by
  have hu : Tryz.prog.underlying 22 = some (.slice (Tryz.prog.elem 22)) := by rw [elem22]; exact Tryz.underlying22
  subst hpd
  refine ⟨some (if D = n then ⟨d, 0, none⟩ else ⟨d, n, none⟩), fun hn => by rw [if_neg (by omega)], fun W => ?_⟩
  rw [run_slice_l (P := Tryz.prog) (t := 22) (ht := hu) (h0 := by omega) (h1 := by omega), elem22, size5]
  simp [Result.andThen, sliced, Addr.add]
  by_cases h1 : D = n
  · rw [if_pos h1, if_pos h1]
  · rw [if_neg h1, if_neg h1]
    by_cases h0 : n = 0
    · subst h0; rfl
    · rw [if_neg h0]

def asm64X (a b c d e f g h : Int) : Int := (bits .or .u64 (bits .or .u64 (bits .or .u64 (bits .or .u64 (bits .or .u64 (bits .or .u64 (bits .or .u64 (IntKind.u64.wrap (IntKind.u64.wrap a * 288230376151711744)) (IntKind.u64.wrap (IntKind.u64.wrap b * 4503599627370496))) (IntKind.u64.wrap (IntKind.u64.wrap c * 70368744177664))) (IntKind.u64.wrap (IntKind.u64.wrap d * 1099511627776))) (IntKind.u64.wrap (IntKind.u64.wrap e * 17179869184))) (IntKind.u64.wrap (IntKind.u64.wrap f * 268435456))) (IntKind.u64.wrap (IntKind.u64.wrap g * 4194304))) (IntKind.u64.wrap (IntKind.u64.wrap h * 65536)))
def asm32X (a b c d : Int) : Int := (bits .or .u32 (bits .or .u32 (bits .or .u32 (IntKind.u32.wrap (IntKind.u32.wrap a * 67108864)) (IntKind.u32.wrap (IntKind.u32.wrap b * 1048576))) (IntKind.u32.wrap (IntKind.u32.wrap c * 16384))) (IntKind.u32.wrap (IntKind.u32.wrap d * 256)))
theorem asm64_fix (a b c d e f g h : Int) : ∃ (x : Int) (o : Bool), ∀ w, Calls Tryz.prog 137 #[.int .u8 a, .int .u8 b, .int .u8 c, .int .u8 d, .int .u8 e, .int .u8 f, .int .u8 g, .int .u8 h] w fun e w' => e = .returned (.tuple #[.int .u64 x, .bool o]) ∧ w = w' := by
  cases hb : (bits .or .u8 (bits .or .u8 (bits .or .u8 (bits .or .u8 (bits .or .u8 (bits .or .u8 (bits .or .u8 a b) c) d) e) f) g) h == 255)
  · refine ⟨asm64X a b c d e f g h, true, fun w => ?_⟩
    go_enter Tryz.func137, Tryz.ntmps137
    go_wp2
    go_ret2
    exact ⟨rfl, rfl⟩
  · refine ⟨0, false, fun w => ?_⟩
    go_enter Tryz.func137, Tryz.ntmps137
    go_wp2
    go_ret2
    exact ⟨rfl, rfl⟩
theorem asm32_fix (a b c d : Int) : ∃ (x : Int) (o : Bool), ∀ w, Calls Tryz.prog 140 #[.int .u8 a, .int .u8 b, .int .u8 c, .int .u8 d] w fun e w' => e = .returned (.tuple #[.int .u32 x, .bool o]) ∧ w = w' := by
  cases hb : (bits .or .u8 (bits .or .u8 (bits .or .u8 a b) c) d == 255)
  · refine ⟨asm32X a b c d, true, fun w => ?_⟩
    go_enter Tryz.func140, Tryz.ntmps140
    go_wp2
    go_ret2
    exact ⟨rfl, rfl⟩
  · refine ⟨0, false, fun w => ?_⟩
    go_enter Tryz.func140, Tryz.ntmps140
    go_wp2
    go_ret2
    exact ⟨rfl, rfl⟩
end Go.Proofs.YtaecbclonmhbcaaGreatDoor
