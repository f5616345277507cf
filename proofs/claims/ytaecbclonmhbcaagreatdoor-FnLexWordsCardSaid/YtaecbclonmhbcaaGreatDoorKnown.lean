/- knownLexer's number: strconv.ParseInt("12", 10, 64). -/
import Derived.Test.YtaecbclonmhbcaaGreatDoorBad
import Derived.LoopN
namespace Go.Proofs.YtaecbclonmhbcaaGreatDoor
open Go.RowKit

set_option maxHeartbeats 4000000 in
set_option maxRecDepth 100000 in
theorem puint_12 (w : World) :
    Calls Tryz.prog 142 #[.string ⟨#[49, 50]⟩, .int .i64 10, .int .i64 64] w fun e w' => e = .returned (.tuple #[.int .u64 12, .nilIface]) ∧ w.grownBy w' none := by
  have hcv := run_bytes_of_string (P := Tryz.prog) w 9 22 5 ⟨#[49, 50]⟩ Tryz.underlying9 Tryz.underlying22 Tryz.underlying5
  have hge := grownCap_ge w (ByteArray.mk #[49, 50]).size 0 5
  generalize grownCap w (ByteArray.mk #[49, 50]).size 0 5 = cp at hcv hge
  have k0 : (w.drew.alloc (.cells (bytesRow ⟨#[49, 50]⟩ cp) 5 ((bytesRow ⟨#[49, 50]⟩ cp).size, (bytesRow ⟨#[49, 50]⟩ cp).size + 1))).cell? ⟨w.heap.size, 0, none⟩ = some (.int .u8 49) := cell_of_heap (heap_alloc_new w.drew _) 0 (bytesRow_at _ _ 0 (by decide))
  have k1 : (w.drew.alloc (.cells (bytesRow ⟨#[49, 50]⟩ cp) 5 ((bytesRow ⟨#[49, 50]⟩ cp).size, (bytesRow ⟨#[49, 50]⟩ cp).size + 1))).cell? ⟨w.heap.size, 1, none⟩ = some (.int .u8 50) := cell_of_heap (heap_alloc_new w.drew _) 1 (bytesRow_at _ _ 1 (by decide))
  have hg : w.grownBy (w.drew.alloc (.cells (bytesRow ⟨#[49, 50]⟩ cp) 5 ((bytesRow ⟨#[49, 50]⟩ cp).size, (bytesRow ⟨#[49, 50]⟩ cp).size + 1))) none := ⟨rfl, rfl, rfl, by simp, fun k hk _ => heap_alloc_lt (w := w.drew) hk⟩
  generalize w.drew.alloc (.cells (bytesRow ⟨#[49, 50]⟩ cp) 5 ((bytesRow ⟨#[49, 50]⟩ cp).size, (bytesRow ⟨#[49, 50]⟩ cp).size + 1)) = w1 at hcv k0 k1 hg
  have HG := Lib.hid hg
  clear hg
  go_enter Tryz.func142, Tryz.ntmps142
  go_wp2
  refine wp_loop_rounds 3 ?_
  rw [rounds_succ]
  go_wp2
  rw [rounds_succ]
  go_wp2
  rw [rounds_succ]
  go_wp2
  go_ret2
  exact ⟨rfl, HG.out⟩

set_option maxHeartbeats 4000000 in
set_option maxRecDepth 100000 in
theorem pint_12 (w : World) :
    Calls Tryz.prog 143 #[.string ⟨#[49, 50]⟩, .int .i64 10, .int .i64 64] w fun e w' => e = .returned (.tuple #[.int .i64 12, .nilIface]) ∧ w.grownBy w' none := by
  go_enter Tryz.func143, Tryz.ntmps143
  go_wp2_with (go_at_call 142; refine (puint_12 _).mono ?_; rintro e w1 ⟨rfl, hg⟩)
  go_ret2
  exact ⟨rfl, hg⟩

set_option maxHeartbeats 4000000 in
set_option maxRecDepth 100000 in
theorem parseInt_12 (w : World) :
    Calls Tryz.prog 116 #[.string ⟨#[49, 50]⟩, .int .i64 10, .int .i64 64] w fun e w' => e = .returned (.tuple #[.int .i64 12, .nilIface]) ∧ w.grownBy w' none := by
  go_enter Tryz.func116, Tryz.ntmps116
  go_wp2_with (go_at_call 143; refine (pint_12 _).mono ?_; rintro e w1 ⟨rfl, hg⟩)
  go_ret2
  exact ⟨rfl, hg⟩
end Go.Proofs.YtaecbclonmhbcaaGreatDoor
