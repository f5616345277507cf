/- internal/strconv.atof64exact, atof32exact: they return. Printed by gen_fl4.py. internal/strconv.readFloat over bytes of numbers. internal/strconv.decimal's set over bytes of numbers. Printed by gen_set.py. -/
import Derived.Test.YtaecbclonmhbcaaGreatDoorP15
import Derived.Deep.DeepCutAuto
import Derived.Deep.CutBlock
import Derived.Deep.LoopGhost
import Derived.WalkMore
set_option linter.unusedVariables false
set_option linter.unusedSimpArgs false
namespace Go.Proofs.YtaecbclonmhbcaaGreatDoor
open Go.RowKit
theorem run_fmul (k : FloatKind) (t : TypeId) (x y : Nat) (w : World) : ∃ r n, (binOp .mul t (.float k x) (.float k y)).run Tryz.prog w = .ok (.float k r) (w.drewN n) := by
  cases h : k.format.mul x y with
  | some r => exact ⟨r, 0, by simp [binOp, Op.floatArith, h]; rfl⟩
  | none => exact ⟨_, 1, by simp [binOp, Op.floatArith, h, choose, Sem.run, Question.forced]; exact ⟨rfl, rfl⟩⟩
theorem run_fquo (k : FloatKind) (t : TypeId) (x y : Nat) (w : World) : ∃ r n, (binOp .quo t (.float k x) (.float k y)).run Tryz.prog w = .ok (.float k r) (w.drewN n) := by
  cases h : k.format.div x y with
  | some r => exact ⟨r, 0, by simp [binOp, Op.floatArith, h]; rfl⟩
  | none => exact ⟨_, 1, by simp [binOp, Op.floatArith, h, choose, Sem.run, Question.forced]; exact ⟨rfl, rfl⟩⟩
def fgt (k : FloatKind) (x y : Nat) : Bool := k.format.order x y == some .gt
def flt (k : FloatKind) (x y : Nat) : Bool := k.format.order x y == some .lt
theorem run_fgt (k : FloatKind) (t : TypeId) (x y : Nat) (w : World) : (binOp .gtr t (.float k x) (.float k y)).run Tryz.prog w = .ok (.bool (fgt k x y)) w := by
  cases k <;> simp [binOp, Op.floatCmp, fgt]
theorem run_flt (k : FloatKind) (t : TypeId) (x y : Nat) (w : World) : (binOp .lss t (.float k x) (.float k y)).run Tryz.prog w = .ok (.bool (flt k x y)) w := by
  cases k <;> simp [binOp, Op.floatCmp, flt]
theorem run_fneg (k : FloatKind) (x : Nat) (w : World) : (Op.unary .neg (.float k x)).run Tryz.prog w = .ok (.float k (Op.negFloat k x)) w := rfl
def SomeFB (k : FloatKind) (w : World) (e : Ending) (w' : World) : Prop := ∃ f b n, e = .returned (.tuple #[.float k f, .bool b]) ∧ w' = w.drewN n
structure PowT (k : FloatKind) (v n : Nat) (w : World) (T : Nat → Nat) : Prop where
  at_ : ∃ g o cp, w.cell? ⟨v, 0, none⟩ = some (.slice (some ⟨g, o, none⟩) n cp) ∧ ∀ i, i < n → w.cell? ⟨g, o + i, none⟩ = some (.float k (T i))
set_option maxHeartbeats 2000000 in
set_option maxRecDepth 100000 in
theorem exact64_wide (w : World) (m e : Int) (neg : Bool) (c8 : w.cell? ⟨8, 0, none⟩ = some (.int .u64 52)) (h52 : (m / 4503599627370496 != 0) = true) : Calls Tryz.prog 180 #[.int .u64 m, .int .i64 e, .bool neg] w (SomeFB .f64 w) := by
  go_enter Tryz.func180, Tryz.ntmps180
  go_wp2
  all_goals (go_ret2; exact ⟨_, _, _, rfl, by first | exact (rfl : _ = World.drewN _ 0) | rfl | exact World.drewN_drewN _ _ _⟩)
set_option maxHeartbeats 2000000 in
set_option maxRecDepth 100000 in
theorem exact64_zero (w : World) (m e : Int) (neg : Bool) (c8 : w.cell? ⟨8, 0, none⟩ = some (.int .u64 52)) (h52 : (m / 4503599627370496 != 0) = false) (he : e = 0) : Calls Tryz.prog 180 #[.int .u64 m, .int .i64 e, .bool neg] w (SomeFB .f64 w) := by
  subst he
  have fn := run_fneg .f64 (floatOfInt .f64 m)
  cases neg
  · skip
    go_enter Tryz.func180, Tryz.ntmps180
    go_wp2
    all_goals (go_ret2; exact ⟨_, _, _, rfl, by first | exact (rfl : _ = World.drewN _ 0) | rfl | exact World.drewN_drewN _ _ _⟩)
  · skip
    go_enter Tryz.func180, Tryz.ntmps180
    go_wp2
    all_goals (go_ret2; exact ⟨_, _, _, rfl, by first | exact (rfl : _ = World.drewN _ 0) | rfl | exact World.drewN_drewN _ _ _⟩)
set_option maxHeartbeats 2000000 in
set_option maxRecDepth 100000 in
theorem exact64_far (w : World) (m e : Int) (neg : Bool) (c8 : w.cell? ⟨8, 0, none⟩ = some (.int .u64 52)) (h52 : (m / 4503599627370496 != 0) = false) (he : e < -22 ∨ 37 < e) : Calls Tryz.prog 180 #[.int .u64 m, .int .i64 e, .bool neg] w (SomeFB .f64 w) := by
  have g1 : (e == 0) = false := beq_eq_false_iff_ne.2 (by omega)
  have fn := run_fneg .f64 (floatOfInt .f64 m)
  rcases he with he | he
  · have g2 : ¬ 0 < e := by omega
    have g3 : e < 0 := by omega
    have g4 : ¬ -22 ≤ e := by omega
    cases neg
    · skip
      go_enter Tryz.func180, Tryz.ntmps180
      go_wp2
      all_goals (go_ret2; exact ⟨_, _, _, rfl, by first | exact (rfl : _ = World.drewN _ 0) | rfl | exact World.drewN_drewN _ _ _⟩)
    · skip
      go_enter Tryz.func180, Tryz.ntmps180
      go_wp2
      all_goals (go_ret2; exact ⟨_, _, _, rfl, by first | exact (rfl : _ = World.drewN _ 0) | rfl | exact World.drewN_drewN _ _ _⟩)
  · have g2 : 0 < e := by omega
    have g3 : ¬ e < 0 := by omega
    have g4 : ¬ e ≤ 37 := by omega
    cases neg
    · skip
      go_enter Tryz.func180, Tryz.ntmps180
      go_wp2
      all_goals (go_ret2; exact ⟨_, _, _, rfl, by first | exact (rfl : _ = World.drewN _ 0) | rfl | exact World.drewN_drewN _ _ _⟩)
    · skip
      go_enter Tryz.func180, Tryz.ntmps180
      go_wp2
      all_goals (go_ret2; exact ⟨_, _, _, rfl, by first | exact (rfl : _ = World.drewN _ 0) | rfl | exact World.drewN_drewN _ _ _⟩)
set_option maxHeartbeats 2000000 in
set_option maxRecDepth 100000 in
theorem exact64_quo (w : World) (m e : Int) (neg : Bool) (c8 : w.cell? ⟨8, 0, none⟩ = some (.int .u64 52)) (g o cp : Nat) (T : Nat → Nat) (h52 : (m / 4503599627370496 != 0) = false) (c11 : w.cell? ⟨11, 0, none⟩ = some (.slice (some ⟨g, o, none⟩) 23 cp)) (hT : ∀ i, i < 23 → w.cell? ⟨g, o + i, none⟩ = some (.float .f64 (T i))) (he0 : e < 0) (he1 : -22 ≤ e) : Calls Tryz.prog 180 #[.int .u64 m, .int .i64 e, .bool neg] w (SomeFB .f64 w) := by
  have ct := hT (-e).toNat (by omega)
  have g1 : (e == 0) = false := beq_eq_false_iff_ne.2 (by omega)
  have g2 : ¬ 0 < e := by omega
  have g3 : 0 ≤ -e := by omega
  have g4 : -e ≤ 22 := by omega
  obtain ⟨r, n, hr⟩ := run_fquo .f64 93 (if neg then Op.negFloat .f64 (floatOfInt .f64 m) else floatOfInt .f64 m) (T (-e).toNat) w
  have fn := run_fneg .f64 (floatOfInt .f64 m)
  clear hT
  cases neg
  · simp only [Bool.false_eq_true, if_false] at hr
    go_enter Tryz.func180, Tryz.ntmps180
    go_wp2
    all_goals (go_ret2; exact ⟨_, _, _, rfl, by first | exact (rfl : _ = World.drewN _ 0) | rfl | exact World.drewN_drewN _ _ _⟩)
  · simp only [if_true] at hr
    go_enter Tryz.func180, Tryz.ntmps180
    go_wp2
    all_goals (go_ret2; exact ⟨_, _, _, rfl, by first | exact (rfl : _ = World.drewN _ 0) | rfl | exact World.drewN_drewN _ _ _⟩)
set_option maxHeartbeats 2000000 in
set_option maxRecDepth 100000 in
theorem exact64_mul (w : World) (m e : Int) (neg : Bool) (c8 : w.cell? ⟨8, 0, none⟩ = some (.int .u64 52)) (g o cp : Nat) (T : Nat → Nat) (h52 : (m / 4503599627370496 != 0) = false) (c11 : w.cell? ⟨11, 0, none⟩ = some (.slice (some ⟨g, o, none⟩) 23 cp)) (hT : ∀ i, i < 23 → w.cell? ⟨g, o + i, none⟩ = some (.float .f64 (T i))) (he0 : 0 < e) (he1 : e ≤ 22) : Calls Tryz.prog 180 #[.int .u64 m, .int .i64 e, .bool neg] w (SomeFB .f64 w) := by
  have ct := hT e.toNat (by omega)
  have g1 : (e == 0) = false := beq_eq_false_iff_ne.2 (by omega)
  have g3 : ¬ 22 < e := by omega
  have g4 : e ≤ 37 := by omega
  have g5 : 0 ≤ e := by omega
  obtain ⟨r, n, hr⟩ := run_fmul .f64 93 (if neg then Op.negFloat .f64 (floatOfInt .f64 m) else floatOfInt .f64 m) (T e.toNat) w
  have fn := run_fneg .f64 (floatOfInt .f64 m)
  have hgt := fun x y W => run_fgt .f64 93 x y W
  have hlt := fun x y W => run_flt .f64 93 x y W
  clear hT
  cases neg
  · simp only [Bool.false_eq_true, if_false] at hr
    go_enter Tryz.func180, Tryz.ntmps180
    go_wp2
    all_goals (go_ret2; exact ⟨_, _, _, rfl, by first | exact (rfl : _ = World.drewN _ 0) | rfl | exact World.drewN_drewN _ _ _⟩)
  · simp only [if_true] at hr
    go_enter Tryz.func180, Tryz.ntmps180
    go_wp2
    all_goals (go_ret2; exact ⟨_, _, _, rfl, by first | exact (rfl : _ = World.drewN _ 0) | rfl | exact World.drewN_drewN _ _ _⟩)
set_option maxHeartbeats 2000000 in
set_option maxRecDepth 100000 in
theorem exact64_mul2 (w : World) (m e : Int) (neg : Bool) (c8 : w.cell? ⟨8, 0, none⟩ = some (.int .u64 52)) (g o cp : Nat) (T : Nat → Nat) (h52 : (m / 4503599627370496 != 0) = false) (c11 : w.cell? ⟨11, 0, none⟩ = some (.slice (some ⟨g, o, none⟩) 23 cp)) (hT : ∀ i, i < 23 → w.cell? ⟨g, o + i, none⟩ = some (.float .f64 (T i))) (he0 : 22 < e) (he1 : e ≤ 37) : Calls Tryz.prog 180 #[.int .u64 m, .int .i64 e, .bool neg] w (SomeFB .f64 w) := by
  have ct := hT (e - 22).toNat (by omega)
  have ct2 := hT 22 (by omega)
  have g1 : (e == 0) = false := beq_eq_false_iff_ne.2 (by omega)
  have g3 : 0 < e := by omega
  have g4 : 0 ≤ e - 22 := by omega
  have g5 : e - 22 ≤ 22 := by omega
  obtain ⟨r, n, hr⟩ := run_fmul .f64 93 (if neg then Op.negFloat .f64 (floatOfInt .f64 m) else floatOfInt .f64 m) (T (e - 22).toNat) w
  obtain ⟨r2, n2, hr2⟩ := run_fmul .f64 93 r (T 22) (w.drewN n)
  have fn := run_fneg .f64 (floatOfInt .f64 m)
  have hgt := fun x y W => run_fgt .f64 93 x y W
  have hlt := fun x y W => run_flt .f64 93 x y W
  clear hT
  cases neg
  · simp only [Bool.false_eq_true, if_false] at hr
    go_enter Tryz.func180, Tryz.ntmps180
    go_wp2
    all_goals (go_ret2; exact ⟨_, _, _, rfl, by first | exact (rfl : _ = World.drewN _ 0) | rfl | exact World.drewN_drewN _ _ _⟩)
  · simp only [if_true] at hr
    go_enter Tryz.func180, Tryz.ntmps180
    go_wp2
    all_goals (go_ret2; exact ⟨_, _, _, rfl, by first | exact (rfl : _ = World.drewN _ 0) | rfl | exact World.drewN_drewN _ _ _⟩)
theorem exact64_any (w : World) (m e : Int) (neg : Bool) (c8 : w.cell? ⟨8, 0, none⟩ = some (.int .u64 52)) (T : Nat → Nat) (hP : PowT .f64 11 23 w T) : Calls Tryz.prog 180 #[.int .u64 m, .int .i64 e, .bool neg] w (SomeFB .f64 w) := by
  obtain ⟨g, o, cp, c11, hT⟩ := hP.at_
  cases h52 : m / 4503599627370496 != 0 with
  | true => exact exact64_wide w m e neg c8 h52
  | false =>
    by_cases h0 : e = 0
    · exact exact64_zero w m e neg c8 h52 h0
    by_cases h1 : e < -22 ∨ 37 < e
    · exact exact64_far w m e neg c8 h52 h1
    by_cases h2 : e < 0
    · exact exact64_quo w m e neg c8 g o cp T h52 c11 hT h2 (by omega)
    by_cases h3 : e ≤ 22
    · exact exact64_mul w m e neg c8 g o cp T h52 c11 hT (by omega) h3
    · exact exact64_mul2 w m e neg c8 g o cp T h52 c11 hT (by omega) (by omega)
set_option maxHeartbeats 2000000 in
set_option maxRecDepth 100000 in
theorem exact32_wide (w : World) (m e : Int) (neg : Bool) (h52 : (m / 8388608 != 0) = true) : Calls Tryz.prog 174 #[.int .u64 m, .int .i64 e, .bool neg] w (SomeFB .f32 w) := by
  go_enter Tryz.func174, Tryz.ntmps174
  go_wp2
  all_goals (go_ret2; exact ⟨_, _, _, rfl, by first | exact (rfl : _ = World.drewN _ 0) | rfl | exact World.drewN_drewN _ _ _⟩)
set_option maxHeartbeats 2000000 in
set_option maxRecDepth 100000 in
theorem exact32_zero (w : World) (m e : Int) (neg : Bool) (h52 : (m / 8388608 != 0) = false) (he : e = 0) : Calls Tryz.prog 174 #[.int .u64 m, .int .i64 e, .bool neg] w (SomeFB .f32 w) := by
  subst he
  have fn := run_fneg .f32 (floatOfInt .f32 m)
  cases neg
  · skip
    go_enter Tryz.func174, Tryz.ntmps174
    go_wp2
    all_goals (go_ret2; exact ⟨_, _, _, rfl, by first | exact (rfl : _ = World.drewN _ 0) | rfl | exact World.drewN_drewN _ _ _⟩)
  · skip
    go_enter Tryz.func174, Tryz.ntmps174
    go_wp2
    all_goals (go_ret2; exact ⟨_, _, _, rfl, by first | exact (rfl : _ = World.drewN _ 0) | rfl | exact World.drewN_drewN _ _ _⟩)
set_option maxHeartbeats 2000000 in
set_option maxRecDepth 100000 in
theorem exact32_far (w : World) (m e : Int) (neg : Bool) (h52 : (m / 8388608 != 0) = false) (he : e < -10 ∨ 17 < e) : Calls Tryz.prog 174 #[.int .u64 m, .int .i64 e, .bool neg] w (SomeFB .f32 w) := by
  have g1 : (e == 0) = false := beq_eq_false_iff_ne.2 (by omega)
  have fn := run_fneg .f32 (floatOfInt .f32 m)
  rcases he with he | he
  · have g2 : ¬ 0 < e := by omega
    have g3 : e < 0 := by omega
    have g4 : ¬ -10 ≤ e := by omega
    cases neg
    · skip
      go_enter Tryz.func174, Tryz.ntmps174
      go_wp2
      all_goals (go_ret2; exact ⟨_, _, _, rfl, by first | exact (rfl : _ = World.drewN _ 0) | rfl | exact World.drewN_drewN _ _ _⟩)
    · skip
      go_enter Tryz.func174, Tryz.ntmps174
      go_wp2
      all_goals (go_ret2; exact ⟨_, _, _, rfl, by first | exact (rfl : _ = World.drewN _ 0) | rfl | exact World.drewN_drewN _ _ _⟩)
  · have g2 : 0 < e := by omega
    have g3 : ¬ e < 0 := by omega
    have g4 : ¬ e ≤ 17 := by omega
    cases neg
    · skip
      go_enter Tryz.func174, Tryz.ntmps174
      go_wp2
      all_goals (go_ret2; exact ⟨_, _, _, rfl, by first | exact (rfl : _ = World.drewN _ 0) | rfl | exact World.drewN_drewN _ _ _⟩)
    · skip
      go_enter Tryz.func174, Tryz.ntmps174
      go_wp2
      all_goals (go_ret2; exact ⟨_, _, _, rfl, by first | exact (rfl : _ = World.drewN _ 0) | rfl | exact World.drewN_drewN _ _ _⟩)
set_option maxHeartbeats 2000000 in
set_option maxRecDepth 100000 in
theorem exact32_quo (w : World) (m e : Int) (neg : Bool) (g o cp : Nat) (T : Nat → Nat) (h52 : (m / 8388608 != 0) = false) (c11 : w.cell? ⟨9, 0, none⟩ = some (.slice (some ⟨g, o, none⟩) 11 cp)) (hT : ∀ i, i < 11 → w.cell? ⟨g, o + i, none⟩ = some (.float .f32 (T i))) (he0 : e < 0) (he1 : -10 ≤ e) : Calls Tryz.prog 174 #[.int .u64 m, .int .i64 e, .bool neg] w (SomeFB .f32 w) := by
  have ct := hT (-e).toNat (by omega)
  have g1 : (e == 0) = false := beq_eq_false_iff_ne.2 (by omega)
  have g2 : ¬ 0 < e := by omega
  have g3 : 0 ≤ -e := by omega
  have g4 : -e ≤ 10 := by omega
  obtain ⟨r, n, hr⟩ := run_fquo .f32 113 (if neg then Op.negFloat .f32 (floatOfInt .f32 m) else floatOfInt .f32 m) (T (-e).toNat) w
  have fn := run_fneg .f32 (floatOfInt .f32 m)
  clear hT
  cases neg
  · simp only [Bool.false_eq_true, if_false] at hr
    go_enter Tryz.func174, Tryz.ntmps174
    go_wp2
    all_goals (go_ret2; exact ⟨_, _, _, rfl, by first | exact (rfl : _ = World.drewN _ 0) | rfl | exact World.drewN_drewN _ _ _⟩)
  · simp only [if_true] at hr
    go_enter Tryz.func174, Tryz.ntmps174
    go_wp2
    all_goals (go_ret2; exact ⟨_, _, _, rfl, by first | exact (rfl : _ = World.drewN _ 0) | rfl | exact World.drewN_drewN _ _ _⟩)
set_option maxHeartbeats 2000000 in
set_option maxRecDepth 100000 in
theorem exact32_mul (w : World) (m e : Int) (neg : Bool) (g o cp : Nat) (T : Nat → Nat) (h52 : (m / 8388608 != 0) = false) (c11 : w.cell? ⟨9, 0, none⟩ = some (.slice (some ⟨g, o, none⟩) 11 cp)) (hT : ∀ i, i < 11 → w.cell? ⟨g, o + i, none⟩ = some (.float .f32 (T i))) (he0 : 0 < e) (he1 : e ≤ 10) : Calls Tryz.prog 174 #[.int .u64 m, .int .i64 e, .bool neg] w (SomeFB .f32 w) := by
  have ct := hT e.toNat (by omega)
  have g1 : (e == 0) = false := beq_eq_false_iff_ne.2 (by omega)
  have g3 : ¬ 10 < e := by omega
  have g4 : e ≤ 17 := by omega
  have g5 : 0 ≤ e := by omega
  obtain ⟨r, n, hr⟩ := run_fmul .f32 113 (if neg then Op.negFloat .f32 (floatOfInt .f32 m) else floatOfInt .f32 m) (T e.toNat) w
  have fn := run_fneg .f32 (floatOfInt .f32 m)
  have hgt := fun x y W => run_fgt .f32 113 x y W
  have hlt := fun x y W => run_flt .f32 113 x y W
  clear hT
  cases neg
  · simp only [Bool.false_eq_true, if_false] at hr
    go_enter Tryz.func174, Tryz.ntmps174
    go_wp2
    all_goals (go_ret2; exact ⟨_, _, _, rfl, by first | exact (rfl : _ = World.drewN _ 0) | rfl | exact World.drewN_drewN _ _ _⟩)
  · simp only [if_true] at hr
    go_enter Tryz.func174, Tryz.ntmps174
    go_wp2
    all_goals (go_ret2; exact ⟨_, _, _, rfl, by first | exact (rfl : _ = World.drewN _ 0) | rfl | exact World.drewN_drewN _ _ _⟩)
set_option maxHeartbeats 2000000 in
set_option maxRecDepth 100000 in
theorem exact32_mul2 (w : World) (m e : Int) (neg : Bool) (g o cp : Nat) (T : Nat → Nat) (h52 : (m / 8388608 != 0) = false) (c11 : w.cell? ⟨9, 0, none⟩ = some (.slice (some ⟨g, o, none⟩) 11 cp)) (hT : ∀ i, i < 11 → w.cell? ⟨g, o + i, none⟩ = some (.float .f32 (T i))) (he0 : 10 < e) (he1 : e ≤ 17) : Calls Tryz.prog 174 #[.int .u64 m, .int .i64 e, .bool neg] w (SomeFB .f32 w) := by
  have ct := hT (e - 10).toNat (by omega)
  have ct2 := hT 10 (by omega)
  have g1 : (e == 0) = false := beq_eq_false_iff_ne.2 (by omega)
  have g3 : 0 < e := by omega
  have g4 : 0 ≤ e - 10 := by omega
  have g5 : e - 10 ≤ 10 := by omega
  obtain ⟨r, n, hr⟩ := run_fmul .f32 113 (if neg then Op.negFloat .f32 (floatOfInt .f32 m) else floatOfInt .f32 m) (T (e - 10).toNat) w
  obtain ⟨r2, n2, hr2⟩ := run_fmul .f32 113 r (T 10) (w.drewN n)
  have fn := run_fneg .f32 (floatOfInt .f32 m)
  have hgt := fun x y W => run_fgt .f32 113 x y W
  have hlt := fun x y W => run_flt .f32 113 x y W
  clear hT
  cases neg
  · simp only [Bool.false_eq_true, if_false] at hr
    go_enter Tryz.func174, Tryz.ntmps174
    go_wp2
    all_goals (go_ret2; exact ⟨_, _, _, rfl, by first | exact (rfl : _ = World.drewN _ 0) | rfl | exact World.drewN_drewN _ _ _⟩)
  · simp only [if_true] at hr
    go_enter Tryz.func174, Tryz.ntmps174
    go_wp2
    all_goals (go_ret2; exact ⟨_, _, _, rfl, by first | exact (rfl : _ = World.drewN _ 0) | rfl | exact World.drewN_drewN _ _ _⟩)
theorem exact32_any (w : World) (m e : Int) (neg : Bool) (T : Nat → Nat) (hP : PowT .f32 9 11 w T) : Calls Tryz.prog 174 #[.int .u64 m, .int .i64 e, .bool neg] w (SomeFB .f32 w) := by
  obtain ⟨g, o, cp, c11, hT⟩ := hP.at_
  cases h52 : m / 8388608 != 0 with
  | true => exact exact32_wide w m e neg h52
  | false =>
    by_cases h0 : e = 0
    · exact exact32_zero w m e neg h52 h0
    by_cases h1 : e < -10 ∨ 17 < e
    · exact exact32_far w m e neg h52 h1
    by_cases h2 : e < 0
    · exact exact32_quo w m e neg g o cp T h52 c11 hT h2 (by omega)
    by_cases h3 : e ≤ 10
    · exact exact32_mul w m e neg g o cp T h52 c11 hT (by omega) h3
    · exact exact32_mul2 w m e neg g o cp T h52 c11 hT (by omega) (by omega)
end Go.Proofs.YtaecbclonmhbcaaGreatDoor

namespace Go.Proofs.YtaecbclonmhbcaaGreatDoor
open Go.RowKit
def NumCh (c : Int) : Prop := (48 ≤ c ∧ c ≤ 57) ∨ c = 46 ∨ c = 101 ∨ c = 69 ∨ c = 43 ∨ c = 45
def NumS (s : ByteArray) : Prop := ∀ j (h : j < s.size), NumCh (s[j].toNat : Int)
set_option maxHeartbeats 1000000 in
theorem lower_any (c : Int) (w : World) : Calls Tryz.prog 160 #[.int .u8 c] w fun e w' => e = .returned (.int .u8 (bits .or .u8 c 32)) ∧ w = w' := by
  go_enter Tryz.func160, Tryz.ntmps160
  go_wp2
  go_ret
  exact ⟨rfl, rfl⟩
theorem pow10_lt {m : Int} {nm : Nat} (h : nm < 19) (hm : m < 10 ^ nm) : m < 1000000000000000000 ∧ ∀ d : Int, d ≤ 9 → m * 10 + d < 10 ^ (nm + 1) := by
  have hp : (10 : Int) ^ nm ≤ 10 ^ 18 := by have := Nat.pow_le_pow_right (n := 10) (by decide) (show nm ≤ 18 by omega); exact_mod_cast this
  refine ⟨by omega, fun d hd => ?_⟩
  rw [Int.pow_succ]
  omega
theorem pow10_top {m : Int} {nm : Nat} (h : nm ≤ 19) (hm : m < 10 ^ nm) : m < 10000000000000000000 := by
  have hp : (10 : Int) ^ nm ≤ 10 ^ 19 := by have := Nat.pow_le_pow_right (n := 10) (by decide) h; exact_mod_cast this
  omega
end Go.Proofs.YtaecbclonmhbcaaGreatDoor

namespace Go.Proofs.YtaecbclonmhbcaaGreatDoor
open Go.RowKit
def SetPost (b : Nat) (w : World) (e : Ending) (w' : World) : Prop :=
  ∃ ok : Bool, e = .returned (.bool ok) ∧ (ok = true → ∃ (f : Nat → Int) (nd : Nat) (dp : Int), DecAt w' b f nd dp ∧ (nd = 0 ∨ DGood f nd)) ∧ Kept b w w'
theorem DecAt.drew {w : World} {b : Nat} {f : Nat → Int} {nd : Nat} {dp : Int} (h : DecAt w b f nd dp) : DecAt w.drew b f nd dp := ⟨h.dig, h.nd, h.dp, h.neg, h.tr, h.free⟩
theorem good_add {g : Nat → Int} {nd : Nat} {c : Int} (h : nd = 0 ∨ DGood g nd) (hn : nd < 800) (h0 : 48 ≤ c) (h1 : c ≤ 57) (hz : ¬ (c = 48 ∧ nd = 0)) : DGood (putAt g nd c) (nd + 1) := by
  refine ⟨by omega, by omega, fun i hi => ?_, ?_⟩
  · by_cases e : i = nd
    · simp only [putAt, if_pos e]; omega
    · simp only [putAt, if_neg e]
      rcases h with h | h
      · omega
      · exact h.dig i (by omega)
  · by_cases e : 0 = nd
    · simp only [putAt, if_pos e]; omega
    · simp only [putAt, if_neg e]
      rcases h with h | h
      · omega
      · exact h.head
def SetI (b : Nat) (s : ByteArray) (w : World) (a5 a6 a7 : Value) (wr : World) : Prop :=
  ∃ (k nd : Nat) (sd sg : Bool) (g : Nat → Int) (dp : Int), a5 = .int .i64 k ∧ a6 = .bool sd ∧ a7 = .bool sg ∧ k ≤ s.size ∧ nd ≤ k ∧ -(k : Int) ≤ dp ∧ dp ≤ k ∧ DecAt wr b g nd dp ∧ (nd = 0 ∨ DGood g nd) ∧ Kept b w wr
end Go.Proofs.YtaecbclonmhbcaaGreatDoor
