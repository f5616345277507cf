/- fetchFalse: a theorem a way. Printed by gen_lits.py. -/
import Derived.Test.YtaecbclonmhbcaaGreatDoorR01
set_option linter.unusedVariables false
set_option linter.unusedSimpArgs false
namespace Go.Proofs.YtaecbclonmhbcaaGreatDoor
open Go.RowKit
section
variable {w : World} {b : Nat} {ae : Sur} {ao : Addr} {x : Lx} {vd vt ve vm : Value}
set_option maxHeartbeats 60000000 in
theorem fetchFalse_yes (h : LexAt w b ae ao x vd vt ve vm) (hw : x.Wf) (hp : x.pos + 5 < x.d.length) (e1 : x.d.getD (x.pos + 1) 0 = 97) (e2 : x.d.getD (x.pos + 2) 0 = 108) (e3 : x.d.getD (x.pos + 3) 0 = 115) (e4 : x.d.getD (x.pos + 4) 0 = 101) (ee : isEndB (x.d.getD (x.pos + 5) 0) = true) :
    Calls Tryz.prog 123 #[.pointer (some ⟨b, 0, none⟩)] w fun e w' => e = .returned (.tuple #[]) ∧ Failed w b ae ao { x with pos := x.pos + 5 } vd vt vm w' := by
  obtain ⟨bd, o, cap, rfl, hcap, hne, hx⟩ := h.bytes (by omega)
  have hne' : b ≠ bd := Ne.symm hne
  have c0 := h.c0
  have c2 := h.c2
  have f2 := h.free 2
  have hl := hw.len
  have u1 := hx (x.pos + 1) (by omega)
  have u2 := hx (x.pos + 2) (by omega)
  have u3 := hx (x.pos + 3) (by omega)
  have u4 := hx (x.pos + 4) (by omega)
  have u5 := hx (x.pos + 5) (by omega)
  rw [e1] at u1
  rw [e2] at u2
  rw [e3] at u3
  rw [e4] at u4
  generalize x.d.getD (x.pos + 5) 0 = cx at u5 ee
  clear hx e1 e2 e3 e4
  have s0 : decide ((x.d.length : Int) < (x.pos : Int) + 5) = false := by simp; omega
  have s1 : IntKind.i64.wrap ((x.pos : Int) + 5 - 4) = (x.pos : Int) + 1 := by rw [IntWalk.i64_in _ (by omega)]; omega
  have t1 : ((x.pos : Int) + 1).toNat = x.pos + 1 := by omega
  have p1 : (0 : Int) ≤ (x.pos : Int) + 1 := by omega
  have q1 : (x.pos : Int) + 1 < (x.d.length : Int) := by omega
  have s2 : IntKind.i64.wrap ((x.pos : Int) + 5 - 3) = (x.pos : Int) + 2 := by rw [IntWalk.i64_in _ (by omega)]; omega
  have t2 : ((x.pos : Int) + 2).toNat = x.pos + 2 := by omega
  have p2 : (0 : Int) ≤ (x.pos : Int) + 2 := by omega
  have q2 : (x.pos : Int) + 2 < (x.d.length : Int) := by omega
  have s3 : IntKind.i64.wrap ((x.pos : Int) + 5 - 2) = (x.pos : Int) + 3 := by rw [IntWalk.i64_in _ (by omega)]; omega
  have t3 : ((x.pos : Int) + 3).toNat = x.pos + 3 := by omega
  have p3 : (0 : Int) ≤ (x.pos : Int) + 3 := by omega
  have q3 : (x.pos : Int) + 3 < (x.d.length : Int) := by omega
  have s4 : IntKind.i64.wrap ((x.pos : Int) + 5 - 1) = (x.pos : Int) + 4 := by rw [IntWalk.i64_in _ (by omega)]; omega
  have t4 : ((x.pos : Int) + 4).toNat = x.pos + 4 := by omega
  have p4 : (0 : Int) ≤ (x.pos : Int) + 4 := by omega
  have q4 : (x.pos : Int) + 4 < (x.d.length : Int) := by omega
  have t5 : ((x.pos : Int) + 5).toNat = x.pos + 5 := by omega
  have p5 : (0 : Int) ≤ (x.pos : Int) + 5 := by omega
  have q5 : (x.pos : Int) + 5 < (x.d.length : Int) := by omega
  have n4 : ((x.pos : Int) + 5 == (x.d.length : Int)) = false := by simp; omega
  have n5 : ((x.pos : Int) + 5 != (x.d.length : Int)) = true := by rw [bne_iff_ne]; omega
  have d0 : (w.setCell ⟨b, 2, none⟩ (.int .i64 ((x.pos : Int) + 5))).cell? ⟨b, 0, none⟩ = some (.slice (some ⟨bd, o, none⟩) x.d.length cap) := by go_simp
  have d2 : (w.setCell ⟨b, 2, none⟩ (.int .i64 ((x.pos : Int) + 5))).cell? ⟨b, 2, none⟩ = some (.int .i64 ((x.pos : Int) + 5)) := by go_simp
  have d3 := ((Kept.refl b w).setCell 2 (.int .i64 ((x.pos : Int) + 5))).cell u1 hne
  have d4 := ((Kept.refl b w).setCell 2 (.int .i64 ((x.pos : Int) + 5))).cell u2 hne
  have d5 := ((Kept.refl b w).setCell 2 (.int .i64 ((x.pos : Int) + 5))).cell u3 hne
  have d6 := ((Kept.refl b w).setCell 2 (.int .i64 ((x.pos : Int) + 5))).cell u4 hne
  have d7 := ((Kept.refl b w).setCell 2 (.int .i64 ((x.pos : Int) + 5))).cell u5 hne
  have R : RowKit.Hid (∀ n, Failed w b ae ao { x with pos := x.pos + 5 } (.slice (some ⟨bd, o, none⟩) x.d.length cap) vt vm ((w.setCell ⟨b, 2, none⟩ (.int .i64 ((x.pos : Int) + 5))).drewN n)) :=
    fun n => ⟨_, (h.setPos (x.pos + 5)).drewN _, ((Kept.refl b w).setCell 2 _).drewN _⟩
  clear h u1 u2 u3 u4 u5 hw hne hne'
  go_enter Tryz.func123, Tryz.ntmps123
  go_wp2
  generalize w.setCell ⟨b, 2, none⟩ (.int .i64 ((x.pos : Int) + 5)) = W1 at d0 d2 d3 d4 d5 d6 d7 R ⊢
  clear c0 c2 f2
  simp only [List.append_eq, List.cons_append, List.nil_append]
  generalize ((x.pos : Int) + 5) = P5 at *
  generalize ((x.pos : Int) + 1) = P1 at *
  generalize ((x.pos : Int) + 2) = P2 at *
  generalize ((x.pos : Int) + 3) = P3 at *
  generalize ((x.pos : Int) + 4) = P4 at *
  go_quiet ((go_at_call 145; exact isEnd_quiet _ _ _))
  go_wp2
  go_end0
  exact ⟨rfl, R.out _⟩
end
end Go.Proofs.YtaecbclonmhbcaaGreatDoor
