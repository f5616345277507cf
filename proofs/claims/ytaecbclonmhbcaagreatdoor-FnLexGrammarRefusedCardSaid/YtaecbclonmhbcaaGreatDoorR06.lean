/- fetchTrue: a theorem a way. Printed by gen_lits.py. -/
import Derived.Test.YtaecbclonmhbcaaGreatDoorR01
set_option linter.unusedVariables false
set_option linter.unusedSimpArgs false
namespace Go.Proofs.YtaecbclonmhbcaaGreatDoor
open Go.RowKit
section
variable {w : World} {b : Nat} {ae : Sur} {ao : Addr} {x : Lx} {vd vt ve vm : Value}
set_option maxHeartbeats 60000000 in
theorem fetchTrue_short (h : LexAt w b ae ao x vd vt ve vm) (hw : x.Wf) (hp : x.pos < x.d.length) (hs : x.d.length < x.pos + 4) :
    Calls Tryz.prog 122 #[.pointer (some ⟨b, 0, none⟩)] w fun e w' => e = .returned (.tuple #[]) ∧ Failed w b ae ao x.fail vd vt vm w' := by
  obtain ⟨bd, o, cap, rfl, hcap, hne, hx⟩ := h.bytes (by omega)
  have hne' : b ≠ bd := Ne.symm hne
  have c0 := h.c0
  have c2 := h.c2
  have f2 := h.free 2
  have hl := hw.len
  have s0 : decide ((x.d.length : Int) < (x.pos : Int) + 4) = true := by simp; omega
  have sb : IntKind.i64.wrap ((x.pos : Int) + 4 - 4) = (x.pos : Int) := by rw [IntWalk.i64_in _ (by omega)]; omega
  have H := Lib.hid h
  clear h hx
  go_enter Tryz.func122, Tryz.ntmps122
  go_wp2
  simp only [List.append_eq, List.cons_append, List.nil_append]
  go_quiet (fail)
  go_wp2_with (go_at_call 118; refine (errSyntax_any (x := x) (ae := ae) (ao := ao) (vd := .slice (some ⟨bd, o, none⟩) x.d.length cap) (vt := vt) (ve := ve) (vm := vm) (((H.out.setPos (x.pos + 4)).drewN nq).setPos x.pos) hw).mono ?_; rintro e w' ⟨rfl, hf⟩)
  go_end0
  obtain ⟨ve', g1, g2⟩ := hf
  exact ⟨rfl, ve', g1, ((((Kept.refl b w).setCell 2 _).drewN _).setCell 2 _).trans g2⟩
set_option maxHeartbeats 60000000 in
theorem fetchTrue_no1 (h : LexAt w b ae ao x vd vt ve vm) (hw : x.Wf) (hp : x.pos + 4 ≤ x.d.length)  (e1 : x.d.getD (x.pos + 1) 0 ≠ 114) :
    Calls Tryz.prog 122 #[.pointer (some ⟨b, 0, none⟩)] w fun e w' => e = .returned (.tuple #[]) ∧ Failed w b ae ao x.fail vd vt vm w' := by
  obtain ⟨bd, o, cap, rfl, hcap, hne, hx⟩ := h.bytes (by omega)
  have hne' : b ≠ bd := Ne.symm hne
  have c0 := h.c0
  have c2 := h.c2
  have f2 := h.free 2
  have hl := hw.len
  have u1 := hx (x.pos + 1) (by omega)
  generalize x.d.getD (x.pos + 1) 0 = cx at u1 e1
  have m1 : (cx == 114) = false := by simp [e1]
  have m2 : (cx != 114) = true := by simp [e1]
  clear hx e1
  have s0 : decide ((x.d.length : Int) < (x.pos : Int) + 4) = false := by simp; omega
  have s1 : IntKind.i64.wrap ((x.pos : Int) + 4 - 3) = (x.pos : Int) + 1 := by rw [IntWalk.i64_in _ (by omega)]; omega
  have t1 : ((x.pos : Int) + 1).toNat = x.pos + 1 := by omega
  have p1 : (0 : Int) ≤ (x.pos : Int) + 1 := by omega
  have q1 : (x.pos : Int) + 1 < (x.d.length : Int) := by omega
  have sb : IntKind.i64.wrap ((x.pos : Int) + 4 - 4) = (x.pos : Int) := by rw [IntWalk.i64_in _ (by omega)]; omega
  have H := Lib.hid h
  clear h
  go_enter Tryz.func122, Tryz.ntmps122
  go_wp2
  simp only [List.append_eq, List.cons_append, List.nil_append]
  go_quiet (fail)
  go_wp2_with (go_at_call 118; refine (errSyntax_any (x := x) (ae := ae) (ao := ao) (vd := .slice (some ⟨bd, o, none⟩) x.d.length cap) (vt := vt) (ve := ve) (vm := vm) (((H.out.setPos (x.pos + 4)).drewN nq).setPos x.pos) hw).mono ?_; rintro e w' ⟨rfl, hf⟩)
  go_end0
  obtain ⟨ve', g1, g2⟩ := hf
  exact ⟨rfl, ve', g1, ((((Kept.refl b w).setCell 2 _).drewN _).setCell 2 _).trans g2⟩
set_option maxHeartbeats 60000000 in
theorem fetchTrue_no2 (h : LexAt w b ae ao x vd vt ve vm) (hw : x.Wf) (hp : x.pos + 4 ≤ x.d.length) (e1 : x.d.getD (x.pos + 1) 0 = 114) (e2 : x.d.getD (x.pos + 2) 0 ≠ 117) :
    Calls Tryz.prog 122 #[.pointer (some ⟨b, 0, none⟩)] w fun e w' => e = .returned (.tuple #[]) ∧ Failed w b ae ao x.fail vd vt vm w' := by
  obtain ⟨bd, o, cap, rfl, hcap, hne, hx⟩ := h.bytes (by omega)
  have hne' : b ≠ bd := Ne.symm hne
  have c0 := h.c0
  have c2 := h.c2
  have f2 := h.free 2
  have hl := hw.len
  have u1 := hx (x.pos + 1) (by omega)
  have u2 := hx (x.pos + 2) (by omega)
  rw [e1] at u1
  generalize x.d.getD (x.pos + 2) 0 = cx at u2 e2
  have m1 : (cx == 117) = false := by simp [e2]
  have m2 : (cx != 117) = true := by simp [e2]
  clear hx e1 e2
  have s0 : decide ((x.d.length : Int) < (x.pos : Int) + 4) = false := by simp; omega
  have s1 : IntKind.i64.wrap ((x.pos : Int) + 4 - 3) = (x.pos : Int) + 1 := by rw [IntWalk.i64_in _ (by omega)]; omega
  have t1 : ((x.pos : Int) + 1).toNat = x.pos + 1 := by omega
  have p1 : (0 : Int) ≤ (x.pos : Int) + 1 := by omega
  have q1 : (x.pos : Int) + 1 < (x.d.length : Int) := by omega
  have s2 : IntKind.i64.wrap ((x.pos : Int) + 4 - 2) = (x.pos : Int) + 2 := by rw [IntWalk.i64_in _ (by omega)]; omega
  have t2 : ((x.pos : Int) + 2).toNat = x.pos + 2 := by omega
  have p2 : (0 : Int) ≤ (x.pos : Int) + 2 := by omega
  have q2 : (x.pos : Int) + 2 < (x.d.length : Int) := by omega
  have sb : IntKind.i64.wrap ((x.pos : Int) + 4 - 4) = (x.pos : Int) := by rw [IntWalk.i64_in _ (by omega)]; omega
  have H := Lib.hid h
  clear h
  go_enter Tryz.func122, Tryz.ntmps122
  go_wp2
  simp only [List.append_eq, List.cons_append, List.nil_append]
  go_quiet (fail)
  go_wp2_with (go_at_call 118; refine (errSyntax_any (x := x) (ae := ae) (ao := ao) (vd := .slice (some ⟨bd, o, none⟩) x.d.length cap) (vt := vt) (ve := ve) (vm := vm) (((H.out.setPos (x.pos + 4)).drewN nq).setPos x.pos) hw).mono ?_; rintro e w' ⟨rfl, hf⟩)
  go_end0
  obtain ⟨ve', g1, g2⟩ := hf
  exact ⟨rfl, ve', g1, ((((Kept.refl b w).setCell 2 _).drewN _).setCell 2 _).trans g2⟩
set_option maxHeartbeats 60000000 in
theorem fetchTrue_no3 (h : LexAt w b ae ao x vd vt ve vm) (hw : x.Wf) (hp : x.pos + 4 ≤ x.d.length) (e1 : x.d.getD (x.pos + 1) 0 = 114) (e2 : x.d.getD (x.pos + 2) 0 = 117) (e3 : x.d.getD (x.pos + 3) 0 ≠ 101) :
    Calls Tryz.prog 122 #[.pointer (some ⟨b, 0, none⟩)] w fun e w' => e = .returned (.tuple #[]) ∧ Failed w b ae ao x.fail vd vt vm w' := by
  obtain ⟨bd, o, cap, rfl, hcap, hne, hx⟩ := h.bytes (by omega)
  have hne' : b ≠ bd := Ne.symm hne
  have c0 := h.c0
  have c2 := h.c2
  have f2 := h.free 2
  have hl := hw.len
  have u1 := hx (x.pos + 1) (by omega)
  have u2 := hx (x.pos + 2) (by omega)
  have u3 := hx (x.pos + 3) (by omega)
  rw [e1] at u1
  rw [e2] at u2
  generalize x.d.getD (x.pos + 3) 0 = cx at u3 e3
  have m1 : (cx == 101) = false := by simp [e3]
  have m2 : (cx != 101) = true := by simp [e3]
  clear hx e1 e2 e3
  have s0 : decide ((x.d.length : Int) < (x.pos : Int) + 4) = false := by simp; omega
  have s1 : IntKind.i64.wrap ((x.pos : Int) + 4 - 3) = (x.pos : Int) + 1 := by rw [IntWalk.i64_in _ (by omega)]; omega
  have t1 : ((x.pos : Int) + 1).toNat = x.pos + 1 := by omega
  have p1 : (0 : Int) ≤ (x.pos : Int) + 1 := by omega
  have q1 : (x.pos : Int) + 1 < (x.d.length : Int) := by omega
  have s2 : IntKind.i64.wrap ((x.pos : Int) + 4 - 2) = (x.pos : Int) + 2 := by rw [IntWalk.i64_in _ (by omega)]; omega
  have t2 : ((x.pos : Int) + 2).toNat = x.pos + 2 := by omega
  have p2 : (0 : Int) ≤ (x.pos : Int) + 2 := by omega
  have q2 : (x.pos : Int) + 2 < (x.d.length : Int) := by omega
  have s3 : IntKind.i64.wrap ((x.pos : Int) + 4 - 1) = (x.pos : Int) + 3 := by rw [IntWalk.i64_in _ (by omega)]; omega
  have t3 : ((x.pos : Int) + 3).toNat = x.pos + 3 := by omega
  have p3 : (0 : Int) ≤ (x.pos : Int) + 3 := by omega
  have q3 : (x.pos : Int) + 3 < (x.d.length : Int) := by omega
  have sb : IntKind.i64.wrap ((x.pos : Int) + 4 - 4) = (x.pos : Int) := by rw [IntWalk.i64_in _ (by omega)]; omega
  have H := Lib.hid h
  clear h
  go_enter Tryz.func122, Tryz.ntmps122
  go_wp2
  simp only [List.append_eq, List.cons_append, List.nil_append]
  go_quiet (fail)
  go_wp2_with (go_at_call 118; refine (errSyntax_any (x := x) (ae := ae) (ao := ao) (vd := .slice (some ⟨bd, o, none⟩) x.d.length cap) (vt := vt) (ve := ve) (vm := vm) (((H.out.setPos (x.pos + 4)).drewN nq).setPos x.pos) hw).mono ?_; rintro e w' ⟨rfl, hf⟩)
  go_end0
  obtain ⟨ve', g1, g2⟩ := hf
  exact ⟨rfl, ve', g1, ((((Kept.refl b w).setCell 2 _).drewN _).setCell 2 _).trans g2⟩
end
end Go.Proofs.YtaecbclonmhbcaaGreatDoor
