/- The lexer's calls that read whole numbers in strings, in whatever mode. Printed by gen_mnop.py. -/
import Derived.Test.YtaecbclonmhbcaaGreatDoorP44
set_option linter.unusedVariables false
set_option linter.unusedSimpArgs false
namespace Go.Proofs.YtaecbclonmhbcaaGreatDoor
open Go.RowKit
section
variable {F : Fix} {w0 w : World} {vm0 vt ve vm : Value} {p n : Nat} {x : Lx}
set_option maxHeartbeats 4000000 in
set_option maxRecDepth 100000 in
theorem uint8StrM (h : MSt F w0 vm0 p n w x vt ve vm) (hn : n ≤ 999999) : Calls Tryz.prog 74 #[.pointer (some ⟨F.b, 0, none⟩)] w (MEnd F w0 vm0 p (n + 2) (NumQ (fun n => .int .u8 n))) := by
  have H := Lib.hid h
  have hm (N : Nat) : ∀ W, (method 390 171 (.pointer (some ⟨N, 0, none⟩)) "Error").run Tryz.prog W = .ok (279, .pointer (some ⟨N, 0, none⟩)) W := fun W => by show _ = _; kernel_rfl
  have HM := Lib.hid hm
  clear h hm
  go_enter Tryz.func74, Tryz.ntmps74
  go_wp2_with (first
    | (go_at_call 111; refine (usM_false H.out (by omega)).mono ?_; rintro e w1 ⟨r1, x1, vt1, ve1, vm1, rfl, ⟨s, vb, lb, rfl, hs, hbt, hbl⟩, g1⟩; have HBT := Lib.hid hbt; clear hbt; have HT := Lib.hid g1.gr.tabs; have G1 := Lib.hid g1; clear g1)
    | (go_at_call 47; refine (okM G1.out).mono ?_; rintro e w2 ⟨he, rfl⟩; rcases Bool.eq_false_or_eq_true x1.ok with ho | ho <;> rw [ho] at he <;> clear ho <;> subst he)
    | (go_at_call 115; refine (parseUint8_any _ _ hs HT.out.c3 HT.out.c4).mono ?_; rintro e w2 ⟨u, er, rfl, hne, hk⟩; have HK := Lib.hid (below_of_kept hk); have HNE := Lib.hid hne; clear hk hne; rcases HNE.out with rfl | ⟨N, g, fn, ev, rfl, hN, hh, hf, hg, hc⟩))
  · go_ret
    exact ⟨_, _, _, _, _, rfl, ⟨_, rfl⟩, (G1.out.below HK.out).le (Nat.le_succ _)⟩
  · have hmN := HM.out N
    have HH := Lib.hid hh
    have HC := Lib.hid hc
    have HT2 := Lib.hid (HT.out.below HK.out)
    have G3 := Lib.hid (G1.out.below HK.out)
    have c1 := G3.out.mx.lx.c1
    clear hh hc
    have hb2 := HBT.out.kept (kept_below HK.out F.b)
    have hcv1 : (convert 22 9 vb).run Tryz.prog w2.drew = .ok (.string (strOfNums lb)) w2.drew := run_bytes_str (hb2.kept (kept_below (below_drewN w2 1) F.b)) 0 9 Tryz.underlying9
    have hcv2 : ∀ k, (convert 22 9 vb).run Tryz.prog (w2.drewN k) = .ok (.string (strOfNums lb)) (w2.drewN k) := fun k => run_bytes_str hb2 k 9 Tryz.underlying9
    clear hb2
    go_region_with (first
      | (go_at_call 279; refine (numErrText_any (HT2.out.below (below_drewN _ _)) HH.out hf hs hg HC.out).mono ?_; rintro e w3 ⟨⟨t, rfl⟩, hb3⟩; obtain ⟨hcv⟩ : Nonempty ((convert 22 9 vb).run Tryz.prog w3 = .ok (.string (strOfNums lb)) w3) := ⟨run_bytes_str (((HBT.out.kept (kept_below HK.out F.b)).kept (kept_below (below_drewN _ _) F.b)).kept (kept_below hb3 F.b)) 0 9 Tryz.underlying9⟩; have G4 := Lib.hid ((G3.out.drewN _).below hb3); have d1 := G4.out.mx.lx.c1; clear hb3)
      | (go_at_call 108; refine (addM_new G4.out (by omega) _ _ (G4.out.startLe)).mono ?_; rintro e w4 ⟨r4, x4, vt4, ve4, vm4, rfl, ⟨rfl, hx4⟩, g4⟩; have H4 := Lib.hid g4; clear g4 hx4))
    all_goals
      go_wp2
      go_ret
      exact ⟨_, _, _, _, _, rfl, ⟨_, rfl⟩, H4.out⟩
  · go_ret
    exact ⟨_, _, _, _, _, rfl, ⟨0, rfl⟩, G1.out.le (Nat.le_succ _)⟩
set_option maxHeartbeats 4000000 in
set_option maxRecDepth 100000 in
theorem uint16StrM (h : MSt F w0 vm0 p n w x vt ve vm) (hn : n ≤ 999999) : Calls Tryz.prog 75 #[.pointer (some ⟨F.b, 0, none⟩)] w (MEnd F w0 vm0 p (n + 2) (NumQ (fun n => .int .u16 n))) := by
  have H := Lib.hid h
  have hm (N : Nat) : ∀ W, (method 390 171 (.pointer (some ⟨N, 0, none⟩)) "Error").run Tryz.prog W = .ok (279, .pointer (some ⟨N, 0, none⟩)) W := fun W => by show _ = _; kernel_rfl
  have HM := Lib.hid hm
  clear h hm
  go_enter Tryz.func75, Tryz.ntmps75
  go_wp2_with (first
    | (go_at_call 111; refine (usM_false H.out (by omega)).mono ?_; rintro e w1 ⟨r1, x1, vt1, ve1, vm1, rfl, ⟨s, vb, lb, rfl, hs, hbt, hbl⟩, g1⟩; have HBT := Lib.hid hbt; clear hbt; have HT := Lib.hid g1.gr.tabs; have G1 := Lib.hid g1; clear g1)
    | (go_at_call 47; refine (okM G1.out).mono ?_; rintro e w2 ⟨he, rfl⟩; rcases Bool.eq_false_or_eq_true x1.ok with ho | ho <;> rw [ho] at he <;> clear ho <;> subst he)
    | (go_at_call 115; refine (parseUint16_any _ _ hs HT.out.c3 HT.out.c4).mono ?_; rintro e w2 ⟨u, er, rfl, hne, hk⟩; have HK := Lib.hid (below_of_kept hk); have HNE := Lib.hid hne; clear hk hne; rcases HNE.out with rfl | ⟨N, g, fn, ev, rfl, hN, hh, hf, hg, hc⟩))
  · go_ret
    exact ⟨_, _, _, _, _, rfl, ⟨_, rfl⟩, (G1.out.below HK.out).le (Nat.le_succ _)⟩
  · have hmN := HM.out N
    have HH := Lib.hid hh
    have HC := Lib.hid hc
    have HT2 := Lib.hid (HT.out.below HK.out)
    have G3 := Lib.hid (G1.out.below HK.out)
    have c1 := G3.out.mx.lx.c1
    clear hh hc
    have hb2 := HBT.out.kept (kept_below HK.out F.b)
    have hcv1 : (convert 22 9 vb).run Tryz.prog w2.drew = .ok (.string (strOfNums lb)) w2.drew := run_bytes_str (hb2.kept (kept_below (below_drewN w2 1) F.b)) 0 9 Tryz.underlying9
    have hcv2 : ∀ k, (convert 22 9 vb).run Tryz.prog (w2.drewN k) = .ok (.string (strOfNums lb)) (w2.drewN k) := fun k => run_bytes_str hb2 k 9 Tryz.underlying9
    clear hb2
    go_region_with (first
      | (go_at_call 279; refine (numErrText_any (HT2.out.below (below_drewN _ _)) HH.out hf hs hg HC.out).mono ?_; rintro e w3 ⟨⟨t, rfl⟩, hb3⟩; obtain ⟨hcv⟩ : Nonempty ((convert 22 9 vb).run Tryz.prog w3 = .ok (.string (strOfNums lb)) w3) := ⟨run_bytes_str (((HBT.out.kept (kept_below HK.out F.b)).kept (kept_below (below_drewN _ _) F.b)).kept (kept_below hb3 F.b)) 0 9 Tryz.underlying9⟩; have G4 := Lib.hid ((G3.out.drewN _).below hb3); have d1 := G4.out.mx.lx.c1; clear hb3)
      | (go_at_call 108; refine (addM_new G4.out (by omega) _ _ (G4.out.startLe)).mono ?_; rintro e w4 ⟨r4, x4, vt4, ve4, vm4, rfl, ⟨rfl, hx4⟩, g4⟩; have H4 := Lib.hid g4; clear g4 hx4))
    all_goals
      go_wp2
      go_ret
      exact ⟨_, _, _, _, _, rfl, ⟨_, rfl⟩, H4.out⟩
  · go_ret
    exact ⟨_, _, _, _, _, rfl, ⟨0, rfl⟩, G1.out.le (Nat.le_succ _)⟩
set_option maxHeartbeats 4000000 in
set_option maxRecDepth 100000 in
theorem uint32StrM (h : MSt F w0 vm0 p n w x vt ve vm) (hn : n ≤ 999999) : Calls Tryz.prog 76 #[.pointer (some ⟨F.b, 0, none⟩)] w (MEnd F w0 vm0 p (n + 2) (NumQ (fun n => .int .u32 n))) := by
  have H := Lib.hid h
  have hm (N : Nat) : ∀ W, (method 390 171 (.pointer (some ⟨N, 0, none⟩)) "Error").run Tryz.prog W = .ok (279, .pointer (some ⟨N, 0, none⟩)) W := fun W => by show _ = _; kernel_rfl
  have HM := Lib.hid hm
  clear h hm
  go_enter Tryz.func76, Tryz.ntmps76
  go_wp2_with (first
    | (go_at_call 111; refine (usM_false H.out (by omega)).mono ?_; rintro e w1 ⟨r1, x1, vt1, ve1, vm1, rfl, ⟨s, vb, lb, rfl, hs, hbt, hbl⟩, g1⟩; have HBT := Lib.hid hbt; clear hbt; have HT := Lib.hid g1.gr.tabs; have G1 := Lib.hid g1; clear g1)
    | (go_at_call 47; refine (okM G1.out).mono ?_; rintro e w2 ⟨he, rfl⟩; rcases Bool.eq_false_or_eq_true x1.ok with ho | ho <;> rw [ho] at he <;> clear ho <;> subst he)
    | (go_at_call 115; refine (parseUint32_any _ _ hs HT.out.c3 HT.out.c4).mono ?_; rintro e w2 ⟨u, er, rfl, hne, hk⟩; have HK := Lib.hid (below_of_kept hk); have HNE := Lib.hid hne; clear hk hne; rcases HNE.out with rfl | ⟨N, g, fn, ev, rfl, hN, hh, hf, hg, hc⟩))
  · go_ret
    exact ⟨_, _, _, _, _, rfl, ⟨_, rfl⟩, (G1.out.below HK.out).le (Nat.le_succ _)⟩
  · have hmN := HM.out N
    have HH := Lib.hid hh
    have HC := Lib.hid hc
    have HT2 := Lib.hid (HT.out.below HK.out)
    have G3 := Lib.hid (G1.out.below HK.out)
    have c1 := G3.out.mx.lx.c1
    clear hh hc
    have hb2 := HBT.out.kept (kept_below HK.out F.b)
    have hcv1 : (convert 22 9 vb).run Tryz.prog w2.drew = .ok (.string (strOfNums lb)) w2.drew := run_bytes_str (hb2.kept (kept_below (below_drewN w2 1) F.b)) 0 9 Tryz.underlying9
    have hcv2 : ∀ k, (convert 22 9 vb).run Tryz.prog (w2.drewN k) = .ok (.string (strOfNums lb)) (w2.drewN k) := fun k => run_bytes_str hb2 k 9 Tryz.underlying9
    clear hb2
    go_region_with (first
      | (go_at_call 279; refine (numErrText_any (HT2.out.below (below_drewN _ _)) HH.out hf hs hg HC.out).mono ?_; rintro e w3 ⟨⟨t, rfl⟩, hb3⟩; obtain ⟨hcv⟩ : Nonempty ((convert 22 9 vb).run Tryz.prog w3 = .ok (.string (strOfNums lb)) w3) := ⟨run_bytes_str (((HBT.out.kept (kept_below HK.out F.b)).kept (kept_below (below_drewN _ _) F.b)).kept (kept_below hb3 F.b)) 0 9 Tryz.underlying9⟩; have G4 := Lib.hid ((G3.out.drewN _).below hb3); have d1 := G4.out.mx.lx.c1; clear hb3)
      | (go_at_call 108; refine (addM_new G4.out (by omega) _ _ (G4.out.startLe)).mono ?_; rintro e w4 ⟨r4, x4, vt4, ve4, vm4, rfl, ⟨rfl, hx4⟩, g4⟩; have H4 := Lib.hid g4; clear g4 hx4))
    all_goals
      go_wp2
      go_ret
      exact ⟨_, _, _, _, _, rfl, ⟨_, rfl⟩, H4.out⟩
  · go_ret
    exact ⟨_, _, _, _, _, rfl, ⟨0, rfl⟩, G1.out.le (Nat.le_succ _)⟩
set_option maxHeartbeats 4000000 in
set_option maxRecDepth 100000 in
theorem uint64StrM (h : MSt F w0 vm0 p n w x vt ve vm) (hn : n ≤ 999999) : Calls Tryz.prog 77 #[.pointer (some ⟨F.b, 0, none⟩)] w (MEnd F w0 vm0 p (n + 2) (NumQ (fun n => .int .u64 n))) := by
  have H := Lib.hid h
  have hm (N : Nat) : ∀ W, (method 390 171 (.pointer (some ⟨N, 0, none⟩)) "Error").run Tryz.prog W = .ok (279, .pointer (some ⟨N, 0, none⟩)) W := fun W => by show _ = _; kernel_rfl
  have HM := Lib.hid hm
  clear h hm
  go_enter Tryz.func77, Tryz.ntmps77
  go_wp2_with (first
    | (go_at_call 111; refine (usM_false H.out (by omega)).mono ?_; rintro e w1 ⟨r1, x1, vt1, ve1, vm1, rfl, ⟨s, vb, lb, rfl, hs, hbt, hbl⟩, g1⟩; have HBT := Lib.hid hbt; clear hbt; have HT := Lib.hid g1.gr.tabs; have G1 := Lib.hid g1; clear g1)
    | (go_at_call 47; refine (okM G1.out).mono ?_; rintro e w2 ⟨he, rfl⟩; rcases Bool.eq_false_or_eq_true x1.ok with ho | ho <;> rw [ho] at he <;> clear ho <;> subst he)
    | (go_at_call 115; refine (parseUint64_any _ _ hs HT.out.c3 HT.out.c4).mono ?_; rintro e w2 ⟨u, er, rfl, hne, hk⟩; have HK := Lib.hid (below_of_kept hk); have HNE := Lib.hid hne; clear hk hne; rcases HNE.out with rfl | ⟨N, g, fn, ev, rfl, hN, hh, hf, hg, hc⟩))
  · go_ret
    exact ⟨_, _, _, _, _, rfl, ⟨_, rfl⟩, (G1.out.below HK.out).le (Nat.le_succ _)⟩
  · have hmN := HM.out N
    have HH := Lib.hid hh
    have HC := Lib.hid hc
    have HT2 := Lib.hid (HT.out.below HK.out)
    have G3 := Lib.hid (G1.out.below HK.out)
    have c1 := G3.out.mx.lx.c1
    clear hh hc
    have hb2 := HBT.out.kept (kept_below HK.out F.b)
    have hcv1 : (convert 22 9 vb).run Tryz.prog w2.drew = .ok (.string (strOfNums lb)) w2.drew := run_bytes_str (hb2.kept (kept_below (below_drewN w2 1) F.b)) 0 9 Tryz.underlying9
    have hcv2 : ∀ k, (convert 22 9 vb).run Tryz.prog (w2.drewN k) = .ok (.string (strOfNums lb)) (w2.drewN k) := fun k => run_bytes_str hb2 k 9 Tryz.underlying9
    clear hb2
    go_region_with (first
      | (go_at_call 279; refine (numErrText_any (HT2.out.below (below_drewN _ _)) HH.out hf hs hg HC.out).mono ?_; rintro e w3 ⟨⟨t, rfl⟩, hb3⟩; obtain ⟨hcv⟩ : Nonempty ((convert 22 9 vb).run Tryz.prog w3 = .ok (.string (strOfNums lb)) w3) := ⟨run_bytes_str (((HBT.out.kept (kept_below HK.out F.b)).kept (kept_below (below_drewN _ _) F.b)).kept (kept_below hb3 F.b)) 0 9 Tryz.underlying9⟩; have G4 := Lib.hid ((G3.out.drewN _).below hb3); have d1 := G4.out.mx.lx.c1; clear hb3)
      | (go_at_call 108; refine (addM_new G4.out (by omega) _ _ (G4.out.startLe)).mono ?_; rintro e w4 ⟨r4, x4, vt4, ve4, vm4, rfl, ⟨rfl, hx4⟩, g4⟩; have H4 := Lib.hid g4; clear g4 hx4))
    all_goals
      go_wp2
      go_ret
      exact ⟨_, _, _, _, _, rfl, ⟨_, rfl⟩, H4.out⟩
  · go_ret
    exact ⟨_, _, _, _, _, rfl, ⟨0, rfl⟩, G1.out.le (Nat.le_succ _)⟩
set_option maxHeartbeats 4000000 in
set_option maxRecDepth 100000 in
theorem int8StrM (h : MSt F w0 vm0 p n w x vt ve vm) (hn : n ≤ 999999) : Calls Tryz.prog 79 #[.pointer (some ⟨F.b, 0, none⟩)] w (MEnd F w0 vm0 p (n + 2) (NumQ (fun n => .int .i8 n))) := by
  have H := Lib.hid h
  have hm (N : Nat) : ∀ W, (method 390 171 (.pointer (some ⟨N, 0, none⟩)) "Error").run Tryz.prog W = .ok (279, .pointer (some ⟨N, 0, none⟩)) W := fun W => by show _ = _; kernel_rfl
  have HM := Lib.hid hm
  clear h hm
  go_enter Tryz.func79, Tryz.ntmps79
  go_wp2_with (first
    | (go_at_call 111; refine (usM_false H.out (by omega)).mono ?_; rintro e w1 ⟨r1, x1, vt1, ve1, vm1, rfl, ⟨s, vb, lb, rfl, hs, hbt, hbl⟩, g1⟩; have HBT := Lib.hid hbt; clear hbt; have HT := Lib.hid g1.gr.tabs; have G1 := Lib.hid g1; clear g1)
    | (go_at_call 47; refine (okM G1.out).mono ?_; rintro e w2 ⟨he, rfl⟩; rcases Bool.eq_false_or_eq_true x1.ok with ho | ho <;> rw [ho] at he <;> clear ho <;> subst he)
    | (go_at_call 116; refine (parseInt8_any _ _ hs HT.out.c3 HT.out.c4).mono ?_; rintro e w2 ⟨u, er, rfl, hne, hk⟩; have HK := Lib.hid (below_of_kept hk); have HNE := Lib.hid hne; clear hk hne; rcases HNE.out with rfl | ⟨N, g, fn, ev, rfl, hN, hh, hf, hg, hc⟩))
  · go_ret
    exact ⟨_, _, _, _, _, rfl, ⟨_, rfl⟩, (G1.out.below HK.out).le (Nat.le_succ _)⟩
  · have hmN := HM.out N
    have HH := Lib.hid hh
    have HC := Lib.hid hc
    have HT2 := Lib.hid (HT.out.below HK.out)
    have G3 := Lib.hid (G1.out.below HK.out)
    have c1 := G3.out.mx.lx.c1
    clear hh hc
    have hb2 := HBT.out.kept (kept_below HK.out F.b)
    have hcv1 : (convert 22 9 vb).run Tryz.prog w2.drew = .ok (.string (strOfNums lb)) w2.drew := run_bytes_str (hb2.kept (kept_below (below_drewN w2 1) F.b)) 0 9 Tryz.underlying9
    have hcv2 : ∀ k, (convert 22 9 vb).run Tryz.prog (w2.drewN k) = .ok (.string (strOfNums lb)) (w2.drewN k) := fun k => run_bytes_str hb2 k 9 Tryz.underlying9
    clear hb2
    go_region_with (first
      | (go_at_call 279; refine (numErrText_any (HT2.out.below (below_drewN _ _)) HH.out hf hs hg HC.out).mono ?_; rintro e w3 ⟨⟨t, rfl⟩, hb3⟩; obtain ⟨hcv⟩ : Nonempty ((convert 22 9 vb).run Tryz.prog w3 = .ok (.string (strOfNums lb)) w3) := ⟨run_bytes_str (((HBT.out.kept (kept_below HK.out F.b)).kept (kept_below (below_drewN _ _) F.b)).kept (kept_below hb3 F.b)) 0 9 Tryz.underlying9⟩; have G4 := Lib.hid ((G3.out.drewN _).below hb3); have d1 := G4.out.mx.lx.c1; clear hb3)
      | (go_at_call 108; refine (addM_new G4.out (by omega) _ _ (G4.out.startLe)).mono ?_; rintro e w4 ⟨r4, x4, vt4, ve4, vm4, rfl, ⟨rfl, hx4⟩, g4⟩; have H4 := Lib.hid g4; clear g4 hx4))
    all_goals
      go_wp2
      go_ret
      exact ⟨_, _, _, _, _, rfl, ⟨_, rfl⟩, H4.out⟩
  · go_ret
    exact ⟨_, _, _, _, _, rfl, ⟨0, rfl⟩, G1.out.le (Nat.le_succ _)⟩
set_option maxHeartbeats 4000000 in
set_option maxRecDepth 100000 in
theorem int16StrM (h : MSt F w0 vm0 p n w x vt ve vm) (hn : n ≤ 999999) : Calls Tryz.prog 80 #[.pointer (some ⟨F.b, 0, none⟩)] w (MEnd F w0 vm0 p (n + 2) (NumQ (fun n => .int .i16 n))) := by
  have H := Lib.hid h
  have hm (N : Nat) : ∀ W, (method 390 171 (.pointer (some ⟨N, 0, none⟩)) "Error").run Tryz.prog W = .ok (279, .pointer (some ⟨N, 0, none⟩)) W := fun W => by show _ = _; kernel_rfl
  have HM := Lib.hid hm
  clear h hm
  go_enter Tryz.func80, Tryz.ntmps80
  go_wp2_with (first
    | (go_at_call 111; refine (usM_false H.out (by omega)).mono ?_; rintro e w1 ⟨r1, x1, vt1, ve1, vm1, rfl, ⟨s, vb, lb, rfl, hs, hbt, hbl⟩, g1⟩; have HBT := Lib.hid hbt; clear hbt; have HT := Lib.hid g1.gr.tabs; have G1 := Lib.hid g1; clear g1)
    | (go_at_call 47; refine (okM G1.out).mono ?_; rintro e w2 ⟨he, rfl⟩; rcases Bool.eq_false_or_eq_true x1.ok with ho | ho <;> rw [ho] at he <;> clear ho <;> subst he)
    | (go_at_call 116; refine (parseInt16_any _ _ hs HT.out.c3 HT.out.c4).mono ?_; rintro e w2 ⟨u, er, rfl, hne, hk⟩; have HK := Lib.hid (below_of_kept hk); have HNE := Lib.hid hne; clear hk hne; rcases HNE.out with rfl | ⟨N, g, fn, ev, rfl, hN, hh, hf, hg, hc⟩))
  · go_ret
    exact ⟨_, _, _, _, _, rfl, ⟨_, rfl⟩, (G1.out.below HK.out).le (Nat.le_succ _)⟩
  · have hmN := HM.out N
    have HH := Lib.hid hh
    have HC := Lib.hid hc
    have HT2 := Lib.hid (HT.out.below HK.out)
    have G3 := Lib.hid (G1.out.below HK.out)
    have c1 := G3.out.mx.lx.c1
    clear hh hc
    have hb2 := HBT.out.kept (kept_below HK.out F.b)
    have hcv1 : (convert 22 9 vb).run Tryz.prog w2.drew = .ok (.string (strOfNums lb)) w2.drew := run_bytes_str (hb2.kept (kept_below (below_drewN w2 1) F.b)) 0 9 Tryz.underlying9
    have hcv2 : ∀ k, (convert 22 9 vb).run Tryz.prog (w2.drewN k) = .ok (.string (strOfNums lb)) (w2.drewN k) := fun k => run_bytes_str hb2 k 9 Tryz.underlying9
    clear hb2
    go_region_with (first
      | (go_at_call 279; refine (numErrText_any (HT2.out.below (below_drewN _ _)) HH.out hf hs hg HC.out).mono ?_; rintro e w3 ⟨⟨t, rfl⟩, hb3⟩; obtain ⟨hcv⟩ : Nonempty ((convert 22 9 vb).run Tryz.prog w3 = .ok (.string (strOfNums lb)) w3) := ⟨run_bytes_str (((HBT.out.kept (kept_below HK.out F.b)).kept (kept_below (below_drewN _ _) F.b)).kept (kept_below hb3 F.b)) 0 9 Tryz.underlying9⟩; have G4 := Lib.hid ((G3.out.drewN _).below hb3); have d1 := G4.out.mx.lx.c1; clear hb3)
      | (go_at_call 108; refine (addM_new G4.out (by omega) _ _ (G4.out.startLe)).mono ?_; rintro e w4 ⟨r4, x4, vt4, ve4, vm4, rfl, ⟨rfl, hx4⟩, g4⟩; have H4 := Lib.hid g4; clear g4 hx4))
    all_goals
      go_wp2
      go_ret
      exact ⟨_, _, _, _, _, rfl, ⟨_, rfl⟩, H4.out⟩
  · go_ret
    exact ⟨_, _, _, _, _, rfl, ⟨0, rfl⟩, G1.out.le (Nat.le_succ _)⟩
set_option maxHeartbeats 4000000 in
set_option maxRecDepth 100000 in
theorem int32StrM (h : MSt F w0 vm0 p n w x vt ve vm) (hn : n ≤ 999999) : Calls Tryz.prog 81 #[.pointer (some ⟨F.b, 0, none⟩)] w (MEnd F w0 vm0 p (n + 2) (NumQ (fun n => .int .i32 n))) := by
  have H := Lib.hid h
  have hm (N : Nat) : ∀ W, (method 390 171 (.pointer (some ⟨N, 0, none⟩)) "Error").run Tryz.prog W = .ok (279, .pointer (some ⟨N, 0, none⟩)) W := fun W => by show _ = _; kernel_rfl
  have HM := Lib.hid hm
  clear h hm
  go_enter Tryz.func81, Tryz.ntmps81
  go_wp2_with (first
    | (go_at_call 111; refine (usM_false H.out (by omega)).mono ?_; rintro e w1 ⟨r1, x1, vt1, ve1, vm1, rfl, ⟨s, vb, lb, rfl, hs, hbt, hbl⟩, g1⟩; have HBT := Lib.hid hbt; clear hbt; have HT := Lib.hid g1.gr.tabs; have G1 := Lib.hid g1; clear g1)
    | (go_at_call 47; refine (okM G1.out).mono ?_; rintro e w2 ⟨he, rfl⟩; rcases Bool.eq_false_or_eq_true x1.ok with ho | ho <;> rw [ho] at he <;> clear ho <;> subst he)
    | (go_at_call 116; refine (parseInt32_any _ _ hs HT.out.c3 HT.out.c4).mono ?_; rintro e w2 ⟨u, er, rfl, hne, hk⟩; have HK := Lib.hid (below_of_kept hk); have HNE := Lib.hid hne; clear hk hne; rcases HNE.out with rfl | ⟨N, g, fn, ev, rfl, hN, hh, hf, hg, hc⟩))
  · go_ret
    exact ⟨_, _, _, _, _, rfl, ⟨_, rfl⟩, (G1.out.below HK.out).le (Nat.le_succ _)⟩
  · have hmN := HM.out N
    have HH := Lib.hid hh
    have HC := Lib.hid hc
    have HT2 := Lib.hid (HT.out.below HK.out)
    have G3 := Lib.hid (G1.out.below HK.out)
    have c1 := G3.out.mx.lx.c1
    clear hh hc
    have hb2 := HBT.out.kept (kept_below HK.out F.b)
    have hcv1 : (convert 22 9 vb).run Tryz.prog w2.drew = .ok (.string (strOfNums lb)) w2.drew := run_bytes_str (hb2.kept (kept_below (below_drewN w2 1) F.b)) 0 9 Tryz.underlying9
    have hcv2 : ∀ k, (convert 22 9 vb).run Tryz.prog (w2.drewN k) = .ok (.string (strOfNums lb)) (w2.drewN k) := fun k => run_bytes_str hb2 k 9 Tryz.underlying9
    clear hb2
    go_region_with (first
      | (go_at_call 279; refine (numErrText_any (HT2.out.below (below_drewN _ _)) HH.out hf hs hg HC.out).mono ?_; rintro e w3 ⟨⟨t, rfl⟩, hb3⟩; obtain ⟨hcv⟩ : Nonempty ((convert 22 9 vb).run Tryz.prog w3 = .ok (.string (strOfNums lb)) w3) := ⟨run_bytes_str (((HBT.out.kept (kept_below HK.out F.b)).kept (kept_below (below_drewN _ _) F.b)).kept (kept_below hb3 F.b)) 0 9 Tryz.underlying9⟩; have G4 := Lib.hid ((G3.out.drewN _).below hb3); have d1 := G4.out.mx.lx.c1; clear hb3)
      | (go_at_call 108; refine (addM_new G4.out (by omega) _ _ (G4.out.startLe)).mono ?_; rintro e w4 ⟨r4, x4, vt4, ve4, vm4, rfl, ⟨rfl, hx4⟩, g4⟩; have H4 := Lib.hid g4; clear g4 hx4))
    all_goals
      go_wp2
      go_ret
      exact ⟨_, _, _, _, _, rfl, ⟨_, rfl⟩, H4.out⟩
  · go_ret
    exact ⟨_, _, _, _, _, rfl, ⟨0, rfl⟩, G1.out.le (Nat.le_succ _)⟩
set_option maxHeartbeats 4000000 in
set_option maxRecDepth 100000 in
theorem int64StrM (h : MSt F w0 vm0 p n w x vt ve vm) (hn : n ≤ 999999) : Calls Tryz.prog 82 #[.pointer (some ⟨F.b, 0, none⟩)] w (MEnd F w0 vm0 p (n + 2) (NumQ (fun n => .int .i64 n))) := by
  have H := Lib.hid h
  have hm (N : Nat) : ∀ W, (method 390 171 (.pointer (some ⟨N, 0, none⟩)) "Error").run Tryz.prog W = .ok (279, .pointer (some ⟨N, 0, none⟩)) W := fun W => by show _ = _; kernel_rfl
  have HM := Lib.hid hm
  clear h hm
  go_enter Tryz.func82, Tryz.ntmps82
  go_wp2_with (first
    | (go_at_call 111; refine (usM_false H.out (by omega)).mono ?_; rintro e w1 ⟨r1, x1, vt1, ve1, vm1, rfl, ⟨s, vb, lb, rfl, hs, hbt, hbl⟩, g1⟩; have HBT := Lib.hid hbt; clear hbt; have HT := Lib.hid g1.gr.tabs; have G1 := Lib.hid g1; clear g1)
    | (go_at_call 47; refine (okM G1.out).mono ?_; rintro e w2 ⟨he, rfl⟩; rcases Bool.eq_false_or_eq_true x1.ok with ho | ho <;> rw [ho] at he <;> clear ho <;> subst he)
    | (go_at_call 116; refine (parseInt64_any _ _ hs HT.out.c3 HT.out.c4).mono ?_; rintro e w2 ⟨u, er, rfl, hne, hk⟩; have HK := Lib.hid (below_of_kept hk); have HNE := Lib.hid hne; clear hk hne; rcases HNE.out with rfl | ⟨N, g, fn, ev, rfl, hN, hh, hf, hg, hc⟩))
  · go_ret
    exact ⟨_, _, _, _, _, rfl, ⟨_, rfl⟩, (G1.out.below HK.out).le (Nat.le_succ _)⟩
  · have hmN := HM.out N
    have HH := Lib.hid hh
    have HC := Lib.hid hc
    have HT2 := Lib.hid (HT.out.below HK.out)
    have G3 := Lib.hid (G1.out.below HK.out)
    have c1 := G3.out.mx.lx.c1
    clear hh hc
    have hb2 := HBT.out.kept (kept_below HK.out F.b)
    have hcv1 : (convert 22 9 vb).run Tryz.prog w2.drew = .ok (.string (strOfNums lb)) w2.drew := run_bytes_str (hb2.kept (kept_below (below_drewN w2 1) F.b)) 0 9 Tryz.underlying9
    have hcv2 : ∀ k, (convert 22 9 vb).run Tryz.prog (w2.drewN k) = .ok (.string (strOfNums lb)) (w2.drewN k) := fun k => run_bytes_str hb2 k 9 Tryz.underlying9
    clear hb2
    go_region_with (first
      | (go_at_call 279; refine (numErrText_any (HT2.out.below (below_drewN _ _)) HH.out hf hs hg HC.out).mono ?_; rintro e w3 ⟨⟨t, rfl⟩, hb3⟩; obtain ⟨hcv⟩ : Nonempty ((convert 22 9 vb).run Tryz.prog w3 = .ok (.string (strOfNums lb)) w3) := ⟨run_bytes_str (((HBT.out.kept (kept_below HK.out F.b)).kept (kept_below (below_drewN _ _) F.b)).kept (kept_below hb3 F.b)) 0 9 Tryz.underlying9⟩; have G4 := Lib.hid ((G3.out.drewN _).below hb3); have d1 := G4.out.mx.lx.c1; clear hb3)
      | (go_at_call 108; refine (addM_new G4.out (by omega) _ _ (G4.out.startLe)).mono ?_; rintro e w4 ⟨r4, x4, vt4, ve4, vm4, rfl, ⟨rfl, hx4⟩, g4⟩; have H4 := Lib.hid g4; clear g4 hx4))
    all_goals
      go_wp2
      go_ret
      exact ⟨_, _, _, _, _, rfl, ⟨_, rfl⟩, H4.out⟩
  · go_ret
    exact ⟨_, _, _, _, _, rfl, ⟨0, rfl⟩, G1.out.le (Nat.le_succ _)⟩
set_option maxHeartbeats 1000000 in
theorem uintStrM (h : MSt F w0 vm0 p n w x vt ve vm) (hn : n ≤ 999999) : Calls Tryz.prog 78 #[.pointer (some ⟨F.b, 0, none⟩)] w (MEnd F w0 vm0 p (n + 2) (NumQ (fun n => .int .u64 n))) := by
  have HC := Lib.hid (uint64StrM h hn)
  clear h
  go_enter Tryz.func78, Tryz.ntmps78
  go_wp2_with (go_at_call 77; refine HC.out.mono ?_; rintro e w1 ⟨r1, x1, vt1, ve1, vm1, rfl, ⟨k, rfl⟩, g1⟩; have HG := Lib.hid g1; clear g1)
  go_ret
  exact ⟨_, _, _, _, _, rfl, ⟨k, rfl⟩, HG.out⟩
set_option maxHeartbeats 1000000 in
theorem intStrM (h : MSt F w0 vm0 p n w x vt ve vm) (hn : n ≤ 999999) : Calls Tryz.prog 83 #[.pointer (some ⟨F.b, 0, none⟩)] w (MEnd F w0 vm0 p (n + 2) (NumQ (fun n => .int .i64 n))) := by
  have HC := Lib.hid (int64StrM h hn)
  clear h
  go_enter Tryz.func83, Tryz.ntmps83
  go_wp2_with (go_at_call 82; refine HC.out.mono ?_; rintro e w1 ⟨r1, x1, vt1, ve1, vm1, rfl, ⟨k, rfl⟩, g1⟩; have HG := Lib.hid g1; clear g1)
  go_ret
  exact ⟨_, _, _, _, _, rfl, ⟨k, rfl⟩, HG.out⟩
end
end Go.Proofs.YtaecbclonmhbcaaGreatDoor
