/- The lexer's calls that read whole numbers, in whatever mode. Printed by gen_mnop.py. -/
import Derived.Test.YtaecbclonmhbcaaGreatDoorP43
import Derived.Test.YtaecbclonmhbcaaGreatDoorP34
set_option linter.unusedVariables false
set_option linter.unusedSimpArgs false
namespace Go.Proofs.YtaecbclonmhbcaaGreatDoor
open Go.RowKit
def NumQ (mk : Int → Value) : Value → Lx → World → Value → Prop := fun r _ _ _ => ∃ k, r = mk k
section
variable {F : Fix} {w0 w : World} {vm0 vt ve vm : Value} {p n : Nat} {x : Lx}
set_option maxHeartbeats 4000000 in
set_option maxRecDepth 100000 in
theorem uint8M (h : MSt F w0 vm0 p n w x vt ve vm) (hn : n ≤ 999999) : Calls Tryz.prog 63 #[.pointer (some ⟨F.b, 0, none⟩)] w (MEnd F w0 vm0 p (n + 2) (NumQ (fun n => .int .u8 n))) := by
  have H := Lib.hid h
  have hm (N : Nat) : ∀ W, (method 390 171 (.pointer (some ⟨N, 0, none⟩)) "Error").run Tryz.prog W = .ok (279, .pointer (some ⟨N, 0, none⟩)) W := fun W => by show _ = _; kernel_rfl
  have HM := Lib.hid hm
  clear h hm
  go_enter Tryz.func63, Tryz.ntmps63
  go_wp2_with (first
    | (go_at_call 106; refine (numberM H.out (by omega)).mono ?_; rintro e w1 ⟨r1, x1, vt1, ve1, vm1, rfl, ⟨s, rfl, hs⟩, g1⟩; have HT := Lib.hid g1.gr.tabs; have G1 := Lib.hid g1; clear g1)
    | (go_at_call 47; refine (okM G1.out).mono ?_; rintro e w2 ⟨he, rfl⟩; rcases Bool.eq_false_or_eq_true x1.ok with ho | ho <;> rw [ho] at he <;> clear ho <;> subst he)
    | (go_at_call 115; refine (parseUint8_any _ _ hs HT.out.c3 HT.out.c4).mono ?_; rintro e w2 ⟨u, er, rfl, hne, hk⟩; have HK := Lib.hid (below_of_kept hk); have HNE := Lib.hid hne; clear hk hne; rcases HNE.out with rfl | ⟨N, g, fn, ev, rfl, hN, hh, hf, hg, hc⟩))
  · go_ret
    exact ⟨_, _, _, _, _, rfl, ⟨_, rfl⟩, (G1.out.below HK.out).le (Nat.le_succ _)⟩
  · have hmN := HM.out N
    have HH := Lib.hid hh
    have HC := Lib.hid hc
    have HT2 := Lib.hid (HT.out.below HK.out)
    have G3 := Lib.hid (G1.out.below HK.out)
    have c1 := G3.out.mx.lx.c1
    clear hh hc
    go_region_with (first
      | (go_at_call 279; refine (numErrText_any (HT2.out.below (below_drewN _ _)) HH.out hf hs hg HC.out).mono ?_; rintro e w3 ⟨⟨t, rfl⟩, hb3⟩; have G4 := Lib.hid ((G3.out.drewN _).below hb3); have d1 := G4.out.mx.lx.c1; clear hb3)
      | (go_at_call 108; refine (addM_new G4.out (by omega) _ _ (G4.out.startLe)).mono ?_; rintro e w4 ⟨r4, x4, vt4, ve4, vm4, rfl, ⟨rfl, hx4⟩, g4⟩; have H4 := Lib.hid g4; clear g4 hx4))
    all_goals
      go_wp2
      go_ret
      exact ⟨_, _, _, _, _, rfl, ⟨_, rfl⟩, H4.out⟩
  · go_ret
    exact ⟨_, _, _, _, _, rfl, ⟨0, rfl⟩, G1.out.le (Nat.le_succ _)⟩
set_option maxHeartbeats 4000000 in
set_option maxRecDepth 100000 in
theorem uint16M (h : MSt F w0 vm0 p n w x vt ve vm) (hn : n ≤ 999999) : Calls Tryz.prog 64 #[.pointer (some ⟨F.b, 0, none⟩)] w (MEnd F w0 vm0 p (n + 2) (NumQ (fun n => .int .u16 n))) := by
  have H := Lib.hid h
  have hm (N : Nat) : ∀ W, (method 390 171 (.pointer (some ⟨N, 0, none⟩)) "Error").run Tryz.prog W = .ok (279, .pointer (some ⟨N, 0, none⟩)) W := fun W => by show _ = _; kernel_rfl
  have HM := Lib.hid hm
  clear h hm
  go_enter Tryz.func64, Tryz.ntmps64
  go_wp2_with (first
    | (go_at_call 106; refine (numberM H.out (by omega)).mono ?_; rintro e w1 ⟨r1, x1, vt1, ve1, vm1, rfl, ⟨s, rfl, hs⟩, g1⟩; have HT := Lib.hid g1.gr.tabs; have G1 := Lib.hid g1; clear g1)
    | (go_at_call 47; refine (okM G1.out).mono ?_; rintro e w2 ⟨he, rfl⟩; rcases Bool.eq_false_or_eq_true x1.ok with ho | ho <;> rw [ho] at he <;> clear ho <;> subst he)
    | (go_at_call 115; refine (parseUint16_any _ _ hs HT.out.c3 HT.out.c4).mono ?_; rintro e w2 ⟨u, er, rfl, hne, hk⟩; have HK := Lib.hid (below_of_kept hk); have HNE := Lib.hid hne; clear hk hne; rcases HNE.out with rfl | ⟨N, g, fn, ev, rfl, hN, hh, hf, hg, hc⟩))
  · go_ret
    exact ⟨_, _, _, _, _, rfl, ⟨_, rfl⟩, (G1.out.below HK.out).le (Nat.le_succ _)⟩
  · have hmN := HM.out N
    have HH := Lib.hid hh
    have HC := Lib.hid hc
    have HT2 := Lib.hid (HT.out.below HK.out)
    have G3 := Lib.hid (G1.out.below HK.out)
    have c1 := G3.out.mx.lx.c1
    clear hh hc
    go_region_with (first
      | (go_at_call 279; refine (numErrText_any (HT2.out.below (below_drewN _ _)) HH.out hf hs hg HC.out).mono ?_; rintro e w3 ⟨⟨t, rfl⟩, hb3⟩; have G4 := Lib.hid ((G3.out.drewN _).below hb3); have d1 := G4.out.mx.lx.c1; clear hb3)
      | (go_at_call 108; refine (addM_new G4.out (by omega) _ _ (G4.out.startLe)).mono ?_; rintro e w4 ⟨r4, x4, vt4, ve4, vm4, rfl, ⟨rfl, hx4⟩, g4⟩; have H4 := Lib.hid g4; clear g4 hx4))
    all_goals
      go_wp2
      go_ret
      exact ⟨_, _, _, _, _, rfl, ⟨_, rfl⟩, H4.out⟩
  · go_ret
    exact ⟨_, _, _, _, _, rfl, ⟨0, rfl⟩, G1.out.le (Nat.le_succ _)⟩
set_option maxHeartbeats 4000000 in
set_option maxRecDepth 100000 in
theorem uint32M (h : MSt F w0 vm0 p n w x vt ve vm) (hn : n ≤ 999999) : Calls Tryz.prog 65 #[.pointer (some ⟨F.b, 0, none⟩)] w (MEnd F w0 vm0 p (n + 2) (NumQ (fun n => .int .u32 n))) := by
  have H := Lib.hid h
  have hm (N : Nat) : ∀ W, (method 390 171 (.pointer (some ⟨N, 0, none⟩)) "Error").run Tryz.prog W = .ok (279, .pointer (some ⟨N, 0, none⟩)) W := fun W => by show _ = _; kernel_rfl
  have HM := Lib.hid hm
  clear h hm
  go_enter Tryz.func65, Tryz.ntmps65
  go_wp2_with (first
    | (go_at_call 106; refine (numberM H.out (by omega)).mono ?_; rintro e w1 ⟨r1, x1, vt1, ve1, vm1, rfl, ⟨s, rfl, hs⟩, g1⟩; have HT := Lib.hid g1.gr.tabs; have G1 := Lib.hid g1; clear g1)
    | (go_at_call 47; refine (okM G1.out).mono ?_; rintro e w2 ⟨he, rfl⟩; rcases Bool.eq_false_or_eq_true x1.ok with ho | ho <;> rw [ho] at he <;> clear ho <;> subst he)
    | (go_at_call 115; refine (parseUint32_any _ _ hs HT.out.c3 HT.out.c4).mono ?_; rintro e w2 ⟨u, er, rfl, hne, hk⟩; have HK := Lib.hid (below_of_kept hk); have HNE := Lib.hid hne; clear hk hne; rcases HNE.out with rfl | ⟨N, g, fn, ev, rfl, hN, hh, hf, hg, hc⟩))
  · go_ret
    exact ⟨_, _, _, _, _, rfl, ⟨_, rfl⟩, (G1.out.below HK.out).le (Nat.le_succ _)⟩
  · have hmN := HM.out N
    have HH := Lib.hid hh
    have HC := Lib.hid hc
    have HT2 := Lib.hid (HT.out.below HK.out)
    have G3 := Lib.hid (G1.out.below HK.out)
    have c1 := G3.out.mx.lx.c1
    clear hh hc
    go_region_with (first
      | (go_at_call 279; refine (numErrText_any (HT2.out.below (below_drewN _ _)) HH.out hf hs hg HC.out).mono ?_; rintro e w3 ⟨⟨t, rfl⟩, hb3⟩; have G4 := Lib.hid ((G3.out.drewN _).below hb3); have d1 := G4.out.mx.lx.c1; clear hb3)
      | (go_at_call 108; refine (addM_new G4.out (by omega) _ _ (G4.out.startLe)).mono ?_; rintro e w4 ⟨r4, x4, vt4, ve4, vm4, rfl, ⟨rfl, hx4⟩, g4⟩; have H4 := Lib.hid g4; clear g4 hx4))
    all_goals
      go_wp2
      go_ret
      exact ⟨_, _, _, _, _, rfl, ⟨_, rfl⟩, H4.out⟩
  · go_ret
    exact ⟨_, _, _, _, _, rfl, ⟨0, rfl⟩, G1.out.le (Nat.le_succ _)⟩
set_option maxHeartbeats 4000000 in
set_option maxRecDepth 100000 in
theorem uint64M (h : MSt F w0 vm0 p n w x vt ve vm) (hn : n ≤ 999999) : Calls Tryz.prog 66 #[.pointer (some ⟨F.b, 0, none⟩)] w (MEnd F w0 vm0 p (n + 2) (NumQ (fun n => .int .u64 n))) := by
  have H := Lib.hid h
  have hm (N : Nat) : ∀ W, (method 390 171 (.pointer (some ⟨N, 0, none⟩)) "Error").run Tryz.prog W = .ok (279, .pointer (some ⟨N, 0, none⟩)) W := fun W => by show _ = _; kernel_rfl
  have HM := Lib.hid hm
  clear h hm
  go_enter Tryz.func66, Tryz.ntmps66
  go_wp2_with (first
    | (go_at_call 106; refine (numberM H.out (by omega)).mono ?_; rintro e w1 ⟨r1, x1, vt1, ve1, vm1, rfl, ⟨s, rfl, hs⟩, g1⟩; have HT := Lib.hid g1.gr.tabs; have G1 := Lib.hid g1; clear g1)
    | (go_at_call 47; refine (okM G1.out).mono ?_; rintro e w2 ⟨he, rfl⟩; rcases Bool.eq_false_or_eq_true x1.ok with ho | ho <;> rw [ho] at he <;> clear ho <;> subst he)
    | (go_at_call 115; refine (parseUint64_any _ _ hs HT.out.c3 HT.out.c4).mono ?_; rintro e w2 ⟨u, er, rfl, hne, hk⟩; have HK := Lib.hid (below_of_kept hk); have HNE := Lib.hid hne; clear hk hne; rcases HNE.out with rfl | ⟨N, g, fn, ev, rfl, hN, hh, hf, hg, hc⟩))
  · go_ret
    exact ⟨_, _, _, _, _, rfl, ⟨_, rfl⟩, (G1.out.below HK.out).le (Nat.le_succ _)⟩
  · have hmN := HM.out N
    have HH := Lib.hid hh
    have HC := Lib.hid hc
    have HT2 := Lib.hid (HT.out.below HK.out)
    have G3 := Lib.hid (G1.out.below HK.out)
    have c1 := G3.out.mx.lx.c1
    clear hh hc
    go_region_with (first
      | (go_at_call 279; refine (numErrText_any (HT2.out.below (below_drewN _ _)) HH.out hf hs hg HC.out).mono ?_; rintro e w3 ⟨⟨t, rfl⟩, hb3⟩; have G4 := Lib.hid ((G3.out.drewN _).below hb3); have d1 := G4.out.mx.lx.c1; clear hb3)
      | (go_at_call 108; refine (addM_new G4.out (by omega) _ _ (G4.out.startLe)).mono ?_; rintro e w4 ⟨r4, x4, vt4, ve4, vm4, rfl, ⟨rfl, hx4⟩, g4⟩; have H4 := Lib.hid g4; clear g4 hx4))
    all_goals
      go_wp2
      go_ret
      exact ⟨_, _, _, _, _, rfl, ⟨_, rfl⟩, H4.out⟩
  · go_ret
    exact ⟨_, _, _, _, _, rfl, ⟨0, rfl⟩, G1.out.le (Nat.le_succ _)⟩
set_option maxHeartbeats 4000000 in
set_option maxRecDepth 100000 in
theorem int8M (h : MSt F w0 vm0 p n w x vt ve vm) (hn : n ≤ 999999) : Calls Tryz.prog 68 #[.pointer (some ⟨F.b, 0, none⟩)] w (MEnd F w0 vm0 p (n + 2) (NumQ (fun n => .int .i8 n))) := by
  have H := Lib.hid h
  have hm (N : Nat) : ∀ W, (method 390 171 (.pointer (some ⟨N, 0, none⟩)) "Error").run Tryz.prog W = .ok (279, .pointer (some ⟨N, 0, none⟩)) W := fun W => by show _ = _; kernel_rfl
  have HM := Lib.hid hm
  clear h hm
  go_enter Tryz.func68, Tryz.ntmps68
  go_wp2_with (first
    | (go_at_call 106; refine (numberM H.out (by omega)).mono ?_; rintro e w1 ⟨r1, x1, vt1, ve1, vm1, rfl, ⟨s, rfl, hs⟩, g1⟩; have HT := Lib.hid g1.gr.tabs; have G1 := Lib.hid g1; clear g1)
    | (go_at_call 47; refine (okM G1.out).mono ?_; rintro e w2 ⟨he, rfl⟩; rcases Bool.eq_false_or_eq_true x1.ok with ho | ho <;> rw [ho] at he <;> clear ho <;> subst he)
    | (go_at_call 116; refine (parseInt8_any _ _ hs HT.out.c3 HT.out.c4).mono ?_; rintro e w2 ⟨u, er, rfl, hne, hk⟩; have HK := Lib.hid (below_of_kept hk); have HNE := Lib.hid hne; clear hk hne; rcases HNE.out with rfl | ⟨N, g, fn, ev, rfl, hN, hh, hf, hg, hc⟩))
  · go_ret
    exact ⟨_, _, _, _, _, rfl, ⟨_, rfl⟩, (G1.out.below HK.out).le (Nat.le_succ _)⟩
  · have hmN := HM.out N
    have HH := Lib.hid hh
    have HC := Lib.hid hc
    have HT2 := Lib.hid (HT.out.below HK.out)
    have G3 := Lib.hid (G1.out.below HK.out)
    have c1 := G3.out.mx.lx.c1
    clear hh hc
    go_region_with (first
      | (go_at_call 279; refine (numErrText_any (HT2.out.below (below_drewN _ _)) HH.out hf hs hg HC.out).mono ?_; rintro e w3 ⟨⟨t, rfl⟩, hb3⟩; have G4 := Lib.hid ((G3.out.drewN _).below hb3); have d1 := G4.out.mx.lx.c1; clear hb3)
      | (go_at_call 108; refine (addM_new G4.out (by omega) _ _ (G4.out.startLe)).mono ?_; rintro e w4 ⟨r4, x4, vt4, ve4, vm4, rfl, ⟨rfl, hx4⟩, g4⟩; have H4 := Lib.hid g4; clear g4 hx4))
    all_goals
      go_wp2
      go_ret
      exact ⟨_, _, _, _, _, rfl, ⟨_, rfl⟩, H4.out⟩
  · go_ret
    exact ⟨_, _, _, _, _, rfl, ⟨0, rfl⟩, G1.out.le (Nat.le_succ _)⟩
set_option maxHeartbeats 4000000 in
set_option maxRecDepth 100000 in
theorem int16M (h : MSt F w0 vm0 p n w x vt ve vm) (hn : n ≤ 999999) : Calls Tryz.prog 69 #[.pointer (some ⟨F.b, 0, none⟩)] w (MEnd F w0 vm0 p (n + 2) (NumQ (fun n => .int .i16 n))) := by
  have H := Lib.hid h
  have hm (N : Nat) : ∀ W, (method 390 171 (.pointer (some ⟨N, 0, none⟩)) "Error").run Tryz.prog W = .ok (279, .pointer (some ⟨N, 0, none⟩)) W := fun W => by show _ = _; kernel_rfl
  have HM := Lib.hid hm
  clear h hm
  go_enter Tryz.func69, Tryz.ntmps69
  go_wp2_with (first
    | (go_at_call 106; refine (numberM H.out (by omega)).mono ?_; rintro e w1 ⟨r1, x1, vt1, ve1, vm1, rfl, ⟨s, rfl, hs⟩, g1⟩; have HT := Lib.hid g1.gr.tabs; have G1 := Lib.hid g1; clear g1)
    | (go_at_call 47; refine (okM G1.out).mono ?_; rintro e w2 ⟨he, rfl⟩; rcases Bool.eq_false_or_eq_true x1.ok with ho | ho <;> rw [ho] at he <;> clear ho <;> subst he)
    | (go_at_call 116; refine (parseInt16_any _ _ hs HT.out.c3 HT.out.c4).mono ?_; rintro e w2 ⟨u, er, rfl, hne, hk⟩; have HK := Lib.hid (below_of_kept hk); have HNE := Lib.hid hne; clear hk hne; rcases HNE.out with rfl | ⟨N, g, fn, ev, rfl, hN, hh, hf, hg, hc⟩))
  · go_ret
    exact ⟨_, _, _, _, _, rfl, ⟨_, rfl⟩, (G1.out.below HK.out).le (Nat.le_succ _)⟩
  · have hmN := HM.out N
    have HH := Lib.hid hh
    have HC := Lib.hid hc
    have HT2 := Lib.hid (HT.out.below HK.out)
    have G3 := Lib.hid (G1.out.below HK.out)
    have c1 := G3.out.mx.lx.c1
    clear hh hc
    go_region_with (first
      | (go_at_call 279; refine (numErrText_any (HT2.out.below (below_drewN _ _)) HH.out hf hs hg HC.out).mono ?_; rintro e w3 ⟨⟨t, rfl⟩, hb3⟩; have G4 := Lib.hid ((G3.out.drewN _).below hb3); have d1 := G4.out.mx.lx.c1; clear hb3)
      | (go_at_call 108; refine (addM_new G4.out (by omega) _ _ (G4.out.startLe)).mono ?_; rintro e w4 ⟨r4, x4, vt4, ve4, vm4, rfl, ⟨rfl, hx4⟩, g4⟩; have H4 := Lib.hid g4; clear g4 hx4))
    all_goals
      go_wp2
      go_ret
      exact ⟨_, _, _, _, _, rfl, ⟨_, rfl⟩, H4.out⟩
  · go_ret
    exact ⟨_, _, _, _, _, rfl, ⟨0, rfl⟩, G1.out.le (Nat.le_succ _)⟩
set_option maxHeartbeats 4000000 in
set_option maxRecDepth 100000 in
theorem int32M (h : MSt F w0 vm0 p n w x vt ve vm) (hn : n ≤ 999999) : Calls Tryz.prog 70 #[.pointer (some ⟨F.b, 0, none⟩)] w (MEnd F w0 vm0 p (n + 2) (NumQ (fun n => .int .i32 n))) := by
  have H := Lib.hid h
  have hm (N : Nat) : ∀ W, (method 390 171 (.pointer (some ⟨N, 0, none⟩)) "Error").run Tryz.prog W = .ok (279, .pointer (some ⟨N, 0, none⟩)) W := fun W => by show _ = _; kernel_rfl
  have HM := Lib.hid hm
  clear h hm
  go_enter Tryz.func70, Tryz.ntmps70
  go_wp2_with (first
    | (go_at_call 106; refine (numberM H.out (by omega)).mono ?_; rintro e w1 ⟨r1, x1, vt1, ve1, vm1, rfl, ⟨s, rfl, hs⟩, g1⟩; have HT := Lib.hid g1.gr.tabs; have G1 := Lib.hid g1; clear g1)
    | (go_at_call 47; refine (okM G1.out).mono ?_; rintro e w2 ⟨he, rfl⟩; rcases Bool.eq_false_or_eq_true x1.ok with ho | ho <;> rw [ho] at he <;> clear ho <;> subst he)
    | (go_at_call 116; refine (parseInt32_any _ _ hs HT.out.c3 HT.out.c4).mono ?_; rintro e w2 ⟨u, er, rfl, hne, hk⟩; have HK := Lib.hid (below_of_kept hk); have HNE := Lib.hid hne; clear hk hne; rcases HNE.out with rfl | ⟨N, g, fn, ev, rfl, hN, hh, hf, hg, hc⟩))
  · go_ret
    exact ⟨_, _, _, _, _, rfl, ⟨_, rfl⟩, (G1.out.below HK.out).le (Nat.le_succ _)⟩
  · have hmN := HM.out N
    have HH := Lib.hid hh
    have HC := Lib.hid hc
    have HT2 := Lib.hid (HT.out.below HK.out)
    have G3 := Lib.hid (G1.out.below HK.out)
    have c1 := G3.out.mx.lx.c1
    clear hh hc
    go_region_with (first
      | (go_at_call 279; refine (numErrText_any (HT2.out.below (below_drewN _ _)) HH.out hf hs hg HC.out).mono ?_; rintro e w3 ⟨⟨t, rfl⟩, hb3⟩; have G4 := Lib.hid ((G3.out.drewN _).below hb3); have d1 := G4.out.mx.lx.c1; clear hb3)
      | (go_at_call 108; refine (addM_new G4.out (by omega) _ _ (G4.out.startLe)).mono ?_; rintro e w4 ⟨r4, x4, vt4, ve4, vm4, rfl, ⟨rfl, hx4⟩, g4⟩; have H4 := Lib.hid g4; clear g4 hx4))
    all_goals
      go_wp2
      go_ret
      exact ⟨_, _, _, _, _, rfl, ⟨_, rfl⟩, H4.out⟩
  · go_ret
    exact ⟨_, _, _, _, _, rfl, ⟨0, rfl⟩, G1.out.le (Nat.le_succ _)⟩
set_option maxHeartbeats 4000000 in
set_option maxRecDepth 100000 in
theorem int64M (h : MSt F w0 vm0 p n w x vt ve vm) (hn : n ≤ 999999) : Calls Tryz.prog 71 #[.pointer (some ⟨F.b, 0, none⟩)] w (MEnd F w0 vm0 p (n + 2) (NumQ (fun n => .int .i64 n))) := by
  have H := Lib.hid h
  have hm (N : Nat) : ∀ W, (method 390 171 (.pointer (some ⟨N, 0, none⟩)) "Error").run Tryz.prog W = .ok (279, .pointer (some ⟨N, 0, none⟩)) W := fun W => by show _ = _; kernel_rfl
  have HM := Lib.hid hm
  clear h hm
  go_enter Tryz.func71, Tryz.ntmps71
  go_wp2_with (first
    | (go_at_call 106; refine (numberM H.out (by omega)).mono ?_; rintro e w1 ⟨r1, x1, vt1, ve1, vm1, rfl, ⟨s, rfl, hs⟩, g1⟩; have HT := Lib.hid g1.gr.tabs; have G1 := Lib.hid g1; clear g1)
    | (go_at_call 47; refine (okM G1.out).mono ?_; rintro e w2 ⟨he, rfl⟩; rcases Bool.eq_false_or_eq_true x1.ok with ho | ho <;> rw [ho] at he <;> clear ho <;> subst he)
    | (go_at_call 116; refine (parseInt64_any _ _ hs HT.out.c3 HT.out.c4).mono ?_; rintro e w2 ⟨u, er, rfl, hne, hk⟩; have HK := Lib.hid (below_of_kept hk); have HNE := Lib.hid hne; clear hk hne; rcases HNE.out with rfl | ⟨N, g, fn, ev, rfl, hN, hh, hf, hg, hc⟩))
  · go_ret
    exact ⟨_, _, _, _, _, rfl, ⟨_, rfl⟩, (G1.out.below HK.out).le (Nat.le_succ _)⟩
  · have hmN := HM.out N
    have HH := Lib.hid hh
    have HC := Lib.hid hc
    have HT2 := Lib.hid (HT.out.below HK.out)
    have G3 := Lib.hid (G1.out.below HK.out)
    have c1 := G3.out.mx.lx.c1
    clear hh hc
    go_region_with (first
      | (go_at_call 279; refine (numErrText_any (HT2.out.below (below_drewN _ _)) HH.out hf hs hg HC.out).mono ?_; rintro e w3 ⟨⟨t, rfl⟩, hb3⟩; have G4 := Lib.hid ((G3.out.drewN _).below hb3); have d1 := G4.out.mx.lx.c1; clear hb3)
      | (go_at_call 108; refine (addM_new G4.out (by omega) _ _ (G4.out.startLe)).mono ?_; rintro e w4 ⟨r4, x4, vt4, ve4, vm4, rfl, ⟨rfl, hx4⟩, g4⟩; have H4 := Lib.hid g4; clear g4 hx4))
    all_goals
      go_wp2
      go_ret
      exact ⟨_, _, _, _, _, rfl, ⟨_, rfl⟩, H4.out⟩
  · go_ret
    exact ⟨_, _, _, _, _, rfl, ⟨0, rfl⟩, G1.out.le (Nat.le_succ _)⟩
set_option maxHeartbeats 1000000 in
theorem uintM (h : MSt F w0 vm0 p n w x vt ve vm) (hn : n ≤ 999999) : Calls Tryz.prog 67 #[.pointer (some ⟨F.b, 0, none⟩)] w (MEnd F w0 vm0 p (n + 2) (NumQ (fun n => .int .u64 n))) := by
  have HC := Lib.hid (uint64M h hn)
  clear h
  go_enter Tryz.func67, Tryz.ntmps67
  go_wp2_with (go_at_call 66; refine HC.out.mono ?_; rintro e w1 ⟨r1, x1, vt1, ve1, vm1, rfl, ⟨k, rfl⟩, g1⟩; have HG := Lib.hid g1; clear g1)
  go_ret
  exact ⟨_, _, _, _, _, rfl, ⟨k, rfl⟩, HG.out⟩
set_option maxHeartbeats 1000000 in
theorem intM (h : MSt F w0 vm0 p n w x vt ve vm) (hn : n ≤ 999999) : Calls Tryz.prog 72 #[.pointer (some ⟨F.b, 0, none⟩)] w (MEnd F w0 vm0 p (n + 2) (NumQ (fun n => .int .i64 n))) := by
  have HC := Lib.hid (int64M h hn)
  clear h
  go_enter Tryz.func72, Tryz.ntmps72
  go_wp2_with (go_at_call 71; refine HC.out.mono ?_; rintro e w1 ⟨r1, x1, vt1, ve1, vm1, rfl, ⟨k, rfl⟩, g1⟩; have HG := Lib.hid g1; clear g1)
  go_ret
  exact ⟨_, _, _, _, _, rfl, ⟨k, rfl⟩, HG.out⟩
end
end Go.Proofs.YtaecbclonmhbcaaGreatDoor
