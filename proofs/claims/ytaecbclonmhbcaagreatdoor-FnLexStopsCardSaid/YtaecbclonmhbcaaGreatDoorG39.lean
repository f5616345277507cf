/- The lexer's calls that read whole numbers, over every state with one error. Printed by gen_nop.py. -/
import Derived.Test.YtaecbclonmhbcaaGreatDoorG37
set_option linter.unusedVariables false
set_option linter.unusedSimpArgs false
/- The lexer's calls that read whole numbers, over every state with one error. Printed by gen_nop.py. -/
namespace Go.Proofs.YtaecbclonmhbcaaGreatDoor
open Go.RowKit
section
variable {w : World} {b : Nat} {ae : Sur} {ao : Addr} {x : Lx} {vd vt ve vm : Value}

set_option maxHeartbeats 4000000 in
set_option maxRecDepth 100000 in
theorem uint8_some (h : LexAt w b ae ao x vd vt ve vm) (hI : x.Inv) (hG : Gr b w) : Calls Tryz.prog 63 #[.pointer (some ⟨b, 0, none⟩)] w (NopPost (fun n => .int .u8 n) w b ae ao x vd vm) := by
  have H := Lib.hid h
  have HI := Lib.hid hI
  have HG := Lib.hid hG
  have hm (N : Nat) : ∀ W, (method 390 171 (.pointer (some ⟨N, 0, none⟩)) "Error").run Tryz.prog W = .ok (279, .pointer (some ⟨N, 0, none⟩)) W := fun W => by show _ = _; kernel_rfl
  have HM := Lib.hid hm
  clear h hI hG hm
  cases ho : x.num.ok with
  | false =>
    have HO := Lib.hid ho
    go_enter Tryz.func63, Tryz.ntmps63
    go_wp2_with (first
      | (go_at_call 106; refine (number_any H.out HI.out.wf HI.out.multi).mono ?_; rintro e w1 ⟨rfl, vt1, ve1, g1, g2⟩; have G1 := Lib.hid g1; have G2 := Lib.hid g2; clear g1 g2)
      | (go_at_call 47; refine (ok_any G1.out).mono ?_; rintro e w2 ⟨he, rfl⟩; rw [HO.out] at he; subst he))
    go_ret
    exact ⟨x.num, 0, num_inv HI.out, fun hx => ⟨by rw [num_shut hx], rfl⟩, rfl, vt1, ve1, G1.out, G2.out⟩
  | true =>
    have HO := Lib.hid ho
    have hx : x.ok = false → False := fun hx => by rw [num_shut hx, hx] at ho; cases ho
    have HX := Lib.hid hx
    have HV := Lib.hid (numV_good HI.out ho)
    have HNI := Lib.hid (num_inv HI.out)
    clear ho hx
    obtain ⟨s, hse⟩ : ∃ s, s = x.numV := ⟨_, rfl⟩
    rw [← hse] at HV
    have HSE := Lib.hid hse
    clear hse
    go_enter Tryz.func63, Tryz.ntmps63
    go_wp2_with (first
      | (go_at_call 106; refine (number_any H.out HI.out.wf HI.out.multi).mono ?_; rintro e w1 ⟨rfl, vt1, ve1, g1, g2⟩; rw [← HSE.out]; have hgr := HG.out.kept g2; have HT := Lib.hid hgr.tabs; have HGR := Lib.hid hgr; have G1 := Lib.hid g1; have G2 := Lib.hid g2; clear g1 g2 hgr)
      | (go_at_call 47; refine (ok_any G1.out).mono ?_; rintro e w2 ⟨he, rfl⟩; rw [HO.out] at he; subst he)
      | (go_at_call 115; refine (parseUint8_any _ _ HV.out.2.2 HT.out.c3 HT.out.c4).mono ?_; rintro e w2 ⟨u, er, rfl, hne, hk⟩; have HK := Lib.hid (below_of_kept hk); have HNE := Lib.hid hne; clear hk hne; rcases HNE.out with rfl | ⟨N, g, fn, ev, rfl, hN, hh, hf, hg, hc⟩))
    · go_ret
      exact ⟨x.num, _, HNI.out, fun hx => (HX.out hx).elim, rfl, vt1, ve1, G1.out.belowNew HK.out, G2.out.trans (kept_below HK.out b)⟩
    · have hmN := HM.out N
      have HH := Lib.hid hh
      have HC := Lib.hid hc
      have HT2 := Lib.hid (HT.out.below HK.out)
      have G3 := Lib.hid (G1.out.belowNew HK.out)
      have c1 := G3.out.c1
      clear hh hc
      go_region_with (first
        | (go_at_call 279; refine (numErrText_any (HT2.out.below (below_drewN _ _)) HH.out hf HV.out.2.2 hg HC.out).mono ?_; rintro e w3 ⟨⟨t, rfl⟩, hb3⟩; have HB3 := Lib.hid hb3; have G4 := Lib.hid ((G3.out.drewN _).belowNew hb3); have d1 := G4.out.c1; clear hb3)
        | (go_at_call 108; refine (addNonfatal_one (G4.out.alloc _) HNI.out.multi _).mono ?_; rintro e w4 ⟨rfl, rfl⟩))
      all_goals
        go_wp2
        go_ret
        refine ⟨{ x.num with err := .lex x.num.start }, _, HNI.out.err rfl, fun hx => (HX.out hx).elim, rfl, vt1, _, G4.out.newErr t s x.num.start 0, ?_⟩
        exact ((((G2.out.trans (kept_below HK.out b)).drewN _).trans (kept_below HB3.out b)).alloc _).setCell _ _

set_option maxHeartbeats 4000000 in
set_option maxRecDepth 100000 in
theorem uint16_some (h : LexAt w b ae ao x vd vt ve vm) (hI : x.Inv) (hG : Gr b w) : Calls Tryz.prog 64 #[.pointer (some ⟨b, 0, none⟩)] w (NopPost (fun n => .int .u16 n) w b ae ao x vd vm) := by
  have H := Lib.hid h
  have HI := Lib.hid hI
  have HG := Lib.hid hG
  have hm (N : Nat) : ∀ W, (method 390 171 (.pointer (some ⟨N, 0, none⟩)) "Error").run Tryz.prog W = .ok (279, .pointer (some ⟨N, 0, none⟩)) W := fun W => by show _ = _; kernel_rfl
  have HM := Lib.hid hm
  clear h hI hG hm
  cases ho : x.num.ok with
  | false =>
    have HO := Lib.hid ho
    go_enter Tryz.func64, Tryz.ntmps64
    go_wp2_with (first
      | (go_at_call 106; refine (number_any H.out HI.out.wf HI.out.multi).mono ?_; rintro e w1 ⟨rfl, vt1, ve1, g1, g2⟩; have G1 := Lib.hid g1; have G2 := Lib.hid g2; clear g1 g2)
      | (go_at_call 47; refine (ok_any G1.out).mono ?_; rintro e w2 ⟨he, rfl⟩; rw [HO.out] at he; subst he))
    go_ret
    exact ⟨x.num, 0, num_inv HI.out, fun hx => ⟨by rw [num_shut hx], rfl⟩, rfl, vt1, ve1, G1.out, G2.out⟩
  | true =>
    have HO := Lib.hid ho
    have hx : x.ok = false → False := fun hx => by rw [num_shut hx, hx] at ho; cases ho
    have HX := Lib.hid hx
    have HV := Lib.hid (numV_good HI.out ho)
    have HNI := Lib.hid (num_inv HI.out)
    clear ho hx
    obtain ⟨s, hse⟩ : ∃ s, s = x.numV := ⟨_, rfl⟩
    rw [← hse] at HV
    have HSE := Lib.hid hse
    clear hse
    go_enter Tryz.func64, Tryz.ntmps64
    go_wp2_with (first
      | (go_at_call 106; refine (number_any H.out HI.out.wf HI.out.multi).mono ?_; rintro e w1 ⟨rfl, vt1, ve1, g1, g2⟩; rw [← HSE.out]; have hgr := HG.out.kept g2; have HT := Lib.hid hgr.tabs; have HGR := Lib.hid hgr; have G1 := Lib.hid g1; have G2 := Lib.hid g2; clear g1 g2 hgr)
      | (go_at_call 47; refine (ok_any G1.out).mono ?_; rintro e w2 ⟨he, rfl⟩; rw [HO.out] at he; subst he)
      | (go_at_call 115; refine (parseUint16_any _ _ HV.out.2.2 HT.out.c3 HT.out.c4).mono ?_; rintro e w2 ⟨u, er, rfl, hne, hk⟩; have HK := Lib.hid (below_of_kept hk); have HNE := Lib.hid hne; clear hk hne; rcases HNE.out with rfl | ⟨N, g, fn, ev, rfl, hN, hh, hf, hg, hc⟩))
    · go_ret
      exact ⟨x.num, _, HNI.out, fun hx => (HX.out hx).elim, rfl, vt1, ve1, G1.out.belowNew HK.out, G2.out.trans (kept_below HK.out b)⟩
    · have hmN := HM.out N
      have HH := Lib.hid hh
      have HC := Lib.hid hc
      have HT2 := Lib.hid (HT.out.below HK.out)
      have G3 := Lib.hid (G1.out.belowNew HK.out)
      have c1 := G3.out.c1
      clear hh hc
      go_region_with (first
        | (go_at_call 279; refine (numErrText_any (HT2.out.below (below_drewN _ _)) HH.out hf HV.out.2.2 hg HC.out).mono ?_; rintro e w3 ⟨⟨t, rfl⟩, hb3⟩; have HB3 := Lib.hid hb3; have G4 := Lib.hid ((G3.out.drewN _).belowNew hb3); have d1 := G4.out.c1; clear hb3)
        | (go_at_call 108; refine (addNonfatal_one (G4.out.alloc _) HNI.out.multi _).mono ?_; rintro e w4 ⟨rfl, rfl⟩))
      all_goals
        go_wp2
        go_ret
        refine ⟨{ x.num with err := .lex x.num.start }, _, HNI.out.err rfl, fun hx => (HX.out hx).elim, rfl, vt1, _, G4.out.newErr t s x.num.start 0, ?_⟩
        exact ((((G2.out.trans (kept_below HK.out b)).drewN _).trans (kept_below HB3.out b)).alloc _).setCell _ _

set_option maxHeartbeats 4000000 in
set_option maxRecDepth 100000 in
theorem uint32_some (h : LexAt w b ae ao x vd vt ve vm) (hI : x.Inv) (hG : Gr b w) : Calls Tryz.prog 65 #[.pointer (some ⟨b, 0, none⟩)] w (NopPost (fun n => .int .u32 n) w b ae ao x vd vm) := by
  have H := Lib.hid h
  have HI := Lib.hid hI
  have HG := Lib.hid hG
  have hm (N : Nat) : ∀ W, (method 390 171 (.pointer (some ⟨N, 0, none⟩)) "Error").run Tryz.prog W = .ok (279, .pointer (some ⟨N, 0, none⟩)) W := fun W => by show _ = _; kernel_rfl
  have HM := Lib.hid hm
  clear h hI hG hm
  cases ho : x.num.ok with
  | false =>
    have HO := Lib.hid ho
    go_enter Tryz.func65, Tryz.ntmps65
    go_wp2_with (first
      | (go_at_call 106; refine (number_any H.out HI.out.wf HI.out.multi).mono ?_; rintro e w1 ⟨rfl, vt1, ve1, g1, g2⟩; have G1 := Lib.hid g1; have G2 := Lib.hid g2; clear g1 g2)
      | (go_at_call 47; refine (ok_any G1.out).mono ?_; rintro e w2 ⟨he, rfl⟩; rw [HO.out] at he; subst he))
    go_ret
    exact ⟨x.num, 0, num_inv HI.out, fun hx => ⟨by rw [num_shut hx], rfl⟩, rfl, vt1, ve1, G1.out, G2.out⟩
  | true =>
    have HO := Lib.hid ho
    have hx : x.ok = false → False := fun hx => by rw [num_shut hx, hx] at ho; cases ho
    have HX := Lib.hid hx
    have HV := Lib.hid (numV_good HI.out ho)
    have HNI := Lib.hid (num_inv HI.out)
    clear ho hx
    obtain ⟨s, hse⟩ : ∃ s, s = x.numV := ⟨_, rfl⟩
    rw [← hse] at HV
    have HSE := Lib.hid hse
    clear hse
    go_enter Tryz.func65, Tryz.ntmps65
    go_wp2_with (first
      | (go_at_call 106; refine (number_any H.out HI.out.wf HI.out.multi).mono ?_; rintro e w1 ⟨rfl, vt1, ve1, g1, g2⟩; rw [← HSE.out]; have hgr := HG.out.kept g2; have HT := Lib.hid hgr.tabs; have HGR := Lib.hid hgr; have G1 := Lib.hid g1; have G2 := Lib.hid g2; clear g1 g2 hgr)
      | (go_at_call 47; refine (ok_any G1.out).mono ?_; rintro e w2 ⟨he, rfl⟩; rw [HO.out] at he; subst he)
      | (go_at_call 115; refine (parseUint32_any _ _ HV.out.2.2 HT.out.c3 HT.out.c4).mono ?_; rintro e w2 ⟨u, er, rfl, hne, hk⟩; have HK := Lib.hid (below_of_kept hk); have HNE := Lib.hid hne; clear hk hne; rcases HNE.out with rfl | ⟨N, g, fn, ev, rfl, hN, hh, hf, hg, hc⟩))
    · go_ret
      exact ⟨x.num, _, HNI.out, fun hx => (HX.out hx).elim, rfl, vt1, ve1, G1.out.belowNew HK.out, G2.out.trans (kept_below HK.out b)⟩
    · have hmN := HM.out N
      have HH := Lib.hid hh
      have HC := Lib.hid hc
      have HT2 := Lib.hid (HT.out.below HK.out)
      have G3 := Lib.hid (G1.out.belowNew HK.out)
      have c1 := G3.out.c1
      clear hh hc
      go_region_with (first
        | (go_at_call 279; refine (numErrText_any (HT2.out.below (below_drewN _ _)) HH.out hf HV.out.2.2 hg HC.out).mono ?_; rintro e w3 ⟨⟨t, rfl⟩, hb3⟩; have HB3 := Lib.hid hb3; have G4 := Lib.hid ((G3.out.drewN _).belowNew hb3); have d1 := G4.out.c1; clear hb3)
        | (go_at_call 108; refine (addNonfatal_one (G4.out.alloc _) HNI.out.multi _).mono ?_; rintro e w4 ⟨rfl, rfl⟩))
      all_goals
        go_wp2
        go_ret
        refine ⟨{ x.num with err := .lex x.num.start }, _, HNI.out.err rfl, fun hx => (HX.out hx).elim, rfl, vt1, _, G4.out.newErr t s x.num.start 0, ?_⟩
        exact ((((G2.out.trans (kept_below HK.out b)).drewN _).trans (kept_below HB3.out b)).alloc _).setCell _ _

set_option maxHeartbeats 4000000 in
set_option maxRecDepth 100000 in
theorem uint64_some (h : LexAt w b ae ao x vd vt ve vm) (hI : x.Inv) (hG : Gr b w) : Calls Tryz.prog 66 #[.pointer (some ⟨b, 0, none⟩)] w (NopPost (fun n => .int .u64 n) w b ae ao x vd vm) := by
  have H := Lib.hid h
  have HI := Lib.hid hI
  have HG := Lib.hid hG
  have hm (N : Nat) : ∀ W, (method 390 171 (.pointer (some ⟨N, 0, none⟩)) "Error").run Tryz.prog W = .ok (279, .pointer (some ⟨N, 0, none⟩)) W := fun W => by show _ = _; kernel_rfl
  have HM := Lib.hid hm
  clear h hI hG hm
  cases ho : x.num.ok with
  | false =>
    have HO := Lib.hid ho
    go_enter Tryz.func66, Tryz.ntmps66
    go_wp2_with (first
      | (go_at_call 106; refine (number_any H.out HI.out.wf HI.out.multi).mono ?_; rintro e w1 ⟨rfl, vt1, ve1, g1, g2⟩; have G1 := Lib.hid g1; have G2 := Lib.hid g2; clear g1 g2)
      | (go_at_call 47; refine (ok_any G1.out).mono ?_; rintro e w2 ⟨he, rfl⟩; rw [HO.out] at he; subst he))
    go_ret
    exact ⟨x.num, 0, num_inv HI.out, fun hx => ⟨by rw [num_shut hx], rfl⟩, rfl, vt1, ve1, G1.out, G2.out⟩
  | true =>
    have HO := Lib.hid ho
    have hx : x.ok = false → False := fun hx => by rw [num_shut hx, hx] at ho; cases ho
    have HX := Lib.hid hx
    have HV := Lib.hid (numV_good HI.out ho)
    have HNI := Lib.hid (num_inv HI.out)
    clear ho hx
    obtain ⟨s, hse⟩ : ∃ s, s = x.numV := ⟨_, rfl⟩
    rw [← hse] at HV
    have HSE := Lib.hid hse
    clear hse
    go_enter Tryz.func66, Tryz.ntmps66
    go_wp2_with (first
      | (go_at_call 106; refine (number_any H.out HI.out.wf HI.out.multi).mono ?_; rintro e w1 ⟨rfl, vt1, ve1, g1, g2⟩; rw [← HSE.out]; have hgr := HG.out.kept g2; have HT := Lib.hid hgr.tabs; have HGR := Lib.hid hgr; have G1 := Lib.hid g1; have G2 := Lib.hid g2; clear g1 g2 hgr)
      | (go_at_call 47; refine (ok_any G1.out).mono ?_; rintro e w2 ⟨he, rfl⟩; rw [HO.out] at he; subst he)
      | (go_at_call 115; refine (parseUint64_any _ _ HV.out.2.2 HT.out.c3 HT.out.c4).mono ?_; rintro e w2 ⟨u, er, rfl, hne, hk⟩; have HK := Lib.hid (below_of_kept hk); have HNE := Lib.hid hne; clear hk hne; rcases HNE.out with rfl | ⟨N, g, fn, ev, rfl, hN, hh, hf, hg, hc⟩))
    · go_ret
      exact ⟨x.num, _, HNI.out, fun hx => (HX.out hx).elim, rfl, vt1, ve1, G1.out.belowNew HK.out, G2.out.trans (kept_below HK.out b)⟩
    · have hmN := HM.out N
      have HH := Lib.hid hh
      have HC := Lib.hid hc
      have HT2 := Lib.hid (HT.out.below HK.out)
      have G3 := Lib.hid (G1.out.belowNew HK.out)
      have c1 := G3.out.c1
      clear hh hc
      go_region_with (first
        | (go_at_call 279; refine (numErrText_any (HT2.out.below (below_drewN _ _)) HH.out hf HV.out.2.2 hg HC.out).mono ?_; rintro e w3 ⟨⟨t, rfl⟩, hb3⟩; have HB3 := Lib.hid hb3; have G4 := Lib.hid ((G3.out.drewN _).belowNew hb3); have d1 := G4.out.c1; clear hb3)
        | (go_at_call 108; refine (addNonfatal_one (G4.out.alloc _) HNI.out.multi _).mono ?_; rintro e w4 ⟨rfl, rfl⟩))
      all_goals
        go_wp2
        go_ret
        refine ⟨{ x.num with err := .lex x.num.start }, _, HNI.out.err rfl, fun hx => (HX.out hx).elim, rfl, vt1, _, G4.out.newErr t s x.num.start 0, ?_⟩
        exact ((((G2.out.trans (kept_below HK.out b)).drewN _).trans (kept_below HB3.out b)).alloc _).setCell _ _

set_option maxHeartbeats 4000000 in
set_option maxRecDepth 100000 in
theorem int8_some (h : LexAt w b ae ao x vd vt ve vm) (hI : x.Inv) (hG : Gr b w) : Calls Tryz.prog 68 #[.pointer (some ⟨b, 0, none⟩)] w (NopPost (fun n => .int .i8 n) w b ae ao x vd vm) := by
  have H := Lib.hid h
  have HI := Lib.hid hI
  have HG := Lib.hid hG
  have hm (N : Nat) : ∀ W, (method 390 171 (.pointer (some ⟨N, 0, none⟩)) "Error").run Tryz.prog W = .ok (279, .pointer (some ⟨N, 0, none⟩)) W := fun W => by show _ = _; kernel_rfl
  have HM := Lib.hid hm
  clear h hI hG hm
  cases ho : x.num.ok with
  | false =>
    have HO := Lib.hid ho
    go_enter Tryz.func68, Tryz.ntmps68
    go_wp2_with (first
      | (go_at_call 106; refine (number_any H.out HI.out.wf HI.out.multi).mono ?_; rintro e w1 ⟨rfl, vt1, ve1, g1, g2⟩; have G1 := Lib.hid g1; have G2 := Lib.hid g2; clear g1 g2)
      | (go_at_call 47; refine (ok_any G1.out).mono ?_; rintro e w2 ⟨he, rfl⟩; rw [HO.out] at he; subst he))
    go_ret
    exact ⟨x.num, 0, num_inv HI.out, fun hx => ⟨by rw [num_shut hx], rfl⟩, rfl, vt1, ve1, G1.out, G2.out⟩
  | true =>
    have HO := Lib.hid ho
    have hx : x.ok = false → False := fun hx => by rw [num_shut hx, hx] at ho; cases ho
    have HX := Lib.hid hx
    have HV := Lib.hid (numV_good HI.out ho)
    have HNI := Lib.hid (num_inv HI.out)
    clear ho hx
    obtain ⟨s, hse⟩ : ∃ s, s = x.numV := ⟨_, rfl⟩
    rw [← hse] at HV
    have HSE := Lib.hid hse
    clear hse
    go_enter Tryz.func68, Tryz.ntmps68
    go_wp2_with (first
      | (go_at_call 106; refine (number_any H.out HI.out.wf HI.out.multi).mono ?_; rintro e w1 ⟨rfl, vt1, ve1, g1, g2⟩; rw [← HSE.out]; have hgr := HG.out.kept g2; have HT := Lib.hid hgr.tabs; have HGR := Lib.hid hgr; have G1 := Lib.hid g1; have G2 := Lib.hid g2; clear g1 g2 hgr)
      | (go_at_call 47; refine (ok_any G1.out).mono ?_; rintro e w2 ⟨he, rfl⟩; rw [HO.out] at he; subst he)
      | (go_at_call 116; refine (parseInt8_any _ _ HV.out.2.2 HT.out.c3 HT.out.c4).mono ?_; rintro e w2 ⟨u, er, rfl, hne, hk⟩; have HK := Lib.hid (below_of_kept hk); have HNE := Lib.hid hne; clear hk hne; rcases HNE.out with rfl | ⟨N, g, fn, ev, rfl, hN, hh, hf, hg, hc⟩))
    · go_ret
      exact ⟨x.num, _, HNI.out, fun hx => (HX.out hx).elim, rfl, vt1, ve1, G1.out.belowNew HK.out, G2.out.trans (kept_below HK.out b)⟩
    · have hmN := HM.out N
      have HH := Lib.hid hh
      have HC := Lib.hid hc
      have HT2 := Lib.hid (HT.out.below HK.out)
      have G3 := Lib.hid (G1.out.belowNew HK.out)
      have c1 := G3.out.c1
      clear hh hc
      go_region_with (first
        | (go_at_call 279; refine (numErrText_any (HT2.out.below (below_drewN _ _)) HH.out hf HV.out.2.2 hg HC.out).mono ?_; rintro e w3 ⟨⟨t, rfl⟩, hb3⟩; have HB3 := Lib.hid hb3; have G4 := Lib.hid ((G3.out.drewN _).belowNew hb3); have d1 := G4.out.c1; clear hb3)
        | (go_at_call 108; refine (addNonfatal_one (G4.out.alloc _) HNI.out.multi _).mono ?_; rintro e w4 ⟨rfl, rfl⟩))
      all_goals
        go_wp2
        go_ret
        refine ⟨{ x.num with err := .lex x.num.start }, _, HNI.out.err rfl, fun hx => (HX.out hx).elim, rfl, vt1, _, G4.out.newErr t s x.num.start 0, ?_⟩
        exact ((((G2.out.trans (kept_below HK.out b)).drewN _).trans (kept_below HB3.out b)).alloc _).setCell _ _

set_option maxHeartbeats 4000000 in
set_option maxRecDepth 100000 in
theorem int16_some (h : LexAt w b ae ao x vd vt ve vm) (hI : x.Inv) (hG : Gr b w) : Calls Tryz.prog 69 #[.pointer (some ⟨b, 0, none⟩)] w (NopPost (fun n => .int .i16 n) w b ae ao x vd vm) := by
  have H := Lib.hid h
  have HI := Lib.hid hI
  have HG := Lib.hid hG
  have hm (N : Nat) : ∀ W, (method 390 171 (.pointer (some ⟨N, 0, none⟩)) "Error").run Tryz.prog W = .ok (279, .pointer (some ⟨N, 0, none⟩)) W := fun W => by show _ = _; kernel_rfl
  have HM := Lib.hid hm
  clear h hI hG hm
  cases ho : x.num.ok with
  | false =>
    have HO := Lib.hid ho
    go_enter Tryz.func69, Tryz.ntmps69
    go_wp2_with (first
      | (go_at_call 106; refine (number_any H.out HI.out.wf HI.out.multi).mono ?_; rintro e w1 ⟨rfl, vt1, ve1, g1, g2⟩; have G1 := Lib.hid g1; have G2 := Lib.hid g2; clear g1 g2)
      | (go_at_call 47; refine (ok_any G1.out).mono ?_; rintro e w2 ⟨he, rfl⟩; rw [HO.out] at he; subst he))
    go_ret
    exact ⟨x.num, 0, num_inv HI.out, fun hx => ⟨by rw [num_shut hx], rfl⟩, rfl, vt1, ve1, G1.out, G2.out⟩
  | true =>
    have HO := Lib.hid ho
    have hx : x.ok = false → False := fun hx => by rw [num_shut hx, hx] at ho; cases ho
    have HX := Lib.hid hx
    have HV := Lib.hid (numV_good HI.out ho)
    have HNI := Lib.hid (num_inv HI.out)
    clear ho hx
    obtain ⟨s, hse⟩ : ∃ s, s = x.numV := ⟨_, rfl⟩
    rw [← hse] at HV
    have HSE := Lib.hid hse
    clear hse
    go_enter Tryz.func69, Tryz.ntmps69
    go_wp2_with (first
      | (go_at_call 106; refine (number_any H.out HI.out.wf HI.out.multi).mono ?_; rintro e w1 ⟨rfl, vt1, ve1, g1, g2⟩; rw [← HSE.out]; have hgr := HG.out.kept g2; have HT := Lib.hid hgr.tabs; have HGR := Lib.hid hgr; have G1 := Lib.hid g1; have G2 := Lib.hid g2; clear g1 g2 hgr)
      | (go_at_call 47; refine (ok_any G1.out).mono ?_; rintro e w2 ⟨he, rfl⟩; rw [HO.out] at he; subst he)
      | (go_at_call 116; refine (parseInt16_any _ _ HV.out.2.2 HT.out.c3 HT.out.c4).mono ?_; rintro e w2 ⟨u, er, rfl, hne, hk⟩; have HK := Lib.hid (below_of_kept hk); have HNE := Lib.hid hne; clear hk hne; rcases HNE.out with rfl | ⟨N, g, fn, ev, rfl, hN, hh, hf, hg, hc⟩))
    · go_ret
      exact ⟨x.num, _, HNI.out, fun hx => (HX.out hx).elim, rfl, vt1, ve1, G1.out.belowNew HK.out, G2.out.trans (kept_below HK.out b)⟩
    · have hmN := HM.out N
      have HH := Lib.hid hh
      have HC := Lib.hid hc
      have HT2 := Lib.hid (HT.out.below HK.out)
      have G3 := Lib.hid (G1.out.belowNew HK.out)
      have c1 := G3.out.c1
      clear hh hc
      go_region_with (first
        | (go_at_call 279; refine (numErrText_any (HT2.out.below (below_drewN _ _)) HH.out hf HV.out.2.2 hg HC.out).mono ?_; rintro e w3 ⟨⟨t, rfl⟩, hb3⟩; have HB3 := Lib.hid hb3; have G4 := Lib.hid ((G3.out.drewN _).belowNew hb3); have d1 := G4.out.c1; clear hb3)
        | (go_at_call 108; refine (addNonfatal_one (G4.out.alloc _) HNI.out.multi _).mono ?_; rintro e w4 ⟨rfl, rfl⟩))
      all_goals
        go_wp2
        go_ret
        refine ⟨{ x.num with err := .lex x.num.start }, _, HNI.out.err rfl, fun hx => (HX.out hx).elim, rfl, vt1, _, G4.out.newErr t s x.num.start 0, ?_⟩
        exact ((((G2.out.trans (kept_below HK.out b)).drewN _).trans (kept_below HB3.out b)).alloc _).setCell _ _

set_option maxHeartbeats 4000000 in
set_option maxRecDepth 100000 in
theorem int32_some (h : LexAt w b ae ao x vd vt ve vm) (hI : x.Inv) (hG : Gr b w) : Calls Tryz.prog 70 #[.pointer (some ⟨b, 0, none⟩)] w (NopPost (fun n => .int .i32 n) w b ae ao x vd vm) := by
  have H := Lib.hid h
  have HI := Lib.hid hI
  have HG := Lib.hid hG
  have hm (N : Nat) : ∀ W, (method 390 171 (.pointer (some ⟨N, 0, none⟩)) "Error").run Tryz.prog W = .ok (279, .pointer (some ⟨N, 0, none⟩)) W := fun W => by show _ = _; kernel_rfl
  have HM := Lib.hid hm
  clear h hI hG hm
  cases ho : x.num.ok with
  | false =>
    have HO := Lib.hid ho
    go_enter Tryz.func70, Tryz.ntmps70
    go_wp2_with (first
      | (go_at_call 106; refine (number_any H.out HI.out.wf HI.out.multi).mono ?_; rintro e w1 ⟨rfl, vt1, ve1, g1, g2⟩; have G1 := Lib.hid g1; have G2 := Lib.hid g2; clear g1 g2)
      | (go_at_call 47; refine (ok_any G1.out).mono ?_; rintro e w2 ⟨he, rfl⟩; rw [HO.out] at he; subst he))
    go_ret
    exact ⟨x.num, 0, num_inv HI.out, fun hx => ⟨by rw [num_shut hx], rfl⟩, rfl, vt1, ve1, G1.out, G2.out⟩
  | true =>
    have HO := Lib.hid ho
    have hx : x.ok = false → False := fun hx => by rw [num_shut hx, hx] at ho; cases ho
    have HX := Lib.hid hx
    have HV := Lib.hid (numV_good HI.out ho)
    have HNI := Lib.hid (num_inv HI.out)
    clear ho hx
    obtain ⟨s, hse⟩ : ∃ s, s = x.numV := ⟨_, rfl⟩
    rw [← hse] at HV
    have HSE := Lib.hid hse
    clear hse
    go_enter Tryz.func70, Tryz.ntmps70
    go_wp2_with (first
      | (go_at_call 106; refine (number_any H.out HI.out.wf HI.out.multi).mono ?_; rintro e w1 ⟨rfl, vt1, ve1, g1, g2⟩; rw [← HSE.out]; have hgr := HG.out.kept g2; have HT := Lib.hid hgr.tabs; have HGR := Lib.hid hgr; have G1 := Lib.hid g1; have G2 := Lib.hid g2; clear g1 g2 hgr)
      | (go_at_call 47; refine (ok_any G1.out).mono ?_; rintro e w2 ⟨he, rfl⟩; rw [HO.out] at he; subst he)
      | (go_at_call 116; refine (parseInt32_any _ _ HV.out.2.2 HT.out.c3 HT.out.c4).mono ?_; rintro e w2 ⟨u, er, rfl, hne, hk⟩; have HK := Lib.hid (below_of_kept hk); have HNE := Lib.hid hne; clear hk hne; rcases HNE.out with rfl | ⟨N, g, fn, ev, rfl, hN, hh, hf, hg, hc⟩))
    · go_ret
      exact ⟨x.num, _, HNI.out, fun hx => (HX.out hx).elim, rfl, vt1, ve1, G1.out.belowNew HK.out, G2.out.trans (kept_below HK.out b)⟩
    · have hmN := HM.out N
      have HH := Lib.hid hh
      have HC := Lib.hid hc
      have HT2 := Lib.hid (HT.out.below HK.out)
      have G3 := Lib.hid (G1.out.belowNew HK.out)
      have c1 := G3.out.c1
      clear hh hc
      go_region_with (first
        | (go_at_call 279; refine (numErrText_any (HT2.out.below (below_drewN _ _)) HH.out hf HV.out.2.2 hg HC.out).mono ?_; rintro e w3 ⟨⟨t, rfl⟩, hb3⟩; have HB3 := Lib.hid hb3; have G4 := Lib.hid ((G3.out.drewN _).belowNew hb3); have d1 := G4.out.c1; clear hb3)
        | (go_at_call 108; refine (addNonfatal_one (G4.out.alloc _) HNI.out.multi _).mono ?_; rintro e w4 ⟨rfl, rfl⟩))
      all_goals
        go_wp2
        go_ret
        refine ⟨{ x.num with err := .lex x.num.start }, _, HNI.out.err rfl, fun hx => (HX.out hx).elim, rfl, vt1, _, G4.out.newErr t s x.num.start 0, ?_⟩
        exact ((((G2.out.trans (kept_below HK.out b)).drewN _).trans (kept_below HB3.out b)).alloc _).setCell _ _

set_option maxHeartbeats 4000000 in
set_option maxRecDepth 100000 in
theorem int64_some (h : LexAt w b ae ao x vd vt ve vm) (hI : x.Inv) (hG : Gr b w) : Calls Tryz.prog 71 #[.pointer (some ⟨b, 0, none⟩)] w (NopPost (fun n => .int .i64 n) w b ae ao x vd vm) := by
  have H := Lib.hid h
  have HI := Lib.hid hI
  have HG := Lib.hid hG
  have hm (N : Nat) : ∀ W, (method 390 171 (.pointer (some ⟨N, 0, none⟩)) "Error").run Tryz.prog W = .ok (279, .pointer (some ⟨N, 0, none⟩)) W := fun W => by show _ = _; kernel_rfl
  have HM := Lib.hid hm
  clear h hI hG hm
  cases ho : x.num.ok with
  | false =>
    have HO := Lib.hid ho
    go_enter Tryz.func71, Tryz.ntmps71
    go_wp2_with (first
      | (go_at_call 106; refine (number_any H.out HI.out.wf HI.out.multi).mono ?_; rintro e w1 ⟨rfl, vt1, ve1, g1, g2⟩; have G1 := Lib.hid g1; have G2 := Lib.hid g2; clear g1 g2)
      | (go_at_call 47; refine (ok_any G1.out).mono ?_; rintro e w2 ⟨he, rfl⟩; rw [HO.out] at he; subst he))
    go_ret
    exact ⟨x.num, 0, num_inv HI.out, fun hx => ⟨by rw [num_shut hx], rfl⟩, rfl, vt1, ve1, G1.out, G2.out⟩
  | true =>
    have HO := Lib.hid ho
    have hx : x.ok = false → False := fun hx => by rw [num_shut hx, hx] at ho; cases ho
    have HX := Lib.hid hx
    have HV := Lib.hid (numV_good HI.out ho)
    have HNI := Lib.hid (num_inv HI.out)
    clear ho hx
    obtain ⟨s, hse⟩ : ∃ s, s = x.numV := ⟨_, rfl⟩
    rw [← hse] at HV
    have HSE := Lib.hid hse
    clear hse
    go_enter Tryz.func71, Tryz.ntmps71
    go_wp2_with (first
      | (go_at_call 106; refine (number_any H.out HI.out.wf HI.out.multi).mono ?_; rintro e w1 ⟨rfl, vt1, ve1, g1, g2⟩; rw [← HSE.out]; have hgr := HG.out.kept g2; have HT := Lib.hid hgr.tabs; have HGR := Lib.hid hgr; have G1 := Lib.hid g1; have G2 := Lib.hid g2; clear g1 g2 hgr)
      | (go_at_call 47; refine (ok_any G1.out).mono ?_; rintro e w2 ⟨he, rfl⟩; rw [HO.out] at he; subst he)
      | (go_at_call 116; refine (parseInt64_any _ _ HV.out.2.2 HT.out.c3 HT.out.c4).mono ?_; rintro e w2 ⟨u, er, rfl, hne, hk⟩; have HK := Lib.hid (below_of_kept hk); have HNE := Lib.hid hne; clear hk hne; rcases HNE.out with rfl | ⟨N, g, fn, ev, rfl, hN, hh, hf, hg, hc⟩))
    · go_ret
      exact ⟨x.num, _, HNI.out, fun hx => (HX.out hx).elim, rfl, vt1, ve1, G1.out.belowNew HK.out, G2.out.trans (kept_below HK.out b)⟩
    · have hmN := HM.out N
      have HH := Lib.hid hh
      have HC := Lib.hid hc
      have HT2 := Lib.hid (HT.out.below HK.out)
      have G3 := Lib.hid (G1.out.belowNew HK.out)
      have c1 := G3.out.c1
      clear hh hc
      go_region_with (first
        | (go_at_call 279; refine (numErrText_any (HT2.out.below (below_drewN _ _)) HH.out hf HV.out.2.2 hg HC.out).mono ?_; rintro e w3 ⟨⟨t, rfl⟩, hb3⟩; have HB3 := Lib.hid hb3; have G4 := Lib.hid ((G3.out.drewN _).belowNew hb3); have d1 := G4.out.c1; clear hb3)
        | (go_at_call 108; refine (addNonfatal_one (G4.out.alloc _) HNI.out.multi _).mono ?_; rintro e w4 ⟨rfl, rfl⟩))
      all_goals
        go_wp2
        go_ret
        refine ⟨{ x.num with err := .lex x.num.start }, _, HNI.out.err rfl, fun hx => (HX.out hx).elim, rfl, vt1, _, G4.out.newErr t s x.num.start 0, ?_⟩
        exact ((((G2.out.trans (kept_below HK.out b)).drewN _).trans (kept_below HB3.out b)).alloc _).setCell _ _

set_option maxHeartbeats 1000000 in
theorem uint_some (h : LexAt w b ae ao x vd vt ve vm) (hI : x.Inv) (hG : Gr b w) : Calls Tryz.prog 67 #[.pointer (some ⟨b, 0, none⟩)] w (NopPost (fun n => .int .u64 n) w b ae ao x vd vm) := by
  have HC := Lib.hid (uint64_some h hI hG)
  clear h hI hG
  go_enter Tryz.func67, Tryz.ntmps67
  go_wp2_with (go_at_call 66; refine HC.out.mono ?_; rintro e w1 ⟨x', n, h1, h2, rfl, h3⟩; have HS := Lib.hid h2; have HN := Lib.hid h3; clear h2 h3)
  go_ret
  exact ⟨x', n, h1, HS.out, rfl, HN.out⟩

set_option maxHeartbeats 1000000 in
theorem int_some (h : LexAt w b ae ao x vd vt ve vm) (hI : x.Inv) (hG : Gr b w) : Calls Tryz.prog 72 #[.pointer (some ⟨b, 0, none⟩)] w (NopPost (fun n => .int .i64 n) w b ae ao x vd vm) := by
  have HC := Lib.hid (int64_some h hI hG)
  clear h hI hG
  go_enter Tryz.func72, Tryz.ntmps72
  go_wp2_with (go_at_call 71; refine HC.out.mono ?_; rintro e w1 ⟨x', n, h1, h2, rfl, h3⟩; have HS := Lib.hid h2; have HN := Lib.hid h3; clear h2 h3)
  go_ret
  exact ⟨x', n, h1, HS.out, rfl, HN.out⟩
end
end Go.Proofs.YtaecbclonmhbcaaGreatDoor
