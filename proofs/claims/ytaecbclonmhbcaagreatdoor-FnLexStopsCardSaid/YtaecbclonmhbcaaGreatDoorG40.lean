/- The lexer's calls that read floats, over every state with one error. Printed by gen_nop.py. impl.number: the calls that read numbers, by their numbers. Printed by gen_imn.py. Lexer.Bytes over every state with one error: it returns. What a row of calls tells behind an error. Plain. -/
import Derived.Test.YtaecbclonmhbcaaGreatDoorG37
import Derived.Test.YtaecbclonmhbcaaGreatDoorG39
import Derived.Test.YtaecbclonmhbcaaGreatDoorG28
import Derived.Test.YtaecbclonmhbcaaGreatDoorG25
import Derived.Test.YtaecbclonmhbcaaGreatDoorG33
import Derived.Deep.CutBlock
import Derived.Laws.MakeOwn
import Derived.Laws.OwnMore
import Derived.Test.YtaecbclonmhbcaaGreatDoorG36
set_option linter.unusedVariables false
set_option linter.unusedSimpArgs false
/- The lexer's calls that read floats, over every state with one error. Printed by gen_nop.py. -/
namespace Go.Proofs.YtaecbclonmhbcaaGreatDoor
open Go.RowKit
theorem run_narrow (x : Nat) (W : World) : ∃ r n, (convert 93 113 (.float .f64 x)).run Tryz.prog W = .ok (.float .f32 r) (W.drewN n) := by
  have u1 : Tryz.prog.underlying 113 = some (.float .f32) := by kernel_rfl
  have u2 : Tryz.prog.underlying 93 = some (.float .f64) := by kernel_rfl
  have h : (convert 93 113 (.float .f64 x)).run Tryz.prog W = (Conv.floatToFloat .f64 x .f32).run Tryz.prog W := by
    simp [convert, run_underlying u1, run_underlying u2]
  rw [h]
  unfold Conv.floatToFloat
  rw [if_neg (by decide)]
  split
  · exact ⟨_, 1, by simp [choose, Sem.run, Question.forced]; exact ⟨rfl, rfl⟩⟩
  · exact ⟨_, 0, rfl⟩
  · rename_i s m e hd
    by_cases hi : (FloatKind.f32.decode (FloatKind.f32.encode (.number s m e))).isInfinity = true
    · exact ⟨_, 1, by simp [hi, choose]; first | rfl | exact ⟨rfl, rfl⟩⟩
    · exact ⟨_, 0, by simp [hi]; first | rfl | exact ⟨rfl, rfl⟩⟩
section
variable {w : World} {b : Nat} {ae : Sur} {ao : Addr} {x : Lx} {vd vt ve vm : Value}

set_option maxHeartbeats 4000000 in
set_option maxRecDepth 100000 in
theorem float64_some (h : LexAt w b ae ao x vd vt ve vm) (hI : x.Inv) (hG : Gr b w) : Calls Tryz.prog 52 #[.pointer (some ⟨b, 0, none⟩)] w (NopPost (fun n => .float .f64 n.toNat) w b ae ao x vd vm) := by
  have H := Lib.hid h
  have HI := Lib.hid hI
  have HG := Lib.hid hG
  have hm (N : Nat) : ∀ W, (method 390 171 (.pointer (some ⟨N, 0, none⟩)) "Error").run Tryz.prog W = .ok (279, .pointer (some ⟨N, 0, none⟩)) W := fun W => by show _ = _; kernel_rfl
  have HM := Lib.hid hm
  clear h hI hG hm
  cases ho : x.num.ok with
  | false =>
    have HO := Lib.hid ho
    go_enter Tryz.func52, Tryz.ntmps52
    go_wp2_with (first
      | (go_at_call 106; refine (number_any H.out HI.out.wf HI.out.multi).mono ?_; rintro e w1 ⟨rfl, vt1, ve1, g1, g2⟩; have G1 := Lib.hid g1; have G2 := Lib.hid g2; clear g1 g2)
      | (go_at_call 47; refine (ok_any G1.out).mono ?_; rintro e w2 ⟨he, rfl⟩; rw [HO.out] at he; subst he))
    go_ret
    exact ⟨x.num, 0, num_inv HI.out, fun hx => ⟨by rw [num_shut hx], rfl⟩, rfl, vt1, ve1, G1.out, G2.out⟩
  | true =>
    have HO := Lib.hid ho
    have hx : x.ok = false → False := fun hx => by rw [num_shut hx, hx] at ho; cases ho
    have HX := Lib.hid hx
    have HV := Lib.hid (numV_good HI.out ho)
    have HNI := Lib.hid (num_inv HI.out)
    clear ho hx
    obtain ⟨s, hse⟩ : ∃ s, s = x.numV := ⟨_, rfl⟩
    rw [← hse] at HV
    have HSE := Lib.hid hse
    clear hse
    go_enter Tryz.func52, Tryz.ntmps52
    go_wp2_with (first
      | (go_at_call 106; refine (number_any H.out HI.out.wf HI.out.multi).mono ?_; rintro e w1 ⟨rfl, vt1, ve1, g1, g2⟩; rw [← HSE.out]; have hgr := HG.out.kept g2; have HT := Lib.hid hgr.tabs; have HGR := Lib.hid hgr; have G1 := Lib.hid g1; have G2 := Lib.hid g2; clear g1 g2 hgr)
      | (go_at_call 47; refine (ok_any G1.out).mono ?_; rintro e w2 ⟨he, rfl⟩; rw [HO.out] at he; subst he)
      | (go_at_call 107; refine (parseFloat_any s 64 _ HV.out.2.2 (inner64_any s _ HV.out.2.2 HV.out.2.1 HV.out.1 HT.out.fl) HT.out.c3 HT.out.c4).mono ?_; rintro e w2 ⟨u, er, rfl, hne, hk⟩; have HK := Lib.hid (below_of_kept hk); have HNE := Lib.hid hne; clear hk hne; rcases HNE.out with rfl | ⟨N, g, fn, ev, rfl, hN, hh, hf, hg, hc⟩))
    · go_ret
      exact ⟨x.num, Int.ofNat _, HNI.out, fun hx => (HX.out hx).elim, rfl, vt1, ve1, G1.out.belowNew HK.out, G2.out.trans (kept_below HK.out b)⟩
    · have hmN := HM.out N
      have HH := Lib.hid hh
      have HC := Lib.hid hc
      have HT2 := Lib.hid (HT.out.below HK.out)
      have G3 := Lib.hid (G1.out.belowNew HK.out)
      have c1 := G3.out.c1
      clear hh hc
      go_region_with (first
        | (go_at_call 279; refine (numErrText_any (HT2.out.below (below_drewN _ _)) HH.out hf HV.out.2.2 hg HC.out).mono ?_; rintro e w3 ⟨⟨t, rfl⟩, hb3⟩; have HB3 := Lib.hid hb3; have G4 := Lib.hid ((G3.out.drewN _).belowNew hb3); have d1 := G4.out.c1; clear hb3)
        | (go_at_call 108; refine (addNonfatal_one (G4.out.alloc _) HNI.out.multi _).mono ?_; rintro e w4 ⟨rfl, rfl⟩))
      all_goals
        go_wp2
        go_ret
        refine ⟨{ x.num with err := .lex x.num.start }, Int.ofNat _, HNI.out.err rfl, fun hx => (HX.out hx).elim, rfl, vt1, _, G4.out.newErr t s x.num.start 0, ?_⟩
        exact ((((G2.out.trans (kept_below HK.out b)).drewN _).trans (kept_below HB3.out b)).alloc _).setCell _ _

set_option maxHeartbeats 4000000 in
set_option maxRecDepth 100000 in
theorem float32_some (h : LexAt w b ae ao x vd vt ve vm) (hI : x.Inv) (hG : Gr b w) : Calls Tryz.prog 73 #[.pointer (some ⟨b, 0, none⟩)] w (NopPost (fun n => .float .f32 n.toNat) w b ae ao x vd vm) := by
  have H := Lib.hid h
  have HI := Lib.hid hI
  have HG := Lib.hid hG
  have hm (N : Nat) : ∀ W, (method 390 171 (.pointer (some ⟨N, 0, none⟩)) "Error").run Tryz.prog W = .ok (279, .pointer (some ⟨N, 0, none⟩)) W := fun W => by show _ = _; kernel_rfl
  have HM := Lib.hid hm
  clear h hI hG hm
  cases ho : x.num.ok with
  | false =>
    have HO := Lib.hid ho
    go_enter Tryz.func73, Tryz.ntmps73
    go_wp2_with (first
      | (go_at_call 106; refine (number_any H.out HI.out.wf HI.out.multi).mono ?_; rintro e w1 ⟨rfl, vt1, ve1, g1, g2⟩; have G1 := Lib.hid g1; have G2 := Lib.hid g2; clear g1 g2)
      | (go_at_call 47; refine (ok_any G1.out).mono ?_; rintro e w2 ⟨he, rfl⟩; rw [HO.out] at he; subst he))
    go_ret
    exact ⟨x.num, 0, num_inv HI.out, fun hx => ⟨by rw [num_shut hx], rfl⟩, rfl, vt1, ve1, G1.out, G2.out⟩
  | true =>
    have HO := Lib.hid ho
    have hx : x.ok = false → False := fun hx => by rw [num_shut hx, hx] at ho; cases ho
    have HX := Lib.hid hx
    have HV := Lib.hid (numV_good HI.out ho)
    have HNI := Lib.hid (num_inv HI.out)
    clear ho hx
    obtain ⟨s, hse⟩ : ∃ s, s = x.numV := ⟨_, rfl⟩
    rw [← hse] at HV
    have HSE := Lib.hid hse
    clear hse
    go_enter Tryz.func73, Tryz.ntmps73
    go_wp2_with (first
      | (go_at_call 106; refine (number_any H.out HI.out.wf HI.out.multi).mono ?_; rintro e w1 ⟨rfl, vt1, ve1, g1, g2⟩; rw [← HSE.out]; have hgr := HG.out.kept g2; have HT := Lib.hid hgr.tabs; have HGR := Lib.hid hgr; have G1 := Lib.hid g1; have G2 := Lib.hid g2; clear g1 g2 hgr)
      | (go_at_call 47; refine (ok_any G1.out).mono ?_; rintro e w2 ⟨he, rfl⟩; rw [HO.out] at he; subst he)
      | (go_at_call 107; refine (parseFloat_any s 32 _ HV.out.2.2 (inner32_any s _ HV.out.2.2 HV.out.2.1 HV.out.1 HT.out.fl) HT.out.c3 HT.out.c4).mono ?_; rintro e w2 ⟨u, er, rfl, hne, hk⟩; have HK := Lib.hid (below_of_kept hk); have HNE := Lib.hid hne; clear hk hne; obtain ⟨r, q, hcv⟩ := run_narrow u w2; rcases HNE.out with rfl | ⟨N, g, fn, ev, rfl, hN, hh, hf, hg, hc⟩))
    · go_ret
      exact ⟨x.num, Int.ofNat _, HNI.out, fun hx => (HX.out hx).elim, rfl, vt1, ve1, (G1.out.belowNew HK.out).drewN _, (G2.out.trans (kept_below HK.out b)).drewN _⟩
    · have hmN := HM.out N
      have HH := Lib.hid hh
      have HC := Lib.hid hc
      have HT2 := Lib.hid (HT.out.below HK.out)
      have G3 := Lib.hid (G1.out.belowNew HK.out)
      have c1 := G3.out.c1
      clear hh hc hcv
      go_region_with (first
        | (go_at_call 279; refine (numErrText_any (HT2.out.below (below_drewN _ _)) HH.out hf HV.out.2.2 hg HC.out).mono ?_; rintro e w3 ⟨⟨t, rfl⟩, hb3⟩; have HB3 := Lib.hid hb3; have G4 := Lib.hid ((G3.out.drewN _).belowNew hb3); have d1 := G4.out.c1; clear hb3)
        | (go_at_call 108; refine (addNonfatal_one (G4.out.alloc _) HNI.out.multi _).mono ?_; rintro e w4 ⟨rfl, rfl⟩))
      all_goals
        obtain ⟨r1, q1, hcv⟩ := run_narrow u ((w3.alloc (.cells #[.string t, .int .i64 x.num.start, .string s] 66)).setCell ⟨b, 11, none⟩ (.iface 60 (.pointer (some ⟨w3.heap.size, 0, none⟩))))
        go_wp2
        go_ret
        refine ⟨{ x.num with err := .lex x.num.start }, Int.ofNat _, HNI.out.err rfl, fun hx => (HX.out hx).elim, rfl, vt1, _, (G4.out.newErr t s x.num.start 0).drewN _, ?_⟩
        exact (((((G2.out.trans (kept_below HK.out b)).drewN _).trans (kept_below HB3.out b)).alloc _).setCell _ _).drewN _
end
end Go.Proofs.YtaecbclonmhbcaaGreatDoor

/- impl.number: the calls that read numbers, by their numbers. Printed by gen_imn.py. -/
namespace Go.Proofs.YtaecbclonmhbcaaGreatDoor
open Go.RowKit

theorem wrap64_zero : wrap64 0 = 0 := by unfold wrap64; omega
theorem tobits_run (x : Nat) (w : World) : (callFunc 105 #[.float .f64 x]).run Tryz.prog w = .ok (.value (.int .u64 x)) w := by
  rw [run_callFunc_extern Tryz.func105 (by kernel_rfl) (by kernel_rfl) (by kernel_rfl) (e := Extern.MathFloatBits.float64bits) (by kernel_rfl)]
  rfl
set_option maxHeartbeats 1000000 in
theorem bits_any (x : Nat) (w : World) : Calls Tryz.prog 51 #[.float .f64 x] w fun e w' => e = .returned (.int .i64 (wrap64 x)) ∧ w = w' := by
  have hb := tobits_run x
  go_enter Tryz.func51, Tryz.ntmps51
  go_wp2
  go_ret
  exact ⟨rfl, rfl⟩
theorem widen_zero (W : World) : (convert 113 93 (.float .f32 0)).run Tryz.prog W = .ok (.float .f64 0) W := by show _ = _; kernel_rfl

theorem NumDone.drewN {w w' : World} {b : Nat} {ae : Sur} {ao : Addr} {x : Lx} {vd vm : Value} (h : NumDone w b ae ao x vd vm w') (n : Nat) : NumDone w b ae ao x vd vm (w'.drewN n) := by
  obtain ⟨vt, ve, h1, h2⟩ := h
  exact ⟨vt, ve, h1.drewN n, h2.drewN n⟩

section
variable {w : World} {b : Nat} {ae : Sur} {ao : Addr} {x : Lx} {vd vt ve vm : Value}

set_option maxHeartbeats 2000000 in
set_option maxRecDepth 100000 in
theorem number_16_some (h : LexAt w b ae ao x vd vt ve vm) (hI : x.Inv) (hG : Gr b w) : Calls Tryz.prog 38 #[.pointer (some ⟨b, 0, none⟩), .int .i64 16] w (NopPost (fun n => .int .i64 n) w b ae ao x vd vm) := by
  have HC := Lib.hid (uint8_some h hI hG)
  clear h hI hG
  go_enter Tryz.func38, Tryz.ntmps38
  go_wp2_with (go_at_call 63; refine HC.out.mono ?_; rintro e w1 ⟨x', n, h1, h2, rfl, h3⟩; have HS := Lib.hid h2; have HN := Lib.hid h3; clear h2 h3)
  go_ret
  exact ⟨x', _, h1, fun hx => ⟨(HS.out hx).1, by rw [(HS.out hx).2]; try exact wrap64_zero⟩, rfl, HN.out⟩

set_option maxHeartbeats 2000000 in
set_option maxRecDepth 100000 in
theorem number_17_some (h : LexAt w b ae ao x vd vt ve vm) (hI : x.Inv) (hG : Gr b w) : Calls Tryz.prog 38 #[.pointer (some ⟨b, 0, none⟩), .int .i64 17] w (NopPost (fun n => .int .i64 n) w b ae ao x vd vm) := by
  have HC := Lib.hid (uint16_some h hI hG)
  clear h hI hG
  go_enter Tryz.func38, Tryz.ntmps38
  go_wp2_with (go_at_call 64; refine HC.out.mono ?_; rintro e w1 ⟨x', n, h1, h2, rfl, h3⟩; have HS := Lib.hid h2; have HN := Lib.hid h3; clear h2 h3)
  go_ret
  exact ⟨x', _, h1, fun hx => ⟨(HS.out hx).1, by rw [(HS.out hx).2]; try exact wrap64_zero⟩, rfl, HN.out⟩

set_option maxHeartbeats 2000000 in
set_option maxRecDepth 100000 in
theorem number_18_some (h : LexAt w b ae ao x vd vt ve vm) (hI : x.Inv) (hG : Gr b w) : Calls Tryz.prog 38 #[.pointer (some ⟨b, 0, none⟩), .int .i64 18] w (NopPost (fun n => .int .i64 n) w b ae ao x vd vm) := by
  have HC := Lib.hid (uint32_some h hI hG)
  clear h hI hG
  go_enter Tryz.func38, Tryz.ntmps38
  go_wp2_with (go_at_call 65; refine HC.out.mono ?_; rintro e w1 ⟨x', n, h1, h2, rfl, h3⟩; have HS := Lib.hid h2; have HN := Lib.hid h3; clear h2 h3)
  go_ret
  exact ⟨x', _, h1, fun hx => ⟨(HS.out hx).1, by rw [(HS.out hx).2]; try exact wrap64_zero⟩, rfl, HN.out⟩

set_option maxHeartbeats 2000000 in
set_option maxRecDepth 100000 in
theorem number_19_some (h : LexAt w b ae ao x vd vt ve vm) (hI : x.Inv) (hG : Gr b w) : Calls Tryz.prog 38 #[.pointer (some ⟨b, 0, none⟩), .int .i64 19] w (NopPost (fun n => .int .i64 n) w b ae ao x vd vm) := by
  have HC := Lib.hid (uint64_some h hI hG)
  clear h hI hG
  go_enter Tryz.func38, Tryz.ntmps38
  go_wp2_with (go_at_call 66; refine HC.out.mono ?_; rintro e w1 ⟨x', n, h1, h2, rfl, h3⟩; have HS := Lib.hid h2; have HN := Lib.hid h3; clear h2 h3)
  go_ret
  exact ⟨x', _, h1, fun hx => ⟨(HS.out hx).1, by rw [(HS.out hx).2]; try exact wrap64_zero⟩, rfl, HN.out⟩

set_option maxHeartbeats 2000000 in
set_option maxRecDepth 100000 in
theorem number_20_some (h : LexAt w b ae ao x vd vt ve vm) (hI : x.Inv) (hG : Gr b w) : Calls Tryz.prog 38 #[.pointer (some ⟨b, 0, none⟩), .int .i64 20] w (NopPost (fun n => .int .i64 n) w b ae ao x vd vm) := by
  have HC := Lib.hid (uint_some h hI hG)
  clear h hI hG
  go_enter Tryz.func38, Tryz.ntmps38
  go_wp2_with (go_at_call 67; refine HC.out.mono ?_; rintro e w1 ⟨x', n, h1, h2, rfl, h3⟩; have HS := Lib.hid h2; have HN := Lib.hid h3; clear h2 h3)
  go_ret
  exact ⟨x', _, h1, fun hx => ⟨(HS.out hx).1, by rw [(HS.out hx).2]; try exact wrap64_zero⟩, rfl, HN.out⟩

set_option maxHeartbeats 2000000 in
set_option maxRecDepth 100000 in
theorem number_21_some (h : LexAt w b ae ao x vd vt ve vm) (hI : x.Inv) (hG : Gr b w) : Calls Tryz.prog 38 #[.pointer (some ⟨b, 0, none⟩), .int .i64 21] w (NopPost (fun n => .int .i64 n) w b ae ao x vd vm) := by
  have HC := Lib.hid (int8_some h hI hG)
  clear h hI hG
  go_enter Tryz.func38, Tryz.ntmps38
  go_wp2_with (go_at_call 68; refine HC.out.mono ?_; rintro e w1 ⟨x', n, h1, h2, rfl, h3⟩; have HS := Lib.hid h2; have HN := Lib.hid h3; clear h2 h3)
  go_ret
  exact ⟨x', _, h1, fun hx => ⟨(HS.out hx).1, by rw [(HS.out hx).2]; try exact wrap64_zero⟩, rfl, HN.out⟩

set_option maxHeartbeats 2000000 in
set_option maxRecDepth 100000 in
theorem number_22_some (h : LexAt w b ae ao x vd vt ve vm) (hI : x.Inv) (hG : Gr b w) : Calls Tryz.prog 38 #[.pointer (some ⟨b, 0, none⟩), .int .i64 22] w (NopPost (fun n => .int .i64 n) w b ae ao x vd vm) := by
  have HC := Lib.hid (int16_some h hI hG)
  clear h hI hG
  go_enter Tryz.func38, Tryz.ntmps38
  go_wp2_with (go_at_call 69; refine HC.out.mono ?_; rintro e w1 ⟨x', n, h1, h2, rfl, h3⟩; have HS := Lib.hid h2; have HN := Lib.hid h3; clear h2 h3)
  go_ret
  exact ⟨x', _, h1, fun hx => ⟨(HS.out hx).1, by rw [(HS.out hx).2]; try exact wrap64_zero⟩, rfl, HN.out⟩

set_option maxHeartbeats 2000000 in
set_option maxRecDepth 100000 in
theorem number_23_some (h : LexAt w b ae ao x vd vt ve vm) (hI : x.Inv) (hG : Gr b w) : Calls Tryz.prog 38 #[.pointer (some ⟨b, 0, none⟩), .int .i64 23] w (NopPost (fun n => .int .i64 n) w b ae ao x vd vm) := by
  have HC := Lib.hid (int32_some h hI hG)
  clear h hI hG
  go_enter Tryz.func38, Tryz.ntmps38
  go_wp2_with (go_at_call 70; refine HC.out.mono ?_; rintro e w1 ⟨x', n, h1, h2, rfl, h3⟩; have HS := Lib.hid h2; have HN := Lib.hid h3; clear h2 h3)
  go_ret
  exact ⟨x', _, h1, fun hx => ⟨(HS.out hx).1, by rw [(HS.out hx).2]; try exact wrap64_zero⟩, rfl, HN.out⟩

set_option maxHeartbeats 2000000 in
set_option maxRecDepth 100000 in
theorem number_24_some (h : LexAt w b ae ao x vd vt ve vm) (hI : x.Inv) (hG : Gr b w) : Calls Tryz.prog 38 #[.pointer (some ⟨b, 0, none⟩), .int .i64 24] w (NopPost (fun n => .int .i64 n) w b ae ao x vd vm) := by
  have HC := Lib.hid (int64_some h hI hG)
  clear h hI hG
  go_enter Tryz.func38, Tryz.ntmps38
  go_wp2_with (go_at_call 71; refine HC.out.mono ?_; rintro e w1 ⟨x', n, h1, h2, rfl, h3⟩; have HS := Lib.hid h2; have HN := Lib.hid h3; clear h2 h3)
  go_ret
  exact ⟨x', _, h1, fun hx => ⟨(HS.out hx).1, by rw [(HS.out hx).2]; try exact wrap64_zero⟩, rfl, HN.out⟩

set_option maxHeartbeats 2000000 in
set_option maxRecDepth 100000 in
theorem number_25_some (h : LexAt w b ae ao x vd vt ve vm) (hI : x.Inv) (hG : Gr b w) : Calls Tryz.prog 38 #[.pointer (some ⟨b, 0, none⟩), .int .i64 25] w (NopPost (fun n => .int .i64 n) w b ae ao x vd vm) := by
  have HC := Lib.hid (int_some h hI hG)
  clear h hI hG
  go_enter Tryz.func38, Tryz.ntmps38
  go_wp2_with (go_at_call 72; refine HC.out.mono ?_; rintro e w1 ⟨x', n, h1, h2, rfl, h3⟩; have HS := Lib.hid h2; have HN := Lib.hid h3; clear h2 h3)
  go_ret
  exact ⟨x', _, h1, fun hx => ⟨(HS.out hx).1, by rw [(HS.out hx).2]; try exact wrap64_zero⟩, rfl, HN.out⟩

set_option maxHeartbeats 2000000 in
set_option maxRecDepth 100000 in
theorem number_26_some (h : LexAt w b ae ao x vd vt ve vm) (hI : x.Inv) (hG : Gr b w) : Calls Tryz.prog 38 #[.pointer (some ⟨b, 0, none⟩), .int .i64 26] w (NopPost (fun n => .int .i64 n) w b ae ao x vd vm) := by
  have HC := Lib.hid (float32_some h hI hG)
  clear h hI hG
  cases hx : x.ok with
  | false =>
    have HX := Lib.hid hx
    have hz := widen_zero
    clear hx
    go_enter Tryz.func38, Tryz.ntmps38
    go_wp2_with (first
      | (go_at_call 73; refine HC.out.mono ?_; rintro e w1 ⟨x', n, h1, h2, rfl, h3⟩; obtain ⟨he2, hn2⟩ := h2 HX.out; subst hn2; have HS := Lib.hid he2; have HN := Lib.hid h3; clear h2 he2 h3)
      | (go_at_call 51; refine (bits_any 0 _).mono ?_; rintro e w2 ⟨rfl, rfl⟩))
    go_ret
    exact ⟨x', _, h1, fun _ => ⟨HS.out, wrap64_zero⟩, rfl, HN.out⟩
  | true =>
    have HX : RowKit.Hid (x.ok = false → False) := fun e => by rw [hx] at e; cases e
    clear hx
    go_enter Tryz.func38, Tryz.ntmps38
    go_wp2_with (first
      | (go_at_call 73; refine HC.out.mono ?_; rintro e w1 ⟨x', n, h1, -, rfl, h3⟩; have HN := Lib.hid h3; clear h3; obtain ⟨r, q, hcv⟩ := run_widen n.toNat w1)
      | (go_at_call 51; refine (bits_any _ _).mono ?_; rintro e w2 ⟨rfl, rfl⟩))
    go_ret
    exact ⟨x', _, h1, fun hx => (HX.out hx).elim, rfl, HN.out.drewN _⟩

set_option maxHeartbeats 2000000 in
set_option maxRecDepth 100000 in
theorem number_27_some (h : LexAt w b ae ao x vd vt ve vm) (hI : x.Inv) (hG : Gr b w) : Calls Tryz.prog 38 #[.pointer (some ⟨b, 0, none⟩), .int .i64 27] w (NopPost (fun n => .int .i64 n) w b ae ao x vd vm) := by
  have HC := Lib.hid (float64_some h hI hG)
  clear h hI hG
  cases hx : x.ok with
  | false =>
    have HX := Lib.hid hx
    clear hx
    go_enter Tryz.func38, Tryz.ntmps38
    go_wp2_with (first
      | (go_at_call 52; refine HC.out.mono ?_; rintro e w1 ⟨x', n, h1, h2, rfl, h3⟩; obtain ⟨he2, hn2⟩ := h2 HX.out; subst hn2; have HS := Lib.hid he2; have HN := Lib.hid h3; clear h2 he2 h3)
      | (go_at_call 51; refine (bits_any 0 _).mono ?_; rintro e w2 ⟨rfl, rfl⟩))
    go_ret
    exact ⟨x', _, h1, fun _ => ⟨HS.out, wrap64_zero⟩, rfl, HN.out⟩
  | true =>
    have HX : RowKit.Hid (x.ok = false → False) := fun e => by rw [hx] at e; cases e
    clear hx
    go_enter Tryz.func38, Tryz.ntmps38
    go_wp2_with (first
      | (go_at_call 52; refine HC.out.mono ?_; rintro e w1 ⟨x', n, h1, -, rfl, h3⟩; have HN := Lib.hid h3; clear h3)
      | (go_at_call 51; refine (bits_any _ _).mono ?_; rintro e w2 ⟨rfl, rfl⟩))
    go_ret
    exact ⟨x', _, h1, fun hx => (HX.out hx).elim, rfl, HN.out⟩

theorem number_some (h : LexAt w b ae ao x vd vt ve vm) (hI : x.Inv) (hG : Gr b w) (op : Int) (h0 : 16 ≤ op) (h1 : op ≤ 27) :
    Calls Tryz.prog 38 #[.pointer (some ⟨b, 0, none⟩), .int .i64 op] w (NopPost (fun n => .int .i64 n) w b ae ao x vd vm) := by
  have : op = 16 ∨ op = 17 ∨ op = 18 ∨ op = 19 ∨ op = 20 ∨ op = 21 ∨ op = 22 ∨ op = 23 ∨ op = 24 ∨ op = 25 ∨ op = 26 ∨ op = 27 := by omega
  rcases this with rfl | rfl | rfl | rfl | rfl | rfl | rfl | rfl | rfl | rfl | rfl | rfl
  · exact number_16_some h hI hG
  · exact number_17_some h hI hG
  · exact number_18_some h hI hG
  · exact number_19_some h hI hG
  · exact number_20_some h hI hG
  · exact number_21_some h hI hG
  · exact number_22_some h hI hG
  · exact number_23_some h hI hG
  · exact number_24_some h hI hG
  · exact number_25_some h hI hG
  · exact number_26_some h hI hG
  · exact number_27_some h hI hG
end
end Go.Proofs.YtaecbclonmhbcaaGreatDoor

/- Lexer.Bytes over every state with one error: it returns. -/
namespace Go.Proofs.YtaecbclonmhbcaaGreatDoor
open Go.RowKit

/-- What Bytes may do. -/
def BytesPost (w : World) (b : Nat) (ae : Sur) (ao : Addr) (x : Lx) (vd vm : Value) (e : Ending) (w' : World) : Prop :=
  ∃ (x' : Lx) (v : Value) (l : List Int), x'.Inv ∧ (x.ok = false → x'.err = x.err ∧ l = []) ∧ e = .returned v ∧ l.length ≤ 200000 ∧ BytesAt w' (ae.off b) v l ∧ NumDone w b ae ao x' vd vm w'

theorem mk_room (n : Nat) (hn : n ≤ 100000) (W : World) : (Instr.makeSlice 22 (.int .i64 n) (.int .i64 n)).run Tryz.prog W = .ok (.slice (some ⟨W.heap.size, 0, none⟩) n n) (W.alloc (.cells (madeCells #[.int .u8 0] n) 5)) := by
  obtain ⟨i, hi, hzz⟩ := Option.map_eq_some_iff.1 info5
  simp only [Prod.mk.injEq] at hzz
  obtain ⟨hz, hsz, hby⟩ := hzz
  have := run_make (P := Tryz.prog) W 22 5 i (.int .u8 0) Tryz.underlying22 hi hz .i64 .i64 n n (by omega) (Int.le_refl _) (by rw [hby]; omega) (by omega)
  rw [this, hsz]
  simp [Value.cells]
theorem room_dst (n : Nat) (W : World) : DstAt (W.alloc (.cells (madeCells #[.int .u8 0] n) 5)) W.heap.size n := by
  have h := heap_alloc_new W (.cells (madeCells #[.int .u8 0] n) 5)
  refine ⟨fun i hi => ⟨0, cell_of_heap h i ?_⟩, fun i => free_of_heap h i⟩
  rw [← Array.getElem?_toList, toList_madeCells_one, List.getElem?_replicate, if_pos hi]

theorem DstAt.keep {w w' : World} {d D : Nat} (h : DstAt w d D) (hk : w'.heap[d]? = w.heap[d]?) : DstAt w' d D :=
  ⟨fun i hi => by obtain ⟨v, hv⟩ := h.cell i hi; exact ⟨v, by simp only [World.cell?, hk] at hv ⊢; exact hv⟩, fun i => by have h2 := h.free i; simp only [World.frozen?, hk] at h2 ⊢; exact h2⟩

set_option maxHeartbeats 1000000 in
set_option maxRecDepth 100000 in
theorem decode64_nil (e : Nat) (pd p : Option Addr) (D cc c : Nat) (w : World) : Calls Tryz.prog 114 #[.pointer (some ⟨e, 0, none⟩), .slice pd D cc, .slice p 0 c] w fun e' w' => e' = .returned (.tuple #[.int .i64 0, .nilIface]) ∧ w = w' := by
  go_enter Tryz.func114, Tryz.ntmps114
  go_wp2
  exact bodyPost_ret (results_tmp2 rfl _ _ _) rfl ⟨rfl, rfl⟩
theorem decode_tok {u w : World} {A : Nat → Prop} {v : Value} {l : List Int} (hv : BytesAt u A v l) (hb : Below u.heap.size u w) (hl : LB l) (hlen : l.length ≤ 100000) {e d D : Nat} (hD : D = l.length / 4 * 3) (he : EncAt w e) (hd : DstAt w d D) (h1 : u.heap.size ≤ d) (h2 : d < w.heap.size) (h3 : d ≠ e) :
    Calls Tryz.prog 114 #[.pointer (some ⟨e, 0, none⟩), .slice (some ⟨d, 0, none⟩) D D, v] w (DecPost d D w) := by
  have nil_case : ∀ (p : Option Addr) (c : Nat), Calls Tryz.prog 114 #[.pointer (some ⟨e, 0, none⟩), .slice (some ⟨d, 0, none⟩) D D, .slice p 0 c] w (DecPost d D w) := fun p c =>
    (decode64_nil e _ p D D c w).mono fun e' w' ⟨h, k⟩ => ⟨0, _, h, .inl ⟨rfl, Nat.zero_le _⟩, k ▸ hd, k ▸ Kept.refl d w⟩
  rcases hv with ⟨rfl, rfl⟩ | ⟨sb, so, sc, rfl, hc, hn, hx⟩
  · exact nil_case _ _
  by_cases h0 : l.length = 0
  · rw [h0]; exact nil_case _ _
  have hm : (l.map Int.toNat).length = l.length := by simp
  have key := decode64_any (w := w) (e := e) (d := d) (sb := sb) (so := so) (sc := sc) (src := l.map Int.toNat) (some ⟨d, 0, none⟩) he (by rw [hm, ← hD]; exact hd) h2 (fun i hi => by
      have hi' : i < l.length := by rw [hm] at hi; exact hi
      have hr := hl _ (List.getElem_mem hi')
      have hxi := hx i hi'
      rw [List.getElem_map]
      refine ⟨by omega, ?_⟩
      rw [hb.cell (p := ⟨sb, so + i, none⟩) hn.2, hxi]
      simp only [List.getD, List.getElem?_eq_getElem hi', Option.getD_some]
      rw [show ((l[i].toNat : Nat) : Int) = l[i] by omega]) (by rw [hm]; exact hlen) (by rw [hm]; omega) (by rw [hm]; exact hc) h3 (by omega) rfl
  rw [hm, ← hD] at key
  exact key
/-- ret[:n]. -/
theorem slice_h (d D n : Nat) (h : n ≤ D) (W : World) : (Instr.slice 22 (.slice (some ⟨d, 0, none⟩) D D) none (some (.int .i64 n)) none).run Tryz.prog W = .ok (.slice (some ⟨d, 0, none⟩) n D) W := by
  have hu : Tryz.prog.underlying 22 = some (.slice (Tryz.prog.elem 22)) := by rw [elem22]; exact Tryz.underlying22
  rw [run_slice_h (P := Tryz.prog) (t := 22) (ht := hu) (h0 := by omega) (h2 := by omega), elem22, size5]
  simp [Result.andThen, sliced, Addr.add]
/-- The bytes that lie there. -/
theorem DstAt.bytes {w : World} {d D n : Nat} (h : DstAt w d D) (hn : n ≤ D) (hl : d < w.heap.size) {A : Nat → Prop} (hA : ¬ A d) : ∃ l : List Int, l.length = n ∧ BytesAt w A (.slice (some ⟨d, 0, none⟩) n D) l := by
  refine ⟨(List.range n).map fun i => match w.cell? ⟨d, i, none⟩ with | some (.int _ v) => v | _ => 0, by simp, .inr ⟨d, 0, D, by simp, by simp; exact hn, ⟨hA, hl⟩, fun i hi => ?_⟩⟩
  have hi' : i < n := by simpa using hi
  obtain ⟨v, hv⟩ := h.cell i (by omega)
  rw [Nat.zero_add, hv]
  simp [List.getD, hi', hv]
theorem unescS_err {x : Lx} (h : x.Inv) (l : List Int) (n : Nat) : ({ x.unescS l with err := .lex n } : Lx).Inv := by
  unfold Lx.unescS
  split
  · exact h.err rfl
  · have hn : ({ ({ x with tok := l, cl := true } : Lx) with err := .lex n } : Lx).ok = false := rfl
    exact ⟨h.wf.as rfl rfl rfl, h.multi, h.kind, fun ho => absurd (hn.symm.trans ho) (by decide), nf_notok hn, h.len⟩

section
variable {w w' : World} {b : Nat} {ae : Sur} {ao : Addr} {x : Lx} {vd vt ve vm : Value}
theorem peek_num (h : LexAt w b ae ao x vd vt ve vm) : (x.kind == 0 && x.ok) = false → NumDone w b ae ao x.peek vd vm w := fun hk => by
  rw [peek_kept hk]
  exact ⟨vt, ve, h, Kept.refl b w⟩

set_option maxHeartbeats 16000000 in
set_option maxRecDepth 100000 in
theorem bytes_some (h : LexAt w b ae ao x vd vt ve vm) (hI : x.Inv) (hG : Gr b w) : Calls Tryz.prog 61 #[.pointer (some ⟨b, 0, none⟩)] w (BytesPost w b ae ao x vd vm) := by
  have H := Lib.hid h
  have HI := Lib.hid hI
  have HG := Lib.hid hG
  have c3 := h.c3
  have HSH : RowKit.Hid (x.ok = false → x.peek = x) := fun hx => peek_shut hx
  clear h hI hG
  go_enter Tryz.func61, Tryz.ntmps61
  go_upto_region 1 with fail
  go_cut [16] from 7 to 16 (fun a16 wx => a16 = .bool (x.kind == 0 && x.ok) ∧ w = wx)
  case first =>
    by_cases hk : x.kind = 0
    case neg =>
      have n1 : ((x.kind : Int) == 0) = false := beq_eq_false_iff_ne.2 (by omega)
      have n2 : (x.kind == 0) = false := beq_eq_false_iff_ne.2 hk
      go_wp2_with (go_at_call 47; refine (ok_any H.out).mono ?_; rintro e w2 ⟨rfl, rfl⟩)
      go_meet
      exact ⟨by rw [n2]; rfl, rfl⟩
    case pos =>
      rw [hk] at c3
      have n2 : (x.kind == 0) = true := beq_iff_eq.2 hk
      have HN2 := Lib.hid n2
      clear n2 hk
      go_wp2_with (go_at_call 47; refine (ok_any H.out).mono ?_; rintro e w2 ⟨rfl, rfl⟩)
      go_meet
      exact ⟨by rw [HN2.out]; rfl, rfl⟩
  case rest =>
    obtain ⟨rfl, rfl⟩ := hcut
    clear c3
    go_upto_if 16 with fail
    go_cut [] from 16 to 18 (fun wx => NumDone w b ae ao x.peek vd vm wx)
    case first =>
      cases hc : (x.kind == 0 && x.ok) with
      | false =>
        have HC := Lib.hid hc
        clear hc
        go_wp2_with fail
        go_meet
        exact peek_num H.out HC.out
      | true =>
        have HPN := Lib.hid (peek_new (x := x) hc)
        clear hc
        go_wp2_with (go_at_call 86; refine (fetchToken_any H.out HI.out.wf).mono ?_; rintro e w1 ⟨rfl, h1⟩; have HF := Lib.hid h1; clear h1)
        go_meet
        rw [HPN.out]
        exact HF.out
    case rest =>
      obtain ⟨vt1, ve1, g1, g2⟩ := hcut
      have hI1 := HI.out.peek
      have HG1 := Lib.hid (HG.out.kept g2)
      obtain ⟨Y, hY⟩ : ∃ Y, Y = x.peek := ⟨_, rfl⟩
      rw [← hY] at g1 hI1 HSH
      have HI1 := Lib.hid hI1
      have G1 := Lib.hid g1
      have G2 := Lib.hid g2
      have c3 := g1.c3
      clear g1 g2 hI1 hY HI H HG
      cases ho : Y.ok with
      | false =>
        have HO := Lib.hid ho
        clear ho
        go_wp2_with (first | (go_at_call 47; refine (ok_any G1.out).mono ?_; rintro e w2 ⟨he, rfl⟩; rw [HO.out] at he; subst he) | (go_at_call 103; refine (errInvalid_any G1.out HI1.out.multi _ (by decide)).mono ?_; rintro e w4 ⟨rfl, ve4, g5, g6⟩; have G5 := Lib.hid g5; have G6 := Lib.hid g6; clear g5 g6))
        refine bodyPost_ret (results_tmp rfl _ _ _) rfl ⟨Y.fail, _, [], HI1.out.fail, fun hx => ⟨?_, rfl⟩, rfl, by decide, .inl ⟨rfl, rfl⟩, _, _, G5.out, G2.out.trans G6.out⟩
        rw [fail_shut HO.out, HSH.out hx]
      | true =>
        have hx : x.ok = false → False := fun hx => by rw [HSH.out hx, hx] at ho; cases ho
        have HX := Lib.hid hx
        have HO := Lib.hid ho
        clear ho hx
        by_cases hk : Y.kind = 2
        case neg =>
          have d2 : ((Y.kind : Int) != 2) = true := bne_iff_ne.2 (by omega)
          go_wp2_with (first | (go_at_call 47; refine (ok_any G1.out).mono ?_; rintro e w2 ⟨he, rfl⟩; rw [HO.out] at he; subst he) | (go_at_call 103; refine (errInvalid_any G1.out HI1.out.multi _ (by decide)).mono ?_; rintro e w4 ⟨rfl, ve4, g5, g6⟩; have G5 := Lib.hid g5; have G6 := Lib.hid g6; clear g5 g6))
          exact bodyPost_ret (results_tmp rfl _ _ _) rfl ⟨Y.fail, _, [], HI1.out.fail, fun hx => (HX.out hx).elim, rfl, by decide, .inl ⟨rfl, rfl⟩, _, _, G5.out, G2.out.trans G6.out⟩
        case pos =>
          have d2 : ((Y.kind : Int) != 2) = false := by simp; omega
          obtain ⟨ht1, ht2⟩ := HI1.out.tf HO.out (.inl hk)
          have HTB := Lib.hid ht2
          have hl0 := HI1.out.len
          have htl : Y.tok.length ≤ 100000 := by omega
          clear ht2
          cases hu : unesc (Y.tok.length + 1) [] Y.tok with
          | none =>
            have HU := Lib.hid hu
            have HIF := Lib.hid HI1.out.fail
            clear hu
            go_wp2_with (first | (go_at_call 47; refine (ok_any G1.out).mono ?_; rintro e w2 ⟨he, rfl⟩; rw [HO.out] at he; subst he) | (go_at_call 109; refine (unescape_any G1.out HI1.out.wf HTB.out htl).mono ?_; intro e w5 h5; unfold UnescDone at h5; rw [HU.out] at h5; obtain ⟨v5, he5, vt5, ve5, g5, g6⟩ := h5; subst he5; have G5 := Lib.hid g5; have G6 := Lib.hid g6; clear g5 g6) | (go_at_call 103; refine (errInvalid_any G5.out HIF.out.multi _ (by decide)).mono ?_; rintro e w4 ⟨rfl, ve4, g7, g8⟩; have G7 := Lib.hid g7; have G8 := Lib.hid g8; clear g7 g8))
            exact bodyPost_ret (results_tmp rfl _ _ _) rfl ⟨Y.fail.fail, _, [], HIF.out.fail, fun hx => (HX.out hx).elim, rfl, by decide, .inl ⟨rfl, rfl⟩, _, _, G7.out, (G2.out.trans G6.out).trans G8.out⟩
          | some l =>
            obtain ⟨hlb, hll⟩ := unesc_good _ _ _ _ hu (fun _ h => by cases h) (LB.of_bytes HTB.out)
            have HTL := Lib.hid (unescS_tok hu)
            have HLB := Lib.hid hlb
            have HU := Lib.hid hu
            have hll' : l.length ≤ 100000 := by simp at hll; omega
            clear hlb hll hu
            have HIC := Lib.hid (unescS_inv HI1.out l)
            go_upto_region 10 with (first | (go_at_call 47; refine (ok_any G1.out).mono ?_; rintro e w2 ⟨he, rfl⟩; rw [HO.out] at he; subst he) | (go_at_call 109; refine (unescape_any G1.out HI1.out.wf HTB.out htl).mono ?_; intro e w5 h5; unfold UnescDone at h5; rw [HU.out] at h5; obtain ⟨he5, vt5, ve5, g5, g6⟩ := h5; subst he5; have G5 := Lib.hid g5; have G6 := Lib.hid g6; clear g5 g6))
            obtain ⟨pt, ct, hvt⟩ : ∃ p c, vt5 = .slice p l.length c := by
              have := G5.out.tok
              rw [HTL.out] at this
              exact this.isSlice
            subst hvt
            have y6 := G5.out.c6
            have hb5 := G5.out.lt
            obtain ⟨D, hD⟩ : ∃ D, D = l.length / 4 * 3 := ⟨_, rfl⟩
            have hD1 : D ≤ 100000 := by omega
            have HDD := Lib.hid hD
            have hmk := mk_room D hD1
            clear hD d2 c3
            go_cut [4] from 38 to 46 (fun a4 wx => ∃ d, a4 = .slice (some ⟨d, 0, none⟩) D D ∧ DstAt wx d D ∧ w5.heap.size ≤ d ∧ d < wx.heap.size ∧ Below w5.heap.size w5 wx)
            case first =>
              go_region_with (first
                | (go_at_call 112; refine (stdEnc_any _).mono ?_; rintro e w6 ⟨rfl, h1, h2, h3⟩; have k6 := (h2.cell (p := ⟨b, 6, none⟩) hb5).trans y6; have HE6 := Lib.hid h1; have HB6 := Lib.hid h2; have hs6 := h2.size; clear h1 h2 h3)
                | (go_at_call 113; refine (decodedLen_any HE6.out l.length hll').mono ?_; rintro e w7 ⟨he, rfl⟩; rw [← HDD.out] at he; subst he))
              all_goals
                go_wp2_with fail
                go_meet
                exact ⟨w6.heap.size, rfl, room_dst D w6, hs6, by simp, Below.alloc (((below_drewN w5 _).trans HB6.out)) (by have := hs6; exact this) _⟩
            case rest =>
              obtain ⟨d, rfl, hd1, hd2, hd3, hd4⟩ := hcut
              have HD1 := Lib.hid hd1
              have HB := Lib.hid hd4
              have k6 := (hd4.cell (p := ⟨b, 6, none⟩) hb5).trans y6
              clear hd1 hd4 y6 hmk
              go_upto_region 11 with fail
              go_cut [5, 6] from 47 to 57 (fun a5 a6 wx => ∃ (n : Nat) (er : Value), a5 = .int .i64 n ∧ a6 = er ∧ ((er = .nilIface ∧ n ≤ D) ∨ QErr er) ∧ DstAt wx d D ∧ d < wx.heap.size ∧ Below w5.heap.size w5 wx)
              case first =>
                go_region_with (first
                  | (go_at_call 112; refine (stdEnc_any _).mono ?_; rintro e w6 ⟨rfl, h1, h2, h3⟩; have j6 := (h2.cell (p := ⟨b, 6, none⟩) (Nat.lt_of_lt_of_le hb5 HB.out.size)).trans k6; have HE6 := Lib.hid h1; have HD6 := Lib.hid (HD1.out.keep (h2.block d hd3)); have HB6 := Lib.hid (HB.out.trans (Below.mono ((below_drewN _ _).trans h2) HB.out.size)); have hd6 := Nat.lt_of_lt_of_le hd3 h2.size; have nde : d ≠ wc.heap.size := Nat.ne_of_lt hd3; clear h1 h2 h3)
                  | (go_at_call 114; refine (decode_tok (by have := G5.out.tok; rw [HTL.out] at this; exact this) HB6.out HLB.out hll' HDD.out HE6.out HD6.out hd2 hd6 nde).mono ?_; rintro e w7 ⟨n, er, rfl, hq, hw⟩; have HQ := Lib.hid hq; have HW := Lib.hid hw; clear hq hw))
                all_goals
                  go_wp2_with fail
                  go_meet
                  exact ⟨n, er, rfl, rfl, HQ.out, HW.out.1, Nat.lt_of_lt_of_le hd6 HW.out.2.size, below_kept HB6.out HW.out.2 hd2 (Nat.le_refl _)⟩
              case rest =>
                obtain ⟨n, er, rfl, rfl, hq, hdw, hdl, hbw⟩ := hcut
                have HDW := Lib.hid hdw
                have HBW := Lib.hid hbw
                clear hdw hbw k6 hd3
                have HG5 := HG1.out.kept G6.out
                have HG9 := HG5.below hb5 HBW.out
                have HT := Lib.hid HG9.tabs
                have HK := Lib.hid ((G2.out.trans G6.out).trans (kept_below HBW.out b))
                have HG10 := Lib.hid (G5.out.belowNew HBW.out)
                clear HG5 HG9
                rcases hq with ⟨rfl, hn⟩ | ⟨z, rfl, hz0, hz1⟩
                · have hsl := slice_h d D n hn
                  have hdb : d ≠ b := by omega
                  have hnd : ¬ ae.off b d := by
                    rintro (e | e)
                    · exact hdb e
                    · have := G5.out.held _ e; omega
                  go_wp2_with (go_at_call 104; refine (consume_any HG10.out).mono ?_; rintro e w9 ⟨rfl, g3, g4⟩; have G3 := Lib.hid g3; have G4 := Lib.hid g4; clear g3 g4)
                  obtain ⟨l', hl1, hl2⟩ := (HDW.out.keep (G4.out.block d hdl hdb)).bytes hn (Nat.lt_of_lt_of_le hdl G4.out.size) hnd
                  exact bodyPost_ret (results_tmp rfl _ _ _) rfl ⟨(Y.unescS l).consume, .slice (some ⟨d, 0, none⟩) n D, l', HIC.out, fun hx => (HX.out hx).elim, rfl, by omega, hl2, _, _, G3.out, HK.out.trans G4.out⟩
                · have hm : ∀ W, (method 390 178 (.int .i64 z) "Error").run Tryz.prog W = .ok (280, .int .i64 z) W := fun W => by show _ = _; kernel_rfl
                  have c11 := HG10.out.c11
                  have f11 := HG10.out.free 11
                  go_wp2_with (go_at_call 280; refine (corrupt_any z hz0 hz1 _ HT.out).mono ?_; rintro e w9 ⟨⟨t, rfl⟩, hb9⟩; have hg := HG10.out.belowNew hb9; have d11 := hg.c11; have e11 := hg.free 11; have l11 := hg.lt; have m11 := Nat.ne_of_lt hg.lt; have G11 := Lib.hid hg; have HB9 := Lib.hid hb9; clear hg hb9)
                  refine bodyPost_ret (results_tmp rfl _ _ _) rfl ⟨{ Y.unescS l with err := .lex 0 }, _, [], unescS_err HI1.out l 0, fun hx => (HX.out hx).elim, rfl, by decide, .inl ⟨rfl, rfl⟩, _, _, G11.out.newErr' t ⟨#[]⟩ 0, ?_⟩
                  exact ((HK.out.trans (kept_below HB9.out b)).setCell _ _).alloc _
end
end Go.Proofs.YtaecbclonmhbcaaGreatDoor

/- What a row of calls tells behind an error. Plain. -/
namespace Go.Proofs.YtaecbclonmhbcaaGreatDoor

def dG : Gt := (0, .nilIface, 0, 0)
theorem num_nil {e : Er} : e.num = 0 ↔ e.isNil = true := by cases e <;> simp [Er.num, Er.isNil]
theorem ok_of_num {x : Lx} (h : x.err.num ≠ 0) : x.ok = false := by
  cases ho : x.ok with
  | false => rfl
  | true => exact absurd (num_nil.2 ho) h
theorem num_of_ok {x : Lx} (h : x.ok = false) : x.err.num ≠ 0 := fun e => by
  have := num_nil.1 e
  rw [show x.ok = x.err.isNil from rfl] at h
  rw [h] at this; cases this

theorem Chain.last {x0 x : Lx} {ops : List Int} {gs : List Gt} (h : Chain x0 ops gs x) (hn : 0 < gs.length) : (gs.getD (gs.length - 1) dG).2.2.1 = x.err.num := by
  cases h with
  | nil => cases hn
  | snoc _ hs => simp [List.getD]

/-- What stands behind an error. -/
def Shut (k : Int) (g : Gt) : Prop := g.2.2.1 = k ∧ g.1 = 0 ∧ ∃ p c, g.2.1 = .slice p 0 c

theorem Chain.stops {x0 x : Lx} {ops : List Int} {gs : List Gt} (h : Chain x0 ops gs x) : ∀ i, 0 < i → i < gs.length → (gs.getD (i - 1) dG).2.2.1 ≠ 0 → Shut (gs.getD (i - 1) dG).2.2.1 (gs.getD i dG) := by
  induction h with
  | nil => intro i _ hi; cases hi
  | @snoc ops gs x x' op n s hc hs ih =>
    intro i h0 hi h2
    have hl : (gs ++ [(n, s, x'.err.num, (x'.pos : Int))]).length = gs.length + 1 := by simp
    rw [hl] at hi
    have hprev : (gs ++ [(n, s, x'.err.num, (x'.pos : Int))]).getD (i - 1) dG = gs.getD (i - 1) dG := by
      simp only [List.getD, List.getElem?_append_left (show i - 1 < gs.length by omega)]
    rw [hprev] at h2 ⊢
    by_cases hlt : i < gs.length
    · have hcur : (gs ++ [(n, s, x'.err.num, (x'.pos : Int))]).getD i dG = gs.getD i dG := by
        simp only [List.getD, List.getElem?_append_left hlt]
      rw [hcur]
      exact ih i h0 hlt h2
    · obtain rfl : i = gs.length := by omega
      have hcur : (gs ++ [(n, s, x'.err.num, (x'.pos : Int))]).getD gs.length dG = (n, s, x'.err.num, (x'.pos : Int)) := by simp [List.getD]
      rw [hcur]
      rw [hc.last h0] at h2 ⊢
      have ho := ok_of_num h2
      obtain ⟨e1, e2⟩ := hs.shut ho
      obtain ⟨p, k, c, e3, e4⟩ := hs.sl
      obtain rfl := e4 ho
      exact ⟨by show x'.err.num = _; rw [e1], e2, p, c, e3⟩

theorem Chain.inv_snoc {x0 x : Lx} {ops : List Int} {op : Int} {gs : List Gt} (h : Chain x0 (ops ++ [op]) gs x) :
    ∃ gs' y n s, gs = gs' ++ [(n, s, x.err.num, (x.pos : Int))] ∧ Chain x0 ops gs' y ∧ Step op y x n s := by
  generalize ho : ops ++ [op] = o at h
  cases h with
  | nil => simp at ho
  | @snoc ops' gs' y _ op' n s hc hs =>
    obtain ⟨rfl, e⟩ := List.append_inj' ho rfl
    obtain rfl : op = op' := by simpa using e
    exact ⟨gs', y, n, s, rfl, hc, hs⟩
theorem Chain.inv_nil {x0 x : Lx} {gs : List Gt} (h : Chain x0 [] gs x) : gs = [] ∧ x = x0 := by
  generalize ho : ([] : List Int) = o at h
  cases h with
  | nil => exact ⟨rfl, rfl⟩
  | snoc hc hs => simp at ho

/-- The row of FnLexAdded. -/
theorem Chain.added {x0 x : Lx} {a b : Int} {gs : List Gt} (h : Chain x0 [a, 45, b, 43] gs x) :
    ∃ g0 g1 g2 g3, gs = [g0, g1, g2, g3] ∧ g1.2.2.1 ≠ 0 ∧ g2.2.2.1 = g1.2.2.1 ∧ g2.1 = 0 ∧ (∃ p c, g2.2.1 = .slice p 0 c) ∧ g3.1 = 0 ∧ (∃ p k c, g0.2.1 = .slice p k c) ∧ (∃ p k c, g1.2.1 = .slice p k c) ∧ (∃ p k c, g3.2.1 = .slice p k c) := by
  have h' : Chain x0 ([a, 45, b] ++ [43]) gs x := h
  obtain ⟨gs3, y3, n3, s3, rfl, h3, t3⟩ := h'.inv_snoc
  have h3' : Chain x0 ([a, 45] ++ [b]) gs3 y3 := h3
  obtain ⟨gs2, y2, n2, s2, rfl, h2, t2⟩ := h3'.inv_snoc
  have h2' : Chain x0 ([a] ++ [45]) gs2 y2 := h2
  obtain ⟨gs1, y1, n1, s1, rfl, h1, t1⟩ := h2'.inv_snoc
  have h1' : Chain x0 ([] ++ [a]) gs1 y1 := h1
  obtain ⟨gs0, y0, n0, s0, rfl, h0, t0⟩ := h1'.inv_snoc
  obtain ⟨rfl, rfl⟩ := h0.inv_nil
  have o2 := t1.add rfl
  obtain ⟨e1, e2⟩ := t2.shut o2
  have o3 : y3.ok = false := by rw [show y3.ok = y3.err.isNil from rfl, e1]; exact o2
  obtain ⟨e3, e4⟩ := t3.shut o3
  obtain ⟨p2, k2, c2, q1, q2⟩ := t2.sl
  obtain rfl := q2 o2
  obtain ⟨pa, ka, ca, qa, _⟩ := t0.sl
  obtain ⟨pb, kb, cb, qb, _⟩ := t1.sl
  obtain ⟨pc, kc, cc, qc, _⟩ := t3.sl
  exact ⟨_, _, _, _, rfl, num_of_ok o2, by show y3.err.num = y2.err.num; rw [e1], e2, ⟨p2, c2, q1⟩, e4, ⟨pa, ka, ca, qa⟩, ⟨pb, kb, cb, qb⟩, ⟨pc, kc, cc, qc⟩⟩
end Go.Proofs.YtaecbclonmhbcaaGreatDoor
