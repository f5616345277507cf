/- internal/strconv.decimal's floatBits for float32. Printed by gen_dcf.py. internal/strconv.special over bytes of numbers. internal/strconv.atof64 over bytes of numbers. internal/strconv.atof32 over bytes of numbers. -/
import Derived.Test.YtaecbclonmhbcaaGreatDoorG21
import Derived.Test.YtaecbclonmhbcaaGreatDoorG19
import Derived.Test.YtaecbclonmhbcaaGreatDoorG20
set_option linter.unusedVariables false
set_option linter.unusedSimpArgs false
/- internal/strconv.decimal's floatBits for float32. Printed by gen_dcf.py. -/
namespace Go.Proofs.YtaecbclonmhbcaaGreatDoor
open Go.RowKit

set_option maxHeartbeats 8000000 in
set_option maxRecDepth 100000 in
theorem floatbits_32 (b gf : Nat) (f : Nat → Int) (nd : Nat) (dp : Int) (w : World) (h : DecAt w b f nd dp) (hG : nd = 0 ∨ DGood f nd) (hT : CheatT w b) (hP : Pow9 w b) (hI : FInfo w b gf 23 8 (-127)) :
    Calls Tryz.prog 177 #[.pointer (some ⟨b, 0, none⟩), .pointer (some ⟨gf, 0, none⟩)] w (SomeFl b w) := by
  have H := Lib.hid h
  have HG := Lib.hid hG
  have HT := Lib.hid hT
  have HP := Lib.hid hP
  have HI := Lib.hid hI
  have c1 := h.nd
  have c2 := h.dp
  have i0 := hI.c0
  have i1 := hI.c1
  have i2 := hI.c2
  obtain ⟨ng, cn⟩ := h.neg
  have HK0 := Lib.hid (Kept.refl b w)
  clear h hG hT hP hI
  go_enter Tryz.func177, Tryz.ntmps177
  go_wp2
  apply wp_scope_fwd
  intro Qf hgo hret
  have G0 := Lib.hid (fun a w => hgo 0 _ a w rfl)
  have G1 := Lib.hid (fun a w => hgo 1 _ a w rfl)
  have GR := Lib.hid hret
  clear hgo hret
  by_cases hnd : nd = 0
  · subst hnd
    go_wp2
    go_step3
    (try simp only [Exit.then, Exit.inBlock])
    apply G0.out
    go_wp2
    go_quiet (fail)
    go_wp2
    · go_quiet (fail)
      go_wp2
      (try rw [Exit.noGoto_ret])
      go_ret2
      exact ⟨_, _, rfl, by first | exact HK0.out | exact HK0.out.drewN _ | exact (HK0.out.drewN _).drewN _ | exact ((HK0.out.drewN _).drewN _).drewN _ | exact (((HK0.out.drewN _).drewN _).drewN _).drewN _ | exact ((((HK0.out.drewN _).drewN _).drewN _).drewN _).drewN _⟩
    · (try rw [Exit.noGoto_ret])
      go_ret2
      exact ⟨_, _, rfl, by first | exact HK0.out | exact HK0.out.drewN _ | exact (HK0.out.drewN _).drewN _ | exact ((HK0.out.drewN _).drewN _).drewN _ | exact (((HK0.out.drewN _).drewN _).drewN _).drewN _ | exact ((((HK0.out.drewN _).drewN _).drewN _).drewN _).drewN _⟩
  have h1 : DGood f nd := HG.out.resolve_left hnd
  have g0 : ((nd : Int) == 0) = false := beq_eq_false_iff_ne.2 (by omega)
  by_cases h310 : 310 < dp
  · go_wp2
    go_step3
    (try simp only [Exit.then, Exit.inBlock])
    apply G1.out
    go_wp2
    go_quiet (fail)
    go_wp2
    go_step3
    go_wp2
    go_quiet (fail)
    go_wp2
    · go_quiet (fail)
      go_wp2
      (try rw [Exit.noGoto_ret])
      go_ret2
      exact ⟨_, _, rfl, by first | exact HK0.out | exact HK0.out.drewN _ | exact (HK0.out.drewN _).drewN _ | exact ((HK0.out.drewN _).drewN _).drewN _ | exact (((HK0.out.drewN _).drewN _).drewN _).drewN _ | exact ((((HK0.out.drewN _).drewN _).drewN _).drewN _).drewN _⟩
    · (try rw [Exit.noGoto_ret])
      go_ret2
      exact ⟨_, _, rfl, by first | exact HK0.out | exact HK0.out.drewN _ | exact (HK0.out.drewN _).drewN _ | exact ((HK0.out.drewN _).drewN _).drewN _ | exact (((HK0.out.drewN _).drewN _).drewN _).drewN _ | exact ((((HK0.out.drewN _).drewN _).drewN _).drewN _).drewN _⟩
  by_cases h330 : dp < -330
  · go_wp2
    go_step3
    (try simp only [Exit.then, Exit.inBlock])
    apply G0.out
    go_wp2
    go_quiet (fail)
    go_wp2
    · go_quiet (fail)
      go_wp2
      (try rw [Exit.noGoto_ret])
      go_ret2
      exact ⟨_, _, rfl, by first | exact HK0.out | exact HK0.out.drewN _ | exact (HK0.out.drewN _).drewN _ | exact ((HK0.out.drewN _).drewN _).drewN _ | exact (((HK0.out.drewN _).drewN _).drewN _).drewN _ | exact ((((HK0.out.drewN _).drewN _).drewN _).drewN _).drewN _⟩
    · (try rw [Exit.noGoto_ret])
      go_ret2
      exact ⟨_, _, rfl, by first | exact HK0.out | exact HK0.out.drewN _ | exact (HK0.out.drewN _).drewN _ | exact ((HK0.out.drewN _).drewN _).drewN _ | exact (((HK0.out.drewN _).drewN _).drewN _).drewN _ | exact ((((HK0.out.drewN _).drewN _).drewN _).drewN _).drewN _⟩
  have HG1 := Lib.hid h1
  clear h1 hnd
  go_upto_block 0 with fail
  clear c1 c2 g0 cn
  go_cut [6] from 35 to 60 (fun a6 wx => ∃ (x : Int) (f : Nat → Int) (nd : Nat) (dp : Int), a6 = .int .i64 x ∧ DecAt wx b f nd dp ∧ DGood f nd ∧ dp ≤ 0 ∧ -4611686018427387904 ≤ dp ∧ Kept b w wx)
  case first =>
    go_wp2
    go_loopg [6] (mu1 dp (f 0)) (fun gk v6 wr => ∃ (x : Int) (f : Nat → Int) (nd : Nat) (dp : Int), gk = mu1 dp (f 0) ∧ v6 = .int .i64 x ∧ DecAt wr b f nd dp ∧ DGood f nd ∧ dp ≤ 310 ∧ -4611686018427387904 ≤ dp ∧ Kept b w wr)
    case atStart => exact ⟨0, f, nd, dp, rfl, rfl, H.out, HG1.out, by omega, by omega, HK0.out⟩
    case round =>
      clear h310 h330
      obtain ⟨x, f, nd, dp, hgk, rfl, hd, hG, hd1, hd2, hK⟩ := hrel
      have A1 := Lib.hid hd
      have A2 := Lib.hid hG
      have A3 := Lib.hid hK
      have A4 := Lib.hid hgk
      have c2 := hd.dp
      obtain ⟨n10, g, o, cp, hgb, t1, t2, t3⟩ := HP.out.kept hK
      have HP3 := Lib.hid t3
      have hh1 := hG.head
      have hh2 := (hG.dig 0 hG.pos).2
      clear hd hG hK hgk t3
      by_cases hpos : 0 < dp
      case neg =>
        go_wp2
        go_meet
        exact ⟨x, f, nd, dp, rfl, A1.out, A2.out, by omega, hd2, A3.out⟩
      case pos =>
        obtain ⟨j, rfl⟩ : ∃ j : Nat, dp = (j : Int) := ⟨dp.toNat, by omega⟩
        have hstep : Hid (∀ (g : Nat → Int) (r : Int), 49 ≤ g 0 → g 0 ≤ 57 → 1 ≤ r → r ≤ 2305843009213693952 → (r = 1 → g 0 < f 0) → mu1 (IntKind.i64.wrap ((j : Int) - (r - 1))) (g 0) < mu1 j (f 0) ∧ IntKind.i64.wrap ((j : Int) - (r - 1)) ≤ 310 ∧ -4611686018427387904 ≤ IntKind.i64.wrap ((j : Int) - (r - 1))) := fun g r h1 h2 h3 h4 h5 => by
          have e : IntKind.i64.wrap ((j : Int) - (r - 1)) = (j : Int) - (r - 1) := by rw [IntKind.wrap_i64]; omega
          rw [e]
          refine ⟨?_, by omega, by omega⟩
          unfold mu1
          rw [if_pos hpos]
          by_cases hr : r = 1
          · have := h5 hr
            subst hr
            rw [if_pos (by omega)]
            omega
          · split <;> omega
        by_cases h9 : 9 ≤ j
        · have h9' : (9 : Int) ≤ j := by omega
          have HS := Lib.hid (fun n => shift_right b f nd j 27 (wr.drewN n) (A1.out.drewN n) A2.out (by decide) (by decide))
          go_wp2
          go_quiet (fail)
          go_wp2_with (go_at_call 206; refine (HS.out _).mono ?_; rintro e w1 ⟨rfl, f1, nd1, r, d1, d2, d3, d4, d5, d6⟩)
          have hs := hstep.out f1 r d2.head (d2.dig 0 d2.pos).2 d3 d4 d5
          go_roundg (mu1 (IntKind.i64.wrap ((j : Int) - (r - 1))) (f1 0))
          case measure => rw [A4.out]; exact hs.1
          case rel => exact ⟨_, f1, nd1, _, rfl, rfl, d1, d2, hs.2.1, hs.2.2, (A3.out.drewN _).trans d6⟩
        · have h9' : ¬ (9 : Int) ≤ j := by omega
          obtain ⟨n, hn1, hn2, cj⟩ := HP3.out j (by omega)
          have HS := Lib.hid (fun m => shift_right b f nd j n (wr.drewN m) (A1.out.drewN m) A2.out hn1 (by omega))
          go_wp2
          go_quiet (fail)
          go_wp2
          go_quiet (fail)
          go_wp2_with (go_at_call 206; (try rw [World.drewN_drewN]); refine (HS.out _).mono ?_; rintro e w1 ⟨rfl, f1, nd1, r, d1, d2, d3, d4, d5, d6⟩)
          have hs := hstep.out f1 r d2.head (d2.dig 0 d2.pos).2 d3 d4 d5
          go_roundg (mu1 (IntKind.i64.wrap ((j : Int) - (r - 1))) (f1 0))
          case measure => rw [A4.out]; exact hs.1
          case rel => exact ⟨_, f1, nd1, _, rfl, rfl, d1, d2, hs.2.1, hs.2.2, (A3.out.drewN _).trans d6⟩
  case rest =>
    clear H HG HG1 h310 h330
    obtain ⟨x, f, nd, dp, rfl, hd, hG, hd0, hd1, hK⟩ := hcut
    have H := Lib.hid hd
    have HG1 := Lib.hid hG
    have HK1 := Lib.hid hK
    clear hd hG hK
    go_upto_block 2 with fail
    go_cut [6] from 61 to 102 (fun a6 wx => ∃ x : Int, a6 = .int .i64 x ∧ DecSome wx b ∧ Kept b w wx)
    case first =>
      go_wp2
      go_loopg [6] (mu2 dp (f 0)) (fun gk v6 wr => ∃ (x : Int) (f : Nat → Int) (nd : Nat) (dp : Int), gk = mu2 dp (f 0) ∧ v6 = .int .i64 x ∧ DecAt wr b f nd dp ∧ DGood f nd ∧ dp ≤ 100 ∧ -4611686018427387904 ≤ dp ∧ Kept b w wr)
      case atStart => exact ⟨x, f, nd, dp, rfl, rfl, H.out, HG1.out, by omega, by omega, HK1.out⟩
      case round =>
        clear hd0 hd1 HG1
        obtain ⟨x, f, nd, dp, hgk, rfl, hd, hG, hd1, hd2, hK⟩ := hrel
        have A1 := Lib.hid hd
        have A2 := Lib.hid hG
        have A3 := Lib.hid hK
        have A4 := Lib.hid hgk
        have c2 := hd.dp
        have c3 := hd.dig 0 (by decide)
        obtain ⟨n10, g, o, cp, hgb, t1, t2, t3⟩ := HP.out.kept hK
        have HP3 := Lib.hid t3
        have HTC := Lib.hid (HT.out.kept hK)
        have hh1 := hG.head
        have hh2 := (hG.dig 0 hG.pos).2
        clear hd hG hK hgk t3
        have hstep : Hid ((dp < 0 ∨ (dp = 0 ∧ f 0 < 53)) → ∀ (g : Nat → Int) (t : Nat), 49 ≤ g 0 → g 0 ≤ 57 → t ≤ 20 → (t = 0 → f 0 < g 0) → mu2 (IntKind.i64.wrap (dp + t)) (g 0) < mu2 dp (f 0) ∧ IntKind.i64.wrap (dp + t) ≤ 100 ∧ -4611686018427387904 ≤ IntKind.i64.wrap (dp + t)) := fun hc g t h1 h2 h3 h4 => by
          have e : IntKind.i64.wrap (dp + t) = dp + t := by rw [IntKind.wrap_i64]; omega
          rw [e]
          refine ⟨?_, by omega, by omega⟩
          unfold mu2
          rw [if_pos hc]
          by_cases ht : t = 0
          · have := h4 ht
            subst ht
            split <;> omega
          · split <;> omega
        rcases Int.lt_trichotomy dp 0 with hneg | hneg | hneg
        · obtain ⟨j, e2⟩ : ∃ j : Nat, -dp = (j : Int) := ⟨(-dp).toNat, by omega⟩
          have e0 : IntKind.i64.wrap (-dp) = j := by rw [IntKind.wrap_i64]; omega
          by_cases h9 : 9 ≤ j
          · have h9' : (9 : Int) ≤ j := by omega
            have HS := Lib.hid (fun n => shift_left b f nd dp 27 (wr.drewN n) (A1.out.drewN n) (HTC.out.kept ((Kept.refl b wr).drewN n)) A2.out (by decide) (by decide))
            go_wp2
            go_quiet (fail)
            go_wp2_with (go_at_call 206; refine (HS.out _).mono ?_; rintro e w1 ⟨rfl, f1, nd1, r, d1, d2, d3, d4, d6⟩)
            have hs := hstep.out (.inl hneg) f1 r d2.head (d2.dig 0 d2.pos).2 d3 d4
            go_roundg (mu2 (IntKind.i64.wrap (dp + r)) (f1 0))
            case measure => rw [A4.out]; exact hs.1
            case rel => exact ⟨_, f1, nd1, _, rfl, rfl, d1, d2, hs.2.1, hs.2.2, (A3.out.drewN _).trans d6⟩
          · have h9' : ¬ (9 : Int) ≤ j := by omega
            obtain ⟨n, hn1, hn2, cj⟩ := HP3.out j (by omega)
            have HS := Lib.hid (fun m => shift_left b f nd dp n (wr.drewN m) (A1.out.drewN m) (HTC.out.kept ((Kept.refl b wr).drewN m)) A2.out hn1 (by omega))
            go_wp2
            go_quiet (fail)
            go_wp2
            go_quiet (fail)
            go_wp2_with (go_at_call 206; (try rw [World.drewN_drewN]); refine (HS.out _).mono ?_; rintro e w1 ⟨rfl, f1, nd1, r, d1, d2, d3, d4, d6⟩)
            have hs := hstep.out (.inl hneg) f1 r d2.head (d2.dig 0 d2.pos).2 d3 d4
            go_roundg (mu2 (IntKind.i64.wrap (dp + r)) (f1 0))
            case measure => rw [A4.out]; exact hs.1
            case rel => exact ⟨_, f1, nd1, _, rfl, rfl, d1, d2, hs.2.1, hs.2.2, (A3.out.drewN _).trans d6⟩
        · subst hneg
          by_cases h53 : f 0 < 53
          · obtain ⟨n, hn1, hn2, cj⟩ := HP3.out 0 (by decide)
            rw [Nat.add_zero] at cj
            have HS := Lib.hid (fun m => shift_left b f nd 0 n (wr.drewN m) (A1.out.drewN m) (HTC.out.kept ((Kept.refl b wr).drewN m)) A2.out hn1 (by omega))
            go_wp2
            go_quiet (fail)
            go_wp2
            go_quiet (fail)
            go_wp2_with (go_at_call 206; (try rw [World.drewN_drewN]); refine (HS.out _).mono ?_; rintro e w1 ⟨rfl, f1, nd1, r, d1, d2, d3, d4, d6⟩)
            have hs := hstep.out (.inr ⟨by first | rfl | trivial, h53⟩) f1 r d2.head (d2.dig 0 d2.pos).2 d3 d4
            go_roundg (mu2 (IntKind.i64.wrap (0 + r)) (f1 0))
            case measure => rw [A4.out]; exact hs.1
            case rel => exact ⟨_, f1, nd1, _, rfl, rfl, d1, d2, hs.2.1, hs.2.2, (A3.out.drewN _).trans d6⟩
          · go_wp2
            go_meet
            exact ⟨x, rfl, ⟨f, nd, 0, A1.out, A2.out⟩, A3.out⟩
        · have g1 : ¬ dp < 0 := by omega
          have g2 : (dp == 0) = false := beq_eq_false_iff_ne.2 (by omega)
          go_wp2
          go_meet
          exact ⟨x, rfl, ⟨f, nd, dp, A1.out, A2.out⟩, A3.out⟩
    case rest =>
      clear H HG1 HK1 i0 i1 i2 hd0 hd1
      obtain ⟨x, rfl, hd, hK⟩ := hcut
      have HD1 := Lib.hid hd
      have HK1 := Lib.hid hK
      have HI1 := HI.out.kept hK
      have i0 := HI1.c0
      have i1 := HI1.c1
      have i2 := HI1.c2
      have HT1 := Lib.hid (HT.out.kept hK)
      clear hd hK HI1
      go_upto_if 111 with fail
      go_cut [6] from 105 to 125 (fun a6 wx => ∃ x : Int, a6 = .int .i64 x ∧ DecSome wx b ∧ Kept b w wx)
      case first =>
        go_wp2_with (go_at_call 206; refine (shift_any b _ _ HD1.out HT1.out (by first | exact (wrap64_range _).1 | trace_state) (by first | exact (wrap64_range _).2 | trace_state)).mono ?_; rintro e w1 ⟨rfl, d1, d2⟩)
        · go_meet
          exact ⟨_, rfl, d1, HK1.out.trans d2⟩
        · go_meet
          exact ⟨_, rfl, HD1.out, HK1.out⟩
      case rest =>
        clear HD1 HK1 HT1 i0 i1 i2
        obtain ⟨x, rfl, hd, hK⟩ := hcut
        have HD1 := Lib.hid hd
        have HK1 := Lib.hid hK
        have HI1 := HI.out.kept hK
        have i0 := HI1.c0
        have i1 := HI1.c1
        have i2 := HI1.c2
        have HT1 := Lib.hid (HT.out.kept hK)
        obtain ⟨ng1, cn⟩ := hd.neg
        clear hd hK HI1
        have HS := Lib.hid (fun n => shift_any b 24 (wc.drewN n) (HD1.out.drewN n) (HT1.out.kept ((Kept.refl b wc).drewN n)) (by decide) (by decide))
        clear HD1 HT1
        go_wp2
        go_quiet (fail)
        go_wp2_with (first
          | (go_at_call 206; refine (HS.out _).mono ?_; rintro e w1 ⟨rfl, d1, d2⟩; clear cn i0 i1 i2; have HR := Lib.hid (rounded_any b w1 d1); have HK2 := Lib.hid ((HK1.out.drewN _).trans d2); have HI2 := HI.out.kept ((HK1.out.drewN _).trans d2); have i0 := HI2.c0; have i1 := HI2.c1; have i2 := HI2.c2; obtain ⟨ng', cn⟩ := d1.neg; clear d1 d2 HI2)
          | (go_at_call 207; refine HR.out.mono ?_; rintro e w2 ⟨y, m, rfl, rfl⟩))
        · go_step3
          (try simp only [Exit.then, Exit.inBlock])
          apply G1.out
          go_wp2
          go_quiet (fail)
          go_wp2
          go_step3
          go_wp2
          go_quiet (fail)
          go_wp2
          · go_quiet (fail)
            go_wp2
            (try rw [Exit.noGoto_ret])
            go_ret2
            exact ⟨_, _, rfl, by first | exact HK1.out | exact HK1.out.drewN _ | exact (HK1.out.drewN _).drewN _ | exact ((HK1.out.drewN _).drewN _).drewN _ | exact (((HK1.out.drewN _).drewN _).drewN _).drewN _ | exact ((((HK1.out.drewN _).drewN _).drewN _).drewN _).drewN _⟩
          · (try rw [Exit.noGoto_ret])
            go_ret2
            exact ⟨_, _, rfl, by first | exact HK1.out | exact HK1.out.drewN _ | exact (HK1.out.drewN _).drewN _ | exact ((HK1.out.drewN _).drewN _).drewN _ | exact (((HK1.out.drewN _).drewN _).drewN _).drewN _ | exact ((((HK1.out.drewN _).drewN _).drewN _).drewN _).drewN _⟩
        all_goals (try (go_quiet (fail); go_wp2))
        all_goals (first
          | (go_step3
             (try simp only [Exit.then, Exit.inBlock])
             apply G0.out
             go_wp2
             go_quiet (fail)
             go_wp2
             · go_quiet (fail)
               go_wp2
               (try rw [Exit.noGoto_ret])
               go_ret2
               exact ⟨_, _, rfl, by first | exact HK2.out | exact HK2.out.drewN _ | exact (HK2.out.drewN _).drewN _ | exact ((HK2.out.drewN _).drewN _).drewN _ | exact (((HK2.out.drewN _).drewN _).drewN _).drewN _ | exact ((((HK2.out.drewN _).drewN _).drewN _).drewN _).drewN _⟩
             · (try rw [Exit.noGoto_ret])
               go_ret2
               exact ⟨_, _, rfl, by first | exact HK2.out | exact HK2.out.drewN _ | exact (HK2.out.drewN _).drewN _ | exact ((HK2.out.drewN _).drewN _).drewN _ | exact (((HK2.out.drewN _).drewN _).drewN _).drewN _ | exact ((((HK2.out.drewN _).drewN _).drewN _).drewN _).drewN _⟩)
          | (go_step3
             (try simp only [Exit.then, Exit.inBlock])
             apply G1.out
             go_wp2
             go_quiet (fail)
             go_wp2
             go_step3
             go_wp2
             go_quiet (fail)
             go_wp2
             · go_quiet (fail)
               go_wp2
               (try rw [Exit.noGoto_ret])
               go_ret2
               exact ⟨_, _, rfl, by first | exact HK2.out | exact HK2.out.drewN _ | exact (HK2.out.drewN _).drewN _ | exact ((HK2.out.drewN _).drewN _).drewN _ | exact (((HK2.out.drewN _).drewN _).drewN _).drewN _ | exact ((((HK2.out.drewN _).drewN _).drewN _).drewN _).drewN _⟩
             · (try rw [Exit.noGoto_ret])
               go_ret2
               exact ⟨_, _, rfl, by first | exact HK2.out | exact HK2.out.drewN _ | exact (HK2.out.drewN _).drewN _ | exact ((HK2.out.drewN _).drewN _).drewN _ | exact (((HK2.out.drewN _).drewN _).drewN _).drewN _ | exact ((((HK2.out.drewN _).drewN _).drewN _).drewN _).drewN _⟩))
end Go.Proofs.YtaecbclonmhbcaaGreatDoor

/- internal/strconv.special over bytes of numbers. -/
namespace Go.Proofs.YtaecbclonmhbcaaGreatDoor
open Go.RowKit

theorem NumS.tail {s : ByteArray} (h : NumS s) (k : Nat) : NumS (s.extract k s.size) := by
  intro j hj
  have h1 : (s.extract k s.size).size = min s.size s.size - k := ByteArray.size_extract
  have e : (s.extract k s.size)[j] = s[k + j]'(by omega) := ByteArray.getElem_extract hj
  rw [e]
  exact h _ _

set_option maxHeartbeats 2000000 in
set_option maxRecDepth 100000 in
theorem prefix_none (s : ByteArray) (w : World) (hs : s.size ≤ 100000) (hN : NumS s) :
    Calls Tryz.prog 195 #[.string s, .string { data := #[105, 110, 102, 105, 110, 105, 116, 121] }] w fun e w' => e = .returned (.int .i64 0) ∧ w = w' := by
  have HN := Lib.hid hN
  clear hN
  by_cases h0 : s.size = 0
  · have hmin : min (8 : Int) (s.size : Int) = 0 := by omega
    go_enter Tryz.func195, Tryz.ntmps195
    go_wp2
    go_loop [6] (fun a => a = .int .i64 0) (fun _ => 0)
    case atStart => rfl
    case round =>
      subst hrel
      go_wp2
      go_ret
      exact ⟨rfl, rfl⟩
  · obtain ⟨E, hmin⟩ : ∃ E, min (8 : Int) (s.size : Int) = E := ⟨_, rfl⟩
    have hE : 0 < E := by omega
    have hlt : 0 < s.size := by omega
    have hnc := HN.out 0 hlt
    obtain ⟨c, hq⟩ : ∃ c, (s[0].toNat : Int) = c := ⟨_, rfl⟩
    rw [hq] at hnc
    go_enter Tryz.func195, Tryz.ntmps195
    go_wp2
    go_loop [6] (fun a => a = .int .i64 0) (fun _ => 0)
    case atStart => rfl
    case round =>
      subst hrel
      by_cases h65 : c = 69
      · subst h65
        go_wp2
        go_ret
        exact ⟨rfl, rfl⟩
      · have hnot : c < 65 ∨ 90 < c := by unfold NumCh at hnc; omega
        have h105 : (c != ((({ data := #[105, 110, 102, 105, 110, 105, 116, 121] } : ByteArray)[0]'(by decide)).toNat : Int)) = true := bne_iff_ne.2 (by show c ≠ 105; unfold NumCh at hnc; omega)
        clear h65 hnc
        rcases hnot with h | h
        · go_wp2
          go_ret
          exact ⟨rfl, rfl⟩
        · go_wp2
          go_ret
          exact ⟨rfl, rfl⟩

set_option maxHeartbeats 4000000 in
set_option maxRecDepth 100000 in
theorem special_none (s : ByteArray) (w : World) (hs : s.size ≤ 100000) (h0 : 0 < s.size) (hN : NumS s) :
    Calls Tryz.prog 169 #[.string s] w fun e w' => e = .returned (.tuple #[.float .f64 0, .int .i64 0, .bool false]) ∧ w = w' := by
  have hse : ¬ s = ByteArray.empty := by intro h; rw [h] at h0; exact absurd h0 (by decide)
  have hnc := hN 0 h0
  have HT := Lib.hid (hN.tail 1)
  have hts : (s.extract 1 s.size).size ≤ 100000 := by rw [ByteArray.size_extract]; omega
  have HTS := Lib.hid hts
  clear hN hts
  obtain ⟨c, hq⟩ : ∃ c, (s[0].toNat : Int) = c := ⟨_, rfl⟩
  rw [hq] at hnc
  go_enter Tryz.func169, Tryz.ntmps169
  by_cases h43 : c = 43
  · subst h43
    go_wp2_with (go_at_call 195; refine (prefix_none _ _ HTS.out HT.out).mono ?_; rintro e w1 ⟨rfl, rfl⟩)
    all_goals
      (try rw [Exit.noGoto_ret])
      exact bodyPost_ret (v := .tuple #[.float .f64 0, .int .i64 0, .bool false]) (by simp [results, Tryz.results169, go_sem]) rfl ⟨rfl, rfl⟩
  by_cases h45 : c = 45
  · subst h45
    go_wp2_with (go_at_call 195; refine (prefix_none _ _ HTS.out HT.out).mono ?_; rintro e w1 ⟨rfl, rfl⟩)
    all_goals
      (try rw [Exit.noGoto_ret])
      exact bodyPost_ret (v := .tuple #[.float .f64 0, .int .i64 0, .bool false]) (by simp [results, Tryz.results169, go_sem]) rfl ⟨rfl, rfl⟩
  have g1 : (c == 43) = false := beq_eq_false_iff_ne.2 h43
  have g2 : (c == 45) = false := beq_eq_false_iff_ne.2 h45
  have g3 : (c == 105) = false := beq_eq_false_iff_ne.2 (by unfold NumCh at hnc; omega)
  have g4 : (c == 73) = false := beq_eq_false_iff_ne.2 (by unfold NumCh at hnc; omega)
  have g5 : (c == 110) = false := beq_eq_false_iff_ne.2 (by unfold NumCh at hnc; omega)
  have g6 : (c == 78) = false := beq_eq_false_iff_ne.2 (by unfold NumCh at hnc; omega)
  clear h43 h45 hnc
  go_wp2_with fail
  all_goals
    (try rw [Exit.noGoto_ret])
    exact bodyPost_ret (v := .tuple #[.float .f64 0, .int .i64 0, .bool false]) (by simp [results, Tryz.results169, go_sem]) rfl ⟨rfl, rfl⟩
end Go.Proofs.YtaecbclonmhbcaaGreatDoor

/- internal/strconv.atof64 over bytes of numbers. -/
namespace Go.Proofs.YtaecbclonmhbcaaGreatDoor
open Go.RowKit

/-- The new decimal. -/
def decRow : Array Value := (List.replicate 800 (Value.int .u8 0)).toArray ++ #[.int .i64 0, .int .i64 0, .bool false, .bool false]
theorem alloc_dec (W : World) : (Instr.alloc 213 true (.tuple #[])).run Tryz.prog W = .ok (.pointer (some ⟨W.heap.size, 0, none⟩)) (W.alloc (.cells decRow 213 (0, 0))) := by
  show _ = _
  kernel_rfl
theorem decRow_dig (i : Nat) (h : i < 800) : decRow[i]? = some (.int .u8 0) := by
  have hz : (List.replicate 800 (Value.int .u8 0)).toArray.size = 800 := by rw [List.size_toArray, List.length_replicate]
  unfold decRow
  rw [Array.getElem?_append_left (by rw [hz]; exact h), List.getElem?_toArray, List.getElem?_replicate, if_pos h]
theorem dec_new (W : World) : DecAt (W.alloc (.cells decRow 213 (0, 0))) W.heap.size (fun _ => 0) 0 0 := by
  have hh := heap_alloc_new W (.cells decRow 213 (0, 0))
  refine ⟨fun i hi => cell_of_heap hh i (decRow_dig i hi), cell_of_heap hh 800 (by kernel_rfl), cell_of_heap hh 801 (by kernel_rfl), ⟨false, cell_of_heap hh 802 (by kernel_rfl)⟩, ⟨false, cell_of_heap hh 803 (by kernel_rfl)⟩, fun i => free_of_heap hh i⟩

theorem Kept.out {u v : World} {B b : Nat} (h : Kept B u v) (hB : u.heap.size ≤ B) : Kept b u v :=
  ⟨h.os, h.tape, h.output, h.size, fun k hk _ => h.block k hk (by omega)⟩
theorem Kept.old {u v : World} {B : Nat} (h : Kept B u v) (hB : u.heap.size ≤ B) {a : Addr} {x : Value} (hc : u.cell? a = some x) : v.cell? a = some x :=
  h.cell hc (by have := World.block_lt_of_cell? u a hc; omega)
theorem Kept.grown {u v : World} (b : Nat) (h : u.grownBy v none) : Kept b u v := ⟨h.os, h.tape, h.output, h.size, fun k hk _ => h.block k hk (by simp)⟩
theorem Kept.into {u v x : World} {B : Nat} (h : Kept B u v) (k : Kept v.heap.size v x) (hB : u.heap.size = B) : Kept B u x :=
  h.trans (k.out (Nat.le_refl _))

/-- The tables of floats. -/
structure FlT (w : World) : Prop where
  opt : ∃ y, w.cell? ⟨7, 0, none⟩ = some (.bool y)
  i64 : w.cell? ⟨8, 0, none⟩ = some (.int .u64 52) ∧ w.cell? ⟨8, 1, none⟩ = some (.int .u64 11) ∧ w.cell? ⟨8, 2, none⟩ = some (.int .i64 (-1023))
  i32 : w.cell? ⟨6, 0, none⟩ = some (.int .u64 23) ∧ w.cell? ⟨6, 1, none⟩ = some (.int .u64 8) ∧ w.cell? ⟨6, 2, none⟩ = some (.int .i64 (-127))
  p64 : ∃ T, PowT .f64 11 23 w T
  p32 : ∃ T, PowT .f32 9 11 w T
  p10 : ∀ p : Int, -348 ≤ p → p ≤ 347 → ∃ hi lo : Nat, hi < 18446744073709551616 ∧ lo < 18446744073709551616 ∧ w.cell? ⟨12, (p + 348).toNat * 2, none⟩ = some (.int .u64 hi) ∧ w.cell? ⟨12, (p + 348).toNat * 2 + 1, none⟩ = some (.int .u64 lo)
  ch : ∀ b, w.heap.size ≤ b → CheatT w b
  p9 : ∀ b, w.heap.size ≤ b → Pow9 w b
theorem PowT.kept {k : FloatKind} {v n : Nat} {w w' : World} {T : Nat → Nat} {B : Nat} (h : PowT k v n w T) (hK : Kept B w w') (hB : w.heap.size ≤ B) : PowT k v n w' T := by
  obtain ⟨g, o, cp, h1, h2⟩ := h.at_
  exact ⟨g, o, cp, hK.old hB h1, fun i hi => hK.old hB (h2 i hi)⟩
theorem FlT.kept {w w' : World} {B : Nat} (h : FlT w) (hK : Kept B w w') (hB : w.heap.size ≤ B) : FlT w' :=
  ⟨h.opt.imp fun _ a => hK.old hB a, ⟨hK.old hB h.i64.1, hK.old hB h.i64.2.1, hK.old hB h.i64.2.2⟩, ⟨hK.old hB h.i32.1, hK.old hB h.i32.2.1, hK.old hB h.i32.2.2⟩,
    h.p64.imp fun _ a => a.kept hK hB, h.p32.imp fun _ a => a.kept hK hB,
    fun p h1 h2 => by obtain ⟨hi, lo, a1, a2, a3, a4⟩ := h.p10 p h1 h2; exact ⟨hi, lo, a1, a2, hK.old hB a3, hK.old hB a4⟩,
    fun b hb => (h.ch b (Nat.le_trans hK.size hb)).kept (hK.out hB), fun b hb => (h.p9 b (Nat.le_trans hK.size hb)).kept (hK.out hB)⟩

theorem NumS.head {s : ByteArray} (h : NumS s) (i : Nat) : NumS (s.extract 0 i) := by
  intro j hj
  have h1 : (s.extract 0 i).size = min i s.size - 0 := ByteArray.size_extract
  have e : (s.extract 0 i)[j] = s[0 + j]'(by omega) := ByteArray.getElem_extract hj
  rw [e]
  exact h _ _
def ErrV (e : Value) : Prop := e = .nilIface ∨ e = .iface 170 (.int .i64 1) ∨ e = .iface 170 (.int .i64 2)
theorem rangeV_err (b : Bool) : ErrV (rangeV b) := by cases b; exact .inl rfl; exact .inr (.inl rfl)
/-- Some float, a place, nothing or one of two errors. -/
def FlPost (k : FloatKind) (s : ByteArray) (w : World) (e : Ending) (w' : World) : Prop :=
  ∃ (x : Nat) (n : Nat) (er : Value), e = .returned (.tuple #[.float k x, .int .i64 n, er]) ∧ n ≤ s.size ∧ ErrV er ∧ Kept w.heap.size w w'

def feq (k : FloatKind) (x y : Nat) : Bool := k.format.order x y == some .eq
theorem run_feq (k : FloatKind) (t : TypeId) (x y : Nat) (w : World) : (binOp .eql t (.float k x) (.float k y)).run Tryz.prog w = .ok (.bool (feq k x y)) w := by
  cases k <;> simp [binOp, Op.floatCmp, feq]
theorem results_three {fn : Func} {t u v : Tmp} (h : fn.results = #[.tmp t, .tmp u, .tmp v]) (tmps : Array Value) (P : Program) (w : World) :
    (results fn tmps).run P w = .ok (.tuple #[tmps.getD t undef, tmps.getD u undef, tmps.getD v undef]) w := by
  simp [results, h]
def PfPost (k : FloatKind) (w : World) (e : Ending) (w' : World) : Prop := ∃ (x : Nat) (r : Bool), e = .returned (.tuple #[.float k x, rangeV r]) ∧ Kept w.heap.size w w'
theorem pf64_any (W : World) (hF : FlT W) (d p sg : Int) (h0 : 0 < d) (h1 : d < 18446744073709551616) (hp0 : -348 ≤ p) (hp1 : p ≤ 347) : Calls Tryz.prog 181 #[.int .u64 d, .int .i64 p, .int .u64 sg] W (PfPost .f64 W) := by
  obtain ⟨n, rfl⟩ := Int.eq_ofNat_of_zero_le (show 0 ≤ d by omega)
  obtain ⟨hi, lo, a1, a2, a3, a4⟩ := hF.p10 p hp0 hp1
  exact (parseFloat64_any W n p sg hp0 hp1 (by omega) (by omega) hi lo a1 a2 a3 a4).mono fun e w' h => ⟨_, _, h.1, Kept.grown _ h.2⟩

theorem fb64_of (wc w3 : World) (hF : FlT wc) (hk : Kept wc.heap.size wc w3) (h : ∃ (f : Nat → Int) (nd : Nat) (dp : Int), DecAt w3 wc.heap.size f nd dp ∧ (nd = 0 ∨ DGood f nd)) :
    Calls Tryz.prog 177 #[.pointer (some ⟨wc.heap.size, 0, none⟩), .pointer (some ⟨8, 0, none⟩)] w3 (SomeFl wc.heap.size w3) := by
  obtain ⟨f, nd, dp, h1, h2⟩ := h
  have hb := World.block_lt_of_cell? wc _ hF.i64.1
  exact floatbits_64 wc.heap.size 8 f nd dp w3 h1 h2 ((hF.ch _ (Nat.le_refl _)).kept hk) ((hF.p9 _ (Nat.le_refl _)).kept hk)
    ⟨Nat.ne_of_lt hb, hk.old (Nat.le_refl _) hF.i64.1, hk.old (Nat.le_refl _) hF.i64.2.1, hk.old (Nat.le_refl _) hF.i64.2.2⟩

set_option maxHeartbeats 8000000 in
set_option maxRecDepth 100000 in
theorem atof64_any (s : ByteArray) (w : World) (hs : s.size ≤ 100000) (h0 : 0 < s.size) (hN : NumS s) (hF : FlT w) :
    Calls Tryz.prog 165 #[.string s] w (FlPost .f64 s w) := by
  have HS := Lib.hid (special_none s w hs h0 hN)
  have HR := Lib.hid (readFloat_any s w hs h0 hN)
  have HN := Lib.hid hN
  have HF := Lib.hid hF
  have HK0 := Lib.hid (Kept.refl w.heap.size w)
  obtain ⟨y, c7⟩ := hF.opt
  clear hN hF
  go_enter Tryz.func165, Tryz.ntmps165
  go_upto_if 46 with (first | (go_at_call 169; refine HS.out.mono ?_; rintro e w1 ⟨rfl, rfl⟩) | (go_at_call 170; refine HR.out.mono ?_; rintro e w1 ⟨m, exp, neg, tr, i, ok, rfl, hm0, hm1, he0, he1, hi, rfl⟩))
  cases ok
  · go_wp2
    all_goals (refine bodyPost_ret (v := .tuple #[.float .f64 0, .int .i64 i, .iface 170 (.int .i64 2)]) (by simp [results, Tryz.results165, go_sem]) rfl ⟨0, i, _, rfl, hi, .inr (.inr rfl), HK0.out⟩)
  go_upto_if 64 with fail
  go_cut [3, 4] from 65 to 124 (fun a3 a4 wx => a3 = .int .i64 i ∧ a4 = .nilIface ∧ Kept w.heap.size w wx)
  case first =>
    cases y
    · go_wp2_with fail
      go_meet
      exact ⟨rfl, rfl, HK0.out⟩
    have hfb := frombits_run
    obtain ⟨sg, hsg⟩ : ∃ sg, IntKind.u64.wrap (b2 neg * 9223372036854775808) = sg := ⟨_, rfl⟩
    by_cases hmz : m = 0
    · subst hmz
      go_wp2_with (go_at_call 178; refine (bool2_any _ _).mono ?_; rintro e w1 ⟨rfl, rfl⟩)
      all_goals (exact bodyPost_ret (results_three rfl _ _ _) rfl ⟨_, i, _, rfl, hi, .inl rfl, HK0.out⟩)
    have g0 : (m == 0) = false := beq_eq_false_iff_ne.2 hmz
    by_cases h310 : 310 < exp
    · go_wp2_with (go_at_call 178; refine (bool2_any _ _).mono ?_; rintro e w1 ⟨rfl, rfl⟩)
      all_goals (exact bodyPost_ret (results_three rfl _ _ _) rfl ⟨_, i, _, rfl, hi, .inr (.inl rfl), HK0.out⟩)
    by_cases h345 : exp < -345
    · go_wp2_with (go_at_call 178; refine (bool2_any _ _).mono ?_; rintro e w1 ⟨rfl, rfl⟩)
      all_goals (exact bodyPost_ret (results_three rfl _ _ _) rfl ⟨_, i, _, rfl, hi, .inl rfl, HK0.out⟩)
    have hw1 : IntKind.u64.wrap (m + 1) = m + 1 := u64_id _ (by omega) (by omega)
    cases tr
    · have HX : Hid (Calls Tryz.prog 180 #[.int .u64 m, .int .i64 exp, .bool neg] w (SomeFB .f64 w)) := by
        obtain ⟨T, hT⟩ := HF.out.p64
        exact exact64_any w m exp neg HF.out.i64.1 T hT
      have HP1 := Lib.hid (fun n => pf64_any (w.drewN n) (HF.out.kept (HK0.out.drewN n) (Nat.le_refl _)) m exp sg (by omega) (by omega) (by omega) (by omega))
      go_wp2_with (first
        | (go_at_call 178; refine (bool2_any _ _).mono ?_; rintro e w1 ⟨rfl, rfl⟩)
        | (go_at_call 180; refine HX.out.mono ?_; rintro e w1 ⟨f, ok, n, rfl, rfl⟩; cases ok)
        | (go_at_call 181; refine (HP1.out _).mono ?_; rintro e w1 ⟨f, r, rfl, hk⟩; have HKA := Lib.hid hk; have HRE := Lib.hid (rangeV_err r); clear hk))
      all_goals first
        | exact bodyPost_ret (results_three rfl _ _ _) rfl ⟨_, i, _, rfl, hi, HRE.out, (HK0.out.drewN _).trans HKA.out⟩
        | exact bodyPost_ret (results_three rfl _ _ _) rfl ⟨_, i, _, rfl, hi, .inl rfl, HK0.out.drewN _⟩
    · have HP1 := Lib.hid (pf64_any w HF.out m exp sg (by omega) (by omega) (by omega) (by omega))
      have hfq := run_feq .f64
      have HP2 : Hid (∀ W, Kept w.heap.size w W → Calls Tryz.prog 181 #[.int .u64 (m + 1), .int .i64 exp, .int .u64 sg] W (PfPost .f64 W)) := fun W hW =>
        pf64_any W (HF.out.kept hW (Nat.le_refl _)) (m + 1) exp sg (by omega) (by omega) (by omega) (by omega)
      go_wp2_with (first
        | (go_at_call 178; refine (bool2_any _ _).mono ?_; rintro e w1 ⟨rfl, rfl⟩)
        | (go_at_call 181; refine (HP2.out _ HKA.out).mono ?_; rintro e w2 ⟨f2, r2, rfl, hk⟩; have HKB := Lib.hid (HKA.out.into hk rfl); clear hk)
        | (go_at_call 181; refine HP1.out.mono ?_; rintro e w1 ⟨f, r, rfl, hk⟩; have HKA := Lib.hid hk; have HRE := Lib.hid (rangeV_err r); clear hk))
      all_goals first
        | (go_meet; exact ⟨rfl, rfl, HKB.out⟩)
        | exact bodyPost_ret (results_three rfl _ _ _) rfl ⟨_, i, _, rfl, hi, HRE.out, HKB.out⟩
  case rest =>
    obtain ⟨rfl, rfl, hcut⟩ := hcut
    have HKC := Lib.hid hcut
    have HNS := Lib.hid (NumS.head HN.out i)
    clear hcut
    have hes : (s.extract 0 i).size ≤ 100000 := by rw [ByteArray.size_extract]; omega
    have HST := Lib.hid (set_any wc.heap.size (s.extract 0 i) (fun _ => 0) (wc.alloc (.cells decRow 213 (0, 0))) (dec_new wc) hes HNS.out)
    have HFW := Lib.hid (HF.out.kept HKC.out (Nat.le_refl _))
    have hal := alloc_dec wc
    have hfb := frombits_run
    clear hes
    go_wp2_with (first
      | (go_at_call 176; refine HST.out.mono ?_; rintro e w3 ⟨ok, rfl, hd, hk⟩; have HD3 := Lib.hid hd; have HK3 := Lib.hid (((Kept.refl wc.heap.size wc).alloc _).trans hk); clear hd hk; cases ok)
      | (go_at_call 177; refine (fb64_of wc w3 HFW.out HK3.out (HD3.out (by trivial))).mono ?_; rintro e w4 ⟨y, o, rfl, hk⟩; have HK4 := Lib.hid (HKC.out.into (HK3.out.trans hk) rfl); clear hk; cases o))
    all_goals first
      | exact bodyPost_ret (results_three rfl _ _ _) rfl ⟨_, i, _, rfl, hi, .inl rfl, HK4.out⟩
      | exact bodyPost_ret (results_three rfl _ _ _) rfl ⟨_, i, _, rfl, hi, .inr (.inl rfl), HK4.out⟩
      | exact bodyPost_ret (results_three rfl _ _ _) rfl ⟨_, i, _, rfl, hi, .inr (.inr rfl), HKC.out.into HK3.out rfl⟩
      | trace_state
end Go.Proofs.YtaecbclonmhbcaaGreatDoor

/- internal/strconv.atof32 over bytes of numbers. -/
namespace Go.Proofs.YtaecbclonmhbcaaGreatDoor
open Go.RowKit

set_option maxHeartbeats 1000000 in
theorem bool2s_any (b : Bool) (w : World) : Calls Tryz.prog 172 #[.bool b] w fun e w' => e = .returned (.int .u32 (b2 b)) ∧ w = w' := by
  cases b
  · go_enter Tryz.func172, Tryz.ntmps172
    go_wp2
    go_ret
    exact ⟨rfl, rfl⟩
  · go_enter Tryz.func172, Tryz.ntmps172
    go_wp2
    go_ret
    exact ⟨rfl, rfl⟩
theorem pf32_any (W : World) (hF : FlT W) (d p sg : Int) (h0 : 0 < d) (h1 : d < 18446744073709551616) (hp0 : -348 ≤ p) (hp1 : p ≤ 347) : Calls Tryz.prog 175 #[.int .u64 d, .int .i64 p, .int .u32 sg] W (PfPost .f32 W) := by
  obtain ⟨n, rfl⟩ := Int.eq_ofNat_of_zero_le (show 0 ≤ d by omega)
  obtain ⟨hi, lo, a1, a2, a3, a4⟩ := hF.p10 p hp0 hp1
  exact (parseFloat32_any W n p sg hp0 hp1 (by omega) (by omega) hi lo a1 a2 a3 a4).mono fun e w' h => ⟨_, _, h.1, Kept.grown _ h.2⟩
theorem fb32_of (wc w3 : World) (hF : FlT wc) (hk : Kept wc.heap.size wc w3) (h : ∃ (f : Nat → Int) (nd : Nat) (dp : Int), DecAt w3 wc.heap.size f nd dp ∧ (nd = 0 ∨ DGood f nd)) :
    Calls Tryz.prog 177 #[.pointer (some ⟨wc.heap.size, 0, none⟩), .pointer (some ⟨6, 0, none⟩)] w3 (SomeFl wc.heap.size w3) := by
  obtain ⟨f, nd, dp, h1, h2⟩ := h
  have hb := World.block_lt_of_cell? wc _ hF.i32.1
  exact floatbits_32 wc.heap.size 6 f nd dp w3 h1 h2 ((hF.ch _ (Nat.le_refl _)).kept hk) ((hF.p9 _ (Nat.le_refl _)).kept hk)
    ⟨Nat.ne_of_lt hb, hk.old (Nat.le_refl _) hF.i32.1, hk.old (Nat.le_refl _) hF.i32.2.1, hk.old (Nat.le_refl _) hF.i32.2.2⟩

set_option maxHeartbeats 8000000 in
set_option maxRecDepth 100000 in
theorem atof32_any (s : ByteArray) (w : World) (hs : s.size ≤ 100000) (h0 : 0 < s.size) (hN : NumS s) (hF : FlT w) :
    Calls Tryz.prog 164 #[.string s] w (FlPost .f32 s w) := by
  have HS := Lib.hid (special_none s w hs h0 hN)
  have HR := Lib.hid (readFloat_any s w hs h0 hN)
  have HN := Lib.hid hN
  have HF := Lib.hid hF
  have HK0 := Lib.hid (Kept.refl w.heap.size w)
  obtain ⟨y, c7⟩ := hF.opt
  clear hN hF
  go_enter Tryz.func164, Tryz.ntmps164
  go_upto_if 47 with (first | (go_at_call 169; refine HS.out.mono ?_; rintro e w1 ⟨rfl, rfl⟩) | (go_at_call 170; refine HR.out.mono ?_; rintro e w1 ⟨m, exp, neg, tr, i, ok, rfl, hm0, hm1, he0, he1, hi, rfl⟩))
  cases ok
  · go_wp2
    all_goals (refine bodyPost_ret (v := .tuple #[.float .f32 0, .int .i64 i, .iface 170 (.int .i64 2)]) (by simp [results, Tryz.results164, go_sem]) rfl ⟨0, i, _, rfl, hi, .inr (.inr rfl), HK0.out⟩)
  go_upto_if 66 with fail
  go_cut [3, 4] from 67 to 126 (fun a3 a4 wx => a3 = .int .i64 i ∧ a4 = .nilIface ∧ Kept w.heap.size w wx)
  case first =>
    cases y
    · go_wp2_with fail
      go_meet
      exact ⟨rfl, rfl, HK0.out⟩
    have hfb := frombits32_run
    obtain ⟨sg, hsg⟩ : ∃ sg, IntKind.u32.wrap (b2 neg * 2147483648) = sg := ⟨_, rfl⟩
    by_cases hmz : m = 0
    · subst hmz
      go_wp2_with (go_at_call 172; refine (bool2s_any _ _).mono ?_; rintro e w1 ⟨rfl, rfl⟩)
      all_goals (exact bodyPost_ret (results_three rfl _ _ _) rfl ⟨_, i, _, rfl, hi, .inl rfl, HK0.out⟩)
    have g0 : (m == 0) = false := beq_eq_false_iff_ne.2 hmz
    by_cases h310 : 40 < exp
    · go_wp2_with (go_at_call 172; refine (bool2s_any _ _).mono ?_; rintro e w1 ⟨rfl, rfl⟩)
      all_goals (exact bodyPost_ret (results_three rfl _ _ _) rfl ⟨_, i, _, rfl, hi, .inr (.inl rfl), HK0.out⟩)
    by_cases h345 : exp < -70
    · go_wp2_with (go_at_call 172; refine (bool2s_any _ _).mono ?_; rintro e w1 ⟨rfl, rfl⟩)
      all_goals (exact bodyPost_ret (results_three rfl _ _ _) rfl ⟨_, i, _, rfl, hi, .inl rfl, HK0.out⟩)
    have hw1 : IntKind.u64.wrap (m + 1) = m + 1 := u64_id _ (by omega) (by omega)
    cases tr
    · have HX : Hid (Calls Tryz.prog 174 #[.int .u64 m, .int .i64 exp, .bool neg] w (SomeFB .f32 w)) := by
        obtain ⟨T, hT⟩ := HF.out.p32
        exact exact32_any w m exp neg T hT
      have HP1 := Lib.hid (fun n => pf32_any (w.drewN n) (HF.out.kept (HK0.out.drewN n) (Nat.le_refl _)) m exp sg (by omega) (by omega) (by omega) (by omega))
      go_wp2_with (first
        | (go_at_call 172; refine (bool2s_any _ _).mono ?_; rintro e w1 ⟨rfl, rfl⟩)
        | (go_at_call 174; refine HX.out.mono ?_; rintro e w1 ⟨f, ok, n, rfl, rfl⟩; cases ok)
        | (go_at_call 175; refine (HP1.out _).mono ?_; rintro e w1 ⟨f, r, rfl, hk⟩; have HKA := Lib.hid hk; have HRE := Lib.hid (rangeV_err r); clear hk))
      all_goals first
        | exact bodyPost_ret (results_three rfl _ _ _) rfl ⟨_, i, _, rfl, hi, HRE.out, (HK0.out.drewN _).trans HKA.out⟩
        | exact bodyPost_ret (results_three rfl _ _ _) rfl ⟨_, i, _, rfl, hi, .inl rfl, HK0.out.drewN _⟩
    · have HP1 := Lib.hid (pf32_any w HF.out m exp sg (by omega) (by omega) (by omega) (by omega))
      have hfq := run_feq .f32
      have HP2 : Hid (∀ W, Kept w.heap.size w W → Calls Tryz.prog 175 #[.int .u64 (m + 1), .int .i64 exp, .int .u32 sg] W (PfPost .f32 W)) := fun W hW =>
        pf32_any W (HF.out.kept hW (Nat.le_refl _)) (m + 1) exp sg (by omega) (by omega) (by omega) (by omega)
      go_wp2_with (first
        | (go_at_call 172; refine (bool2s_any _ _).mono ?_; rintro e w1 ⟨rfl, rfl⟩)
        | (go_at_call 175; refine (HP2.out _ HKA.out).mono ?_; rintro e w2 ⟨f2, r2, rfl, hk⟩; have HKB := Lib.hid (HKA.out.into hk rfl); clear hk)
        | (go_at_call 175; refine HP1.out.mono ?_; rintro e w1 ⟨f, r, rfl, hk⟩; have HKA := Lib.hid hk; have HRE := Lib.hid (rangeV_err r); clear hk))
      all_goals first
        | (go_meet; exact ⟨rfl, rfl, HKB.out⟩)
        | exact bodyPost_ret (results_three rfl _ _ _) rfl ⟨_, i, _, rfl, hi, HRE.out, HKB.out⟩
  case rest =>
    obtain ⟨rfl, rfl, hcut⟩ := hcut
    have HKC := Lib.hid hcut
    have HNS := Lib.hid (NumS.head HN.out i)
    clear hcut
    have hes : (s.extract 0 i).size ≤ 100000 := by rw [ByteArray.size_extract]; omega
    have HST := Lib.hid (set_any wc.heap.size (s.extract 0 i) (fun _ => 0) (wc.alloc (.cells decRow 213 (0, 0))) (dec_new wc) hes HNS.out)
    have HFW := Lib.hid (HF.out.kept HKC.out (Nat.le_refl _))
    have hal := alloc_dec wc
    have hfb := frombits32_run
    clear hes
    go_wp2_with (first
      | (go_at_call 176; refine HST.out.mono ?_; rintro e w3 ⟨ok, rfl, hd, hk⟩; have HD3 := Lib.hid hd; have HK3 := Lib.hid (((Kept.refl wc.heap.size wc).alloc _).trans hk); clear hd hk; cases ok)
      | (go_at_call 177; refine (fb32_of wc w3 HFW.out HK3.out (HD3.out (by trivial))).mono ?_; rintro e w4 ⟨y, o, rfl, hk⟩; have HK4 := Lib.hid (HKC.out.into (HK3.out.trans hk) rfl); clear hk; cases o))
    all_goals first
      | exact bodyPost_ret (results_three rfl _ _ _) rfl ⟨_, i, _, rfl, hi, .inl rfl, HK4.out⟩
      | exact bodyPost_ret (results_three rfl _ _ _) rfl ⟨_, i, _, rfl, hi, .inr (.inl rfl), HK4.out⟩
      | exact bodyPost_ret (results_three rfl _ _ _) rfl ⟨_, i, _, rfl, hi, .inr (.inr rfl), HKC.out.into HK3.out rfl⟩
      | trace_state
end Go.Proofs.YtaecbclonmhbcaaGreatDoor
