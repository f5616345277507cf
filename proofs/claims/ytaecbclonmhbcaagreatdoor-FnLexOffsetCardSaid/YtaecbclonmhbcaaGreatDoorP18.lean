/- internal/strconv.decimal's floatBits for float32. Printed by gen_dcf.py. -/
import Derived.Test.YtaecbclonmhbcaaGreatDoorP17
set_option linter.unusedVariables false
set_option linter.unusedSimpArgs false
namespace Go.Proofs.YtaecbclonmhbcaaGreatDoor
open Go.RowKit
set_option maxHeartbeats 8000000 in
set_option maxRecDepth 100000 in
theorem floatbits_32 (b gf : Nat) (f : Nat → Int) (nd : Nat) (dp : Int) (w : World) (h : DecAt w b f nd dp) (hG : nd = 0 ∨ DGood f nd) (hT : CheatT w b) (hP : Pow9 w b) (hI : FInfo w b gf 23 8 (-127)) :
    Calls Tryz.prog 177 #[.pointer (some ⟨b, 0, none⟩), .pointer (some ⟨gf, 0, none⟩)] w (SomeFl b w) := by
  have H := Lib.hid h
  have HG := Lib.hid hG
  have HT := Lib.hid hT
  have HP := Lib.hid hP
  have HI := Lib.hid hI
  have c1 := h.nd
  have c2 := h.dp
  have i0 := hI.c0
  have i1 := hI.c1
  have i2 := hI.c2
  obtain ⟨ng, cn⟩ := h.neg
  have HK0 := Lib.hid (Kept.refl b w)
  clear h hG hT hP hI
  go_enter Tryz.func177, Tryz.ntmps177
  go_wp2
  apply wp_scope_fwd
  intro Qf hgo hret
  have G0 := Lib.hid (fun a w => hgo 0 _ a w rfl)
  have G1 := Lib.hid (fun a w => hgo 1 _ a w rfl)
  have GR := Lib.hid hret
  clear hgo hret
  by_cases hnd : nd = 0
  · subst hnd
    go_wp2
    go_step3
    (try simp only [Exit.then, Exit.inBlock])
    apply G0.out
    go_wp2
    go_quiet (fail)
    go_wp2
    · go_quiet (fail)
      go_wp2
      (try rw [Exit.noGoto_ret])
      go_ret2
      exact ⟨_, _, rfl, by first | exact HK0.out | exact HK0.out.drewN _ | exact (HK0.out.drewN _).drewN _ | exact ((HK0.out.drewN _).drewN _).drewN _ | exact (((HK0.out.drewN _).drewN _).drewN _).drewN _ | exact ((((HK0.out.drewN _).drewN _).drewN _).drewN _).drewN _⟩
    · (try rw [Exit.noGoto_ret])
      go_ret2
      exact ⟨_, _, rfl, by first | exact HK0.out | exact HK0.out.drewN _ | exact (HK0.out.drewN _).drewN _ | exact ((HK0.out.drewN _).drewN _).drewN _ | exact (((HK0.out.drewN _).drewN _).drewN _).drewN _ | exact ((((HK0.out.drewN _).drewN _).drewN _).drewN _).drewN _⟩
  have h1 : DGood f nd := HG.out.resolve_left hnd
  have g0 : ((nd : Int) == 0) = false := beq_eq_false_iff_ne.2 (by omega)
  by_cases h310 : 310 < dp
  · go_wp2
    go_step3
    (try simp only [Exit.then, Exit.inBlock])
    apply G1.out
    go_wp2
    go_quiet (fail)
    go_wp2
    go_step3
    go_wp2
    go_quiet (fail)
    go_wp2
    · go_quiet (fail)
      go_wp2
      (try rw [Exit.noGoto_ret])
      go_ret2
      exact ⟨_, _, rfl, by first | exact HK0.out | exact HK0.out.drewN _ | exact (HK0.out.drewN _).drewN _ | exact ((HK0.out.drewN _).drewN _).drewN _ | exact (((HK0.out.drewN _).drewN _).drewN _).drewN _ | exact ((((HK0.out.drewN _).drewN _).drewN _).drewN _).drewN _⟩
    · (try rw [Exit.noGoto_ret])
      go_ret2
      exact ⟨_, _, rfl, by first | exact HK0.out | exact HK0.out.drewN _ | exact (HK0.out.drewN _).drewN _ | exact ((HK0.out.drewN _).drewN _).drewN _ | exact (((HK0.out.drewN _).drewN _).drewN _).drewN _ | exact ((((HK0.out.drewN _).drewN _).drewN _).drewN _).drewN _⟩
  by_cases h330 : dp < -330
  · go_wp2
    go_step3
    (try simp only [Exit.then, Exit.inBlock])
    apply G0.out
    go_wp2
    go_quiet (fail)
    go_wp2
    · go_quiet (fail)
      go_wp2
      (try rw [Exit.noGoto_ret])
      go_ret2
      exact ⟨_, _, rfl, by first | exact HK0.out | exact HK0.out.drewN _ | exact (HK0.out.drewN _).drewN _ | exact ((HK0.out.drewN _).drewN _).drewN _ | exact (((HK0.out.drewN _).drewN _).drewN _).drewN _ | exact ((((HK0.out.drewN _).drewN _).drewN _).drewN _).drewN _⟩
    · (try rw [Exit.noGoto_ret])
      go_ret2
      exact ⟨_, _, rfl, by first | exact HK0.out | exact HK0.out.drewN _ | exact (HK0.out.drewN _).drewN _ | exact ((HK0.out.drewN _).drewN _).drewN _ | exact (((HK0.out.drewN _).drewN _).drewN _).drewN _ | exact ((((HK0.out.drewN _).drewN _).drewN _).drewN _).drewN _⟩
  have HG1 := Lib.hid h1
  clear h1 hnd
  go_upto_block 0 with fail
  clear c1 c2 g0 cn
  go_cut [6] from 35 to 60 (fun a6 wx => ∃ (x : Int) (f : Nat → Int) (nd : Nat) (dp : Int), a6 = .int .i64 x ∧ DecAt wx b f nd dp ∧ DGood f nd ∧ dp ≤ 0 ∧ -4611686018427387904 ≤ dp ∧ Kept b w wx)
  case first =>
    go_wp2
    go_loopg [6] (mu1 dp (f 0)) (fun gk v6 wr => ∃ (x : Int) (f : Nat → Int) (nd : Nat) (dp : Int), gk = mu1 dp (f 0) ∧ v6 = .int .i64 x ∧ DecAt wr b f nd dp ∧ DGood f nd ∧ dp ≤ 310 ∧ -4611686018427387904 ≤ dp ∧ Kept b w wr)
    case atStart => exact ⟨0, f, nd, dp, rfl, rfl, H.out, HG1.out, by omega, by omega, HK0.out⟩
    case round =>
      clear h310 h330
      obtain ⟨x, f, nd, dp, hgk, rfl, hd, hG, hd1, hd2, hK⟩ := hrel
      have A1 := Lib.hid hd
      have A2 := Lib.hid hG
      have A3 := Lib.hid hK
      have A4 := Lib.hid hgk
      have c2 := hd.dp
      obtain ⟨n10, g, o, cp, hgb, t1, t2, t3⟩ := HP.out.kept hK
      have HP3 := Lib.hid t3
      have hh1 := hG.head
      have hh2 := (hG.dig 0 hG.pos).2
      clear hd hG hK hgk t3
      by_cases hpos : 0 < dp
      case neg =>
        go_wp2
        go_meet
        exact ⟨x, f, nd, dp, rfl, A1.out, A2.out, by omega, hd2, A3.out⟩
      case pos =>
        obtain ⟨j, rfl⟩ : ∃ j : Nat, dp = (j : Int) := ⟨dp.toNat, by omega⟩
        have hstep : Hid (∀ (g : Nat → Int) (r : Int), 49 ≤ g 0 → g 0 ≤ 57 → 1 ≤ r → r ≤ 2305843009213693952 → (r = 1 → g 0 < f 0) → mu1 (IntKind.i64.wrap ((j : Int) - (r - 1))) (g 0) < mu1 j (f 0) ∧ IntKind.i64.wrap ((j : Int) - (r - 1)) ≤ 310 ∧ -4611686018427387904 ≤ IntKind.i64.wrap ((j : Int) - (r - 1))) := fun g r h1 h2 h3 h4 h5 => by
          have e : IntKind.i64.wrap ((j : Int) - (r - 1)) = (j : Int) - (r - 1) := by rw [IntKind.wrap_i64]; omega
          rw [e]
          refine ⟨?_, by omega, by omega⟩
          unfold mu1
          rw [if_pos hpos]
          by_cases hr : r = 1
          · have := h5 hr
            subst hr
            rw [if_pos (by omega)]
            omega
          · split <;> omega
        by_cases h9 : 9 ≤ j
        · have h9' : (9 : Int) ≤ j := by omega
          have HS := Lib.hid (fun n => shift_right b f nd j 27 (wr.drewN n) (A1.out.drewN n) A2.out (by decide) (by decide))
          go_wp2
          go_quiet (fail)
          go_wp2_with (go_at_call 206; refine (HS.out _).mono ?_; rintro e w1 ⟨rfl, f1, nd1, r, d1, d2, d3, d4, d5, d6⟩)
          have hs := hstep.out f1 r d2.head (d2.dig 0 d2.pos).2 d3 d4 d5
          go_roundg (mu1 (IntKind.i64.wrap ((j : Int) - (r - 1))) (f1 0))
          case measure => rw [A4.out]; exact hs.1
          case rel => exact ⟨_, f1, nd1, _, rfl, rfl, d1, d2, hs.2.1, hs.2.2, (A3.out.drewN _).trans d6⟩
        · have h9' : ¬ (9 : Int) ≤ j := by omega
          obtain ⟨n, hn1, hn2, cj⟩ := HP3.out j (by omega)
          have HS := Lib.hid (fun m => shift_right b f nd j n (wr.drewN m) (A1.out.drewN m) A2.out hn1 (by omega))
          go_wp2
          go_quiet (fail)
          go_wp2
          go_quiet (fail)
          go_wp2_with (go_at_call 206; (try rw [World.drewN_drewN]); refine (HS.out _).mono ?_; rintro e w1 ⟨rfl, f1, nd1, r, d1, d2, d3, d4, d5, d6⟩)
          have hs := hstep.out f1 r d2.head (d2.dig 0 d2.pos).2 d3 d4 d5
          go_roundg (mu1 (IntKind.i64.wrap ((j : Int) - (r - 1))) (f1 0))
          case measure => rw [A4.out]; exact hs.1
          case rel => exact ⟨_, f1, nd1, _, rfl, rfl, d1, d2, hs.2.1, hs.2.2, (A3.out.drewN _).trans d6⟩
  case rest =>
    clear H HG HG1 h310 h330
    obtain ⟨x, f, nd, dp, rfl, hd, hG, hd0, hd1, hK⟩ := hcut
    have H := Lib.hid hd
    have HG1 := Lib.hid hG
    have HK1 := Lib.hid hK
    clear hd hG hK
    go_upto_block 2 with fail
    go_cut [6] from 61 to 102 (fun a6 wx => ∃ x : Int, a6 = .int .i64 x ∧ DecSome wx b ∧ Kept b w wx)
    case first =>
      go_wp2
      go_loopg [6] (mu2 dp (f 0)) (fun gk v6 wr => ∃ (x : Int) (f : Nat → Int) (nd : Nat) (dp : Int), gk = mu2 dp (f 0) ∧ v6 = .int .i64 x ∧ DecAt wr b f nd dp ∧ DGood f nd ∧ dp ≤ 100 ∧ -4611686018427387904 ≤ dp ∧ Kept b w wr)
      case atStart => exact ⟨x, f, nd, dp, rfl, rfl, H.out, HG1.out, by omega, by omega, HK1.out⟩
      case round =>
        clear hd0 hd1 HG1
        obtain ⟨x, f, nd, dp, hgk, rfl, hd, hG, hd1, hd2, hK⟩ := hrel
        have A1 := Lib.hid hd
        have A2 := Lib.hid hG
        have A3 := Lib.hid hK
        have A4 := Lib.hid hgk
        have c2 := hd.dp
        have c3 := hd.dig 0 (by decide)
        obtain ⟨n10, g, o, cp, hgb, t1, t2, t3⟩ := HP.out.kept hK
        have HP3 := Lib.hid t3
        have HTC := Lib.hid (HT.out.kept hK)
        have hh1 := hG.head
        have hh2 := (hG.dig 0 hG.pos).2
        clear hd hG hK hgk t3
        have hstep : Hid ((dp < 0 ∨ (dp = 0 ∧ f 0 < 53)) → ∀ (g : Nat → Int) (t : Nat), 49 ≤ g 0 → g 0 ≤ 57 → t ≤ 20 → (t = 0 → f 0 < g 0) → mu2 (IntKind.i64.wrap (dp + t)) (g 0) < mu2 dp (f 0) ∧ IntKind.i64.wrap (dp + t) ≤ 100 ∧ -4611686018427387904 ≤ IntKind.i64.wrap (dp + t)) := fun hc g t h1 h2 h3 h4 => by
          have e : IntKind.i64.wrap (dp + t) = dp + t := by rw [IntKind.wrap_i64]; omega
          rw [e]
          refine ⟨?_, by omega, by omega⟩
          unfold mu2
          rw [if_pos hc]
          by_cases ht : t = 0
          · have := h4 ht
            subst ht
            split <;> omega
          · split <;> omega
        rcases Int.lt_trichotomy dp 0 with hneg | hneg | hneg
        · obtain ⟨j, e2⟩ : ∃ j : Nat, -dp = (j : Int) := ⟨(-dp).toNat, by omega⟩
          have e0 : IntKind.i64.wrap (-dp) = j := by rw [IntKind.wrap_i64]; omega
          by_cases h9 : 9 ≤ j
          · have h9' : (9 : Int) ≤ j := by omega
            have HS := Lib.hid (fun n => shift_left b f nd dp 27 (wr.drewN n) (A1.out.drewN n) (HTC.out.kept ((Kept.refl b wr).drewN n)) A2.out (by decide) (by decide))
            go_wp2
            go_quiet (fail)
            go_wp2_with (go_at_call 206; refine (HS.out _).mono ?_; rintro e w1 ⟨rfl, f1, nd1, r, d1, d2, d3, d4, d6⟩)
            have hs := hstep.out (.inl hneg) f1 r d2.head (d2.dig 0 d2.pos).2 d3 d4
            go_roundg (mu2 (IntKind.i64.wrap (dp + r)) (f1 0))
            case measure => rw [A4.out]; exact hs.1
            case rel => exact ⟨_, f1, nd1, _, rfl, rfl, d1, d2, hs.2.1, hs.2.2, (A3.out.drewN _).trans d6⟩
          · have h9' : ¬ (9 : Int) ≤ j := by omega
            obtain ⟨n, hn1, hn2, cj⟩ := HP3.out j (by omega)
            have HS := Lib.hid (fun m => shift_left b f nd dp n (wr.drewN m) (A1.out.drewN m) (HTC.out.kept ((Kept.refl b wr).drewN m)) A2.out hn1 (by omega))
            go_wp2
            go_quiet (fail)
            go_wp2
            go_quiet (fail)
            go_wp2_with (go_at_call 206; (try rw [World.drewN_drewN]); refine (HS.out _).mono ?_; rintro e w1 ⟨rfl, f1, nd1, r, d1, d2, d3, d4, d6⟩)
            have hs := hstep.out (.inl hneg) f1 r d2.head (d2.dig 0 d2.pos).2 d3 d4
            go_roundg (mu2 (IntKind.i64.wrap (dp + r)) (f1 0))
            case measure => rw [A4.out]; exact hs.1
            case rel => exact ⟨_, f1, nd1, _, rfl, rfl, d1, d2, hs.2.1, hs.2.2, (A3.out.drewN _).trans d6⟩
        · subst hneg
          by_cases h53 : f 0 < 53
          · obtain ⟨n, hn1, hn2, cj⟩ := HP3.out 0 (by decide)
            rw [Nat.add_zero] at cj
            have HS := Lib.hid (fun m => shift_left b f nd 0 n (wr.drewN m) (A1.out.drewN m) (HTC.out.kept ((Kept.refl b wr).drewN m)) A2.out hn1 (by omega))
            go_wp2
            go_quiet (fail)
            go_wp2
            go_quiet (fail)
            go_wp2_with (go_at_call 206; (try rw [World.drewN_drewN]); refine (HS.out _).mono ?_; rintro e w1 ⟨rfl, f1, nd1, r, d1, d2, d3, d4, d6⟩)
            have hs := hstep.out (.inr ⟨by first | rfl | trivial, h53⟩) f1 r d2.head (d2.dig 0 d2.pos).2 d3 d4
            go_roundg (mu2 (IntKind.i64.wrap (0 + r)) (f1 0))
            case measure => rw [A4.out]; exact hs.1
            case rel => exact ⟨_, f1, nd1, _, rfl, rfl, d1, d2, hs.2.1, hs.2.2, (A3.out.drewN _).trans d6⟩
          · go_wp2
            go_meet
            exact ⟨x, rfl, ⟨f, nd, 0, A1.out, A2.out⟩, A3.out⟩
        · have g1 : ¬ dp < 0 := by omega
          have g2 : (dp == 0) = false := beq_eq_false_iff_ne.2 (by omega)
          go_wp2
          go_meet
          exact ⟨x, rfl, ⟨f, nd, dp, A1.out, A2.out⟩, A3.out⟩
    case rest =>
      clear H HG1 HK1 i0 i1 i2 hd0 hd1
      obtain ⟨x, rfl, hd, hK⟩ := hcut
      have HD1 := Lib.hid hd
      have HK1 := Lib.hid hK
      have HI1 := HI.out.kept hK
      have i0 := HI1.c0
      have i1 := HI1.c1
      have i2 := HI1.c2
      have HT1 := Lib.hid (HT.out.kept hK)
      clear hd hK HI1
      go_upto_if 111 with fail
      go_cut [6] from 105 to 125 (fun a6 wx => ∃ x : Int, a6 = .int .i64 x ∧ DecSome wx b ∧ Kept b w wx)
      case first =>
        go_wp2_with (go_at_call 206; refine (shift_any b _ _ HD1.out HT1.out (by first | exact (wrap64_range _).1 | trace_state) (by first | exact (wrap64_range _).2 | trace_state)).mono ?_; rintro e w1 ⟨rfl, d1, d2⟩)
        · go_meet
          exact ⟨_, rfl, d1, HK1.out.trans d2⟩
        · go_meet
          exact ⟨_, rfl, HD1.out, HK1.out⟩
      case rest =>
        clear HD1 HK1 HT1 i0 i1 i2
        obtain ⟨x, rfl, hd, hK⟩ := hcut
        have HD1 := Lib.hid hd
        have HK1 := Lib.hid hK
        have HI1 := HI.out.kept hK
        have i0 := HI1.c0
        have i1 := HI1.c1
        have i2 := HI1.c2
        have HT1 := Lib.hid (HT.out.kept hK)
        obtain ⟨ng1, cn⟩ := hd.neg
        clear hd hK HI1
        have HS := Lib.hid (fun n => shift_any b 24 (wc.drewN n) (HD1.out.drewN n) (HT1.out.kept ((Kept.refl b wc).drewN n)) (by decide) (by decide))
        clear HD1 HT1
        go_wp2
        go_quiet (fail)
        go_wp2_with (first
          | (go_at_call 206; refine (HS.out _).mono ?_; rintro e w1 ⟨rfl, d1, d2⟩; clear cn i0 i1 i2; have HR := Lib.hid (rounded_any b w1 d1); have HK2 := Lib.hid ((HK1.out.drewN _).trans d2); have HI2 := HI.out.kept ((HK1.out.drewN _).trans d2); have i0 := HI2.c0; have i1 := HI2.c1; have i2 := HI2.c2; obtain ⟨ng', cn⟩ := d1.neg; clear d1 d2 HI2)
          | (go_at_call 207; refine HR.out.mono ?_; rintro e w2 ⟨y, m, rfl, rfl⟩))
        · go_step3
          (try simp only [Exit.then, Exit.inBlock])
          apply G1.out
          go_wp2
          go_quiet (fail)
          go_wp2
          go_step3
          go_wp2
          go_quiet (fail)
          go_wp2
          · go_quiet (fail)
            go_wp2
            (try rw [Exit.noGoto_ret])
            go_ret2
            exact ⟨_, _, rfl, by first | exact HK1.out | exact HK1.out.drewN _ | exact (HK1.out.drewN _).drewN _ | exact ((HK1.out.drewN _).drewN _).drewN _ | exact (((HK1.out.drewN _).drewN _).drewN _).drewN _ | exact ((((HK1.out.drewN _).drewN _).drewN _).drewN _).drewN _⟩
          · (try rw [Exit.noGoto_ret])
            go_ret2
            exact ⟨_, _, rfl, by first | exact HK1.out | exact HK1.out.drewN _ | exact (HK1.out.drewN _).drewN _ | exact ((HK1.out.drewN _).drewN _).drewN _ | exact (((HK1.out.drewN _).drewN _).drewN _).drewN _ | exact ((((HK1.out.drewN _).drewN _).drewN _).drewN _).drewN _⟩
        all_goals (try (go_quiet (fail); go_wp2))
        all_goals (first
          | (go_step3
             (try simp only [Exit.then, Exit.inBlock])
             apply G0.out
             go_wp2
             go_quiet (fail)
             go_wp2
             · go_quiet (fail)
               go_wp2
               (try rw [Exit.noGoto_ret])
               go_ret2
               exact ⟨_, _, rfl, by first | exact HK2.out | exact HK2.out.drewN _ | exact (HK2.out.drewN _).drewN _ | exact ((HK2.out.drewN _).drewN _).drewN _ | exact (((HK2.out.drewN _).drewN _).drewN _).drewN _ | exact ((((HK2.out.drewN _).drewN _).drewN _).drewN _).drewN _⟩
             · (try rw [Exit.noGoto_ret])
               go_ret2
               exact ⟨_, _, rfl, by first | exact HK2.out | exact HK2.out.drewN _ | exact (HK2.out.drewN _).drewN _ | exact ((HK2.out.drewN _).drewN _).drewN _ | exact (((HK2.out.drewN _).drewN _).drewN _).drewN _ | exact ((((HK2.out.drewN _).drewN _).drewN _).drewN _).drewN _⟩)
          | (go_step3
             (try simp only [Exit.then, Exit.inBlock])
             apply G1.out
             go_wp2
             go_quiet (fail)
             go_wp2
             go_step3
             go_wp2
             go_quiet (fail)
             go_wp2
             · go_quiet (fail)
               go_wp2
               (try rw [Exit.noGoto_ret])
               go_ret2
               exact ⟨_, _, rfl, by first | exact HK2.out | exact HK2.out.drewN _ | exact (HK2.out.drewN _).drewN _ | exact ((HK2.out.drewN _).drewN _).drewN _ | exact (((HK2.out.drewN _).drewN _).drewN _).drewN _ | exact ((((HK2.out.drewN _).drewN _).drewN _).drewN _).drewN _⟩
             · (try rw [Exit.noGoto_ret])
               go_ret2
               exact ⟨_, _, rfl, by first | exact HK2.out | exact HK2.out.drewN _ | exact (HK2.out.drewN _).drewN _ | exact ((HK2.out.drewN _).drewN _).drewN _ | exact (((HK2.out.drewN _).drewN _).drewN _).drewN _ | exact ((((HK2.out.drewN _).drewN _).drewN _).drewN _).drewN _⟩))
end Go.Proofs.YtaecbclonmhbcaaGreatDoor
