/- FetchToken. Printed by gen_fetch.py. -/
import Derived.Test.YtaecbclonmhbcaaGreatDoorR03
import Derived.Test.YtaecbclonmhbcaaGreatDoorR12
set_option linter.unusedVariables false
set_option linter.unusedSimpArgs false
namespace Go.Proofs.YtaecbclonmhbcaaGreatDoor
open Go.RowKit
section
variable {w : World} {b : Nat} {ae : Sur} {ao : Addr} {x : Lx} {vd vt ve vm : Value}
set_option maxHeartbeats 40000000 in
set_option maxRecDepth 100000 in
theorem fetchToken_more (bd o cap : Nat) (h : LexAt w b ae ao x (.slice (some ⟨bd, o, none⟩) x.d.length cap) vt ve vm) (hw : x.Wf) (hcap : x.d.length ≤ cap) (hne : bd ≠ b) (hcp1 : cap ≠ x.pos) :
    Calls Tryz.prog 86 #[.pointer (some ⟨b, 0, none⟩)] w fun e w' => e = .returned (.tuple #[]) ∧ NumDone w b ae ao x.fetch (.slice (some ⟨bd, o, none⟩) x.d.length cap) vm w' := by
  have hne' : b ≠ bd := Ne.symm hne
  have c0 := h.c0
  have c1 := h.c1
  have c2 := h.c2
  have c3 := h.c3
  have f1 := h.free 1
  have f3 := h.free 3
  have hl := hw.len
  have hps := hw.pos
  have hcp : ¬ cap = x.pos := hcp1
  clear hcp1
  have s0 : decide (x.d.length < x.pos) = false := decide_eq_false (by omega)
  have h1 := (h.setKind 0).setStart x.pos
  have H1 := Lib.hid h1
  have HWF := Lib.hid hw
  have k1 := ((Kept.refl b w).setCell 3 (.int .u8 0)).setCell 1 (.int .i64 x.pos)
  have K1 := Lib.hid k1
  clear h h1 k1
  go_enter Tryz.func86, Tryz.ntmps86
  go_wp2
  go_quiet (fail)
  go_wp2
  go_quiet (fail)
  go_wp2
  go_loopw [37] (fun i wr => ∃ (k : Nat) (x' : Lx) (vt' ve' : Value), i = .int .i64 k ∧ k ≤ x.d.length - x.pos ∧ LexAt wr b ae ao x' (.slice (some ⟨bd, o, none⟩) x.d.length cap) vt' ve' vm ∧ Kept b w wr ∧ x'.Wf ∧ x'.pos ≤ x.pos + k ∧ x'.d = x.d ∧ Lx.scan x' (x.d.drop (x.pos + k)) = x.fetch)
    (fun i _ => (x.d.length - x.pos) - (intOf i).toNat)
  case atStart => exact ⟨0, { x with kind := 0, start := x.pos }, _, _, rfl, Nat.zero_le _, (H1.out.drewN _).drewN _, (K1.out.drewN _).drewN _, ⟨HWF.out.len, HWF.out.pos, Nat.le_refl _, HWF.out.byte⟩, Nat.le_refl _, rfl, rfl⟩
  case round =>
    clear c0 c1 c2 c3 f1 f3
    obtain ⟨k, x', vt', ve', rfl, hk, hl', hK', hwf', hpk, hd', hrel⟩ := hrel
    have HL := Lib.hid hl'
    have HK := Lib.hid hK'
    have HW := Lib.hid hwf'
    have HD := Lib.hid hd'
    have hp1 := hwf'.pos
    have hp2 := hwf'.start
    have hlen' : x'.d.length ≤ x.d.length := by rw [hd']; exact Nat.le_refl _
    have hlen2 : x.d.length ≤ x'.d.length := by rw [hd']; exact Nat.le_refl _
    by_cases hlt : k < x.d.length - x.pos
    case neg =>
     as_aux_lemma =>
      have HE : RowKit.Hid (x.fetch = { x' with err := .eof }) := by
        show _ = _
        rw [← hrel, List.drop_eq_nil_of_le (by omega)]; rfl
      have e11 := hl'.c11
      have g11 := hl'.free 11
      have eeof := hl'.env.eof
      have hb2 := hl'.b2
      have hb3 : ¬ b = 1 := by omega
      have hb4 : ¬ 1 = b := by omega
      clear hl' hK' hwf' hd' hrel
      go_wp2
      (try simp only [Exit.inBlock, Exit.then])
      refine bodyPost_ret (results_none rfl _ _ _) rfl ?_
      rw [HE.out]
      exact ⟨rfl, _, _, HL.out.setErr (.iface 191 (.pointer (some ae.addr))) .eof rfl, HK.out.setCell 11 _⟩
    case pos =>
      have hu0 : wr.cell? ⟨bd, o + x.pos + k, none⟩ = some (.int .u8 (x.d.getD (x.pos + k) 0)) := by
        obtain ⟨bd', o', cap', hv, -, -, hx'⟩ := hl'.bytes (by omega)
        simp only [Value.slice.injEq, Option.some.injEq, Addr.mk.injEq, and_true] at hv
        obtain ⟨⟨rfl, rfl⟩, -, -⟩ := hv
        have := hx' (x.pos + k) (by omega)
        rw [hd'] at this
        rw [Nat.add_assoc]; exact this
      have HU : RowKit.Hid (wr.cell? ⟨bd, o + x'.pos, none⟩ = some (.int .u8 (x'.d.getD x'.pos 0))) := by
        show _ = _
        obtain ⟨bd', o', cap', hv, -, -, hx'⟩ := hl'.bytes (by omega)
        simp only [Value.slice.injEq, Option.some.injEq, Addr.mk.injEq, and_true] at hv
        obtain ⟨⟨rfl, rfl⟩, -, -⟩ := hv
        exact hx' x'.pos (by omega)
      have HP : RowKit.Hid (x'.pos < x'.d.length) := by show _ < _; omega
      have HR : RowKit.Hid (Lx.scan x' (x.d.getD (x.pos + k) 0 :: x.d.drop (x.pos + (k + 1))) = x.fetch) := by
        show _ = _
        rw [← hrel, drop_cons_getD x.d (x.pos + k) (by omega)]; rfl
      generalize x.d.getD (x.pos + k) 0 = c at hu0 HR
      clear hl' hK' hwf' hd' hrel
      by_cases hc : c = 58
      · subst hc
        as_aux_lemma =>
          by_cases hs : x'.sep = 58
          · have HE : RowKit.Hid (Lx.scan { x' with pos := x'.pos + 1, start := x'.start + 1, sep := 0 } (x.d.drop (x.pos + (k + 1))) = x.fetch) := by show _ = _; rw [← HR.out, scan_sep (by omega), if_pos (by simp [hs])]
            have c9 := HL.out.c9
            rw [hs] at c9
            have c1 := HL.out.c1
            have c2 := HL.out.c2
            have f1 := HL.out.free 1
            have f2 := HL.out.free 2
            have f9 := HL.out.free 9
            clear hs
            go_wp2
            go_roundw
            case rel => first | exact ⟨k + 1, { x' with pos := x'.pos + 1, start := x'.start + 1, sep := 0 }, _, _, by go_num, by omega, ((HL.out.setPos (x'.pos + 1)).setStart (x'.start + 1)).setSep 0, ((HK.out.setCell 2 _).setCell 1 _).setCell 9 _, ⟨HW.out.len, by show x'.pos + 1 ≤ x'.d.length; omega, by show x'.start + 1 ≤ x'.pos + 1; omega, HW.out.byte⟩, by show x'.pos + 1 ≤ x.pos + (k + 1); omega, HD.out, HE.out⟩ | ((repeat apply Exists.intro); exact ⟨⟨k + 1, { x' with pos := x'.pos + 1, start := x'.start + 1, sep := 0 }, _, _, by go_num, by omega, ((HL.out.setPos (x'.pos + 1)).setStart (x'.start + 1)).setSep 0, ((HK.out.setCell 2 _).setCell 1 _).setCell 9 _, ⟨HW.out.len, by show x'.pos + 1 ≤ x'.d.length; omega, by show x'.start + 1 ≤ x'.pos + 1; omega, HW.out.byte⟩, by show x'.pos + 1 ≤ x.pos + (k + 1); omega, HD.out, HE.out⟩, rfl⟩)
            case measure => simp [intOf]; omega
          · have HE : RowKit.Hid (Lx.scan x'.fail (x.d.drop (x.pos + (k + 1))) = x.fetch) := by show _ = _; rw [← HR.out, scan_sep (by omega), if_neg (by simp [hs])]
            have c9 := HL.out.c9
            have n1 : (x'.sep == 58) = false := beq_eq_false_iff_ne.2 hs
            clear hs
            go_wp2_with (go_at_call 118; refine (errSyntax_any HL.out HW.out).mono ?_; rintro e w1 ⟨rfl, ve1, g1, g2⟩; have G1 := Lib.hid g1; have G2 := Lib.hid g2; clear g1 g2)
            go_roundw
            case rel => first | exact ⟨k + 1, x'.fail, _, _, by go_num, by omega, G1.out, HK.out.trans G2.out, HW.out.fail, by rw [fail_pos]; omega, fail_d.trans HD.out, HE.out⟩ | ((repeat apply Exists.intro); exact ⟨⟨k + 1, x'.fail, _, _, by go_num, by omega, G1.out, HK.out.trans G2.out, HW.out.fail, by rw [fail_pos]; omega, fail_d.trans HD.out, HE.out⟩, rfl⟩)
            case measure => simp [intOf]; omega
      have j58 : (c == 58) = false := beq_eq_false_iff_ne.2 hc
      have J58 := Lib.hid hc
      clear hc
      by_cases hc : c = 44
      · subst hc
        as_aux_lemma =>
          by_cases hs : x'.sep = 44
          · have HE : RowKit.Hid (Lx.scan { x' with pos := x'.pos + 1, start := x'.start + 1, sep := 0 } (x.d.drop (x.pos + (k + 1))) = x.fetch) := by show _ = _; rw [← HR.out, scan_sep (by omega), if_pos (by simp [hs])]
            have c9 := HL.out.c9
            rw [hs] at c9
            have c1 := HL.out.c1
            have c2 := HL.out.c2
            have f1 := HL.out.free 1
            have f2 := HL.out.free 2
            have f9 := HL.out.free 9
            clear hs
            go_wp2
            go_roundw
            case rel => first | exact ⟨k + 1, { x' with pos := x'.pos + 1, start := x'.start + 1, sep := 0 }, _, _, by go_num, by omega, ((HL.out.setPos (x'.pos + 1)).setStart (x'.start + 1)).setSep 0, ((HK.out.setCell 2 _).setCell 1 _).setCell 9 _, ⟨HW.out.len, by show x'.pos + 1 ≤ x'.d.length; omega, by show x'.start + 1 ≤ x'.pos + 1; omega, HW.out.byte⟩, by show x'.pos + 1 ≤ x.pos + (k + 1); omega, HD.out, HE.out⟩ | ((repeat apply Exists.intro); exact ⟨⟨k + 1, { x' with pos := x'.pos + 1, start := x'.start + 1, sep := 0 }, _, _, by go_num, by omega, ((HL.out.setPos (x'.pos + 1)).setStart (x'.start + 1)).setSep 0, ((HK.out.setCell 2 _).setCell 1 _).setCell 9 _, ⟨HW.out.len, by show x'.pos + 1 ≤ x'.d.length; omega, by show x'.start + 1 ≤ x'.pos + 1; omega, HW.out.byte⟩, by show x'.pos + 1 ≤ x.pos + (k + 1); omega, HD.out, HE.out⟩, rfl⟩)
            case measure => simp [intOf]; omega
          · have HE : RowKit.Hid (Lx.scan x'.fail (x.d.drop (x.pos + (k + 1))) = x.fetch) := by show _ = _; rw [← HR.out, scan_sep (by omega), if_neg (by simp [hs])]
            have c9 := HL.out.c9
            have n1 : (x'.sep == 44) = false := beq_eq_false_iff_ne.2 hs
            clear hs
            go_wp2_with (go_at_call 118; refine (errSyntax_any HL.out HW.out).mono ?_; rintro e w1 ⟨rfl, ve1, g1, g2⟩; have G1 := Lib.hid g1; have G2 := Lib.hid g2; clear g1 g2)
            go_roundw
            case rel => first | exact ⟨k + 1, x'.fail, _, _, by go_num, by omega, G1.out, HK.out.trans G2.out, HW.out.fail, by rw [fail_pos]; omega, fail_d.trans HD.out, HE.out⟩ | ((repeat apply Exists.intro); exact ⟨⟨k + 1, x'.fail, _, _, by go_num, by omega, G1.out, HK.out.trans G2.out, HW.out.fail, by rw [fail_pos]; omega, fail_d.trans HD.out, HE.out⟩, rfl⟩)
            case measure => simp [intOf]; omega
      have j44 : (c == 44) = false := beq_eq_false_iff_ne.2 hc
      have J44 := Lib.hid hc
      clear hc
      by_cases hc : c = 32
      · subst hc
        as_aux_lemma =>
          have HE : RowKit.Hid (Lx.scan { x' with pos := x'.pos + 1, start := x'.start + 1 } (x.d.drop (x.pos + (k + 1))) = x.fetch) := by show _ = _; rw [← HR.out, scan_blank (by omega)]
          have c1 := HL.out.c1
          have c2 := HL.out.c2
          have f1 := HL.out.free 1
          have f2 := HL.out.free 2
          go_wp2
          go_roundw
          case rel => first | exact ⟨k + 1, { x' with pos := x'.pos + 1, start := x'.start + 1 }, _, _, by go_num, by omega, (HL.out.setPos (x'.pos + 1)).setStart (x'.start + 1), (HK.out.setCell 2 _).setCell 1 _, ⟨HW.out.len, by show x'.pos + 1 ≤ x'.d.length; omega, by show x'.start + 1 ≤ x'.pos + 1; omega, HW.out.byte⟩, by show x'.pos + 1 ≤ x.pos + (k + 1); omega, HD.out, HE.out⟩ | ((repeat apply Exists.intro); exact ⟨⟨k + 1, { x' with pos := x'.pos + 1, start := x'.start + 1 }, _, _, by go_num, by omega, (HL.out.setPos (x'.pos + 1)).setStart (x'.start + 1), (HK.out.setCell 2 _).setCell 1 _, ⟨HW.out.len, by show x'.pos + 1 ≤ x'.d.length; omega, by show x'.start + 1 ≤ x'.pos + 1; omega, HW.out.byte⟩, by show x'.pos + 1 ≤ x.pos + (k + 1); omega, HD.out, HE.out⟩, rfl⟩)
          case measure => simp [intOf]; omega
      have j32 : (c == 32) = false := beq_eq_false_iff_ne.2 hc
      have J32 := Lib.hid hc
      clear hc
      by_cases hc : c = 9
      · subst hc
        as_aux_lemma =>
          have HE : RowKit.Hid (Lx.scan { x' with pos := x'.pos + 1, start := x'.start + 1 } (x.d.drop (x.pos + (k + 1))) = x.fetch) := by show _ = _; rw [← HR.out, scan_blank (by omega)]
          have c1 := HL.out.c1
          have c2 := HL.out.c2
          have f1 := HL.out.free 1
          have f2 := HL.out.free 2
          go_wp2
          go_roundw
          case rel => first | exact ⟨k + 1, { x' with pos := x'.pos + 1, start := x'.start + 1 }, _, _, by go_num, by omega, (HL.out.setPos (x'.pos + 1)).setStart (x'.start + 1), (HK.out.setCell 2 _).setCell 1 _, ⟨HW.out.len, by show x'.pos + 1 ≤ x'.d.length; omega, by show x'.start + 1 ≤ x'.pos + 1; omega, HW.out.byte⟩, by show x'.pos + 1 ≤ x.pos + (k + 1); omega, HD.out, HE.out⟩ | ((repeat apply Exists.intro); exact ⟨⟨k + 1, { x' with pos := x'.pos + 1, start := x'.start + 1 }, _, _, by go_num, by omega, (HL.out.setPos (x'.pos + 1)).setStart (x'.start + 1), (HK.out.setCell 2 _).setCell 1 _, ⟨HW.out.len, by show x'.pos + 1 ≤ x'.d.length; omega, by show x'.start + 1 ≤ x'.pos + 1; omega, HW.out.byte⟩, by show x'.pos + 1 ≤ x.pos + (k + 1); omega, HD.out, HE.out⟩, rfl⟩)
          case measure => simp [intOf]; omega
      have j9 : (c == 9) = false := beq_eq_false_iff_ne.2 hc
      have J9 := Lib.hid hc
      clear hc
      by_cases hc : c = 13
      · subst hc
        as_aux_lemma =>
          have HE : RowKit.Hid (Lx.scan { x' with pos := x'.pos + 1, start := x'.start + 1 } (x.d.drop (x.pos + (k + 1))) = x.fetch) := by show _ = _; rw [← HR.out, scan_blank (by omega)]
          have c1 := HL.out.c1
          have c2 := HL.out.c2
          have f1 := HL.out.free 1
          have f2 := HL.out.free 2
          go_wp2
          go_roundw
          case rel => first | exact ⟨k + 1, { x' with pos := x'.pos + 1, start := x'.start + 1 }, _, _, by go_num, by omega, (HL.out.setPos (x'.pos + 1)).setStart (x'.start + 1), (HK.out.setCell 2 _).setCell 1 _, ⟨HW.out.len, by show x'.pos + 1 ≤ x'.d.length; omega, by show x'.start + 1 ≤ x'.pos + 1; omega, HW.out.byte⟩, by show x'.pos + 1 ≤ x.pos + (k + 1); omega, HD.out, HE.out⟩ | ((repeat apply Exists.intro); exact ⟨⟨k + 1, { x' with pos := x'.pos + 1, start := x'.start + 1 }, _, _, by go_num, by omega, (HL.out.setPos (x'.pos + 1)).setStart (x'.start + 1), (HK.out.setCell 2 _).setCell 1 _, ⟨HW.out.len, by show x'.pos + 1 ≤ x'.d.length; omega, by show x'.start + 1 ≤ x'.pos + 1; omega, HW.out.byte⟩, by show x'.pos + 1 ≤ x.pos + (k + 1); omega, HD.out, HE.out⟩, rfl⟩)
          case measure => simp [intOf]; omega
      have j13 : (c == 13) = false := beq_eq_false_iff_ne.2 hc
      have J13 := Lib.hid hc
      clear hc
      by_cases hc : c = 10
      · subst hc
        as_aux_lemma =>
          have HE : RowKit.Hid (Lx.scan { x' with pos := x'.pos + 1, start := x'.start + 1 } (x.d.drop (x.pos + (k + 1))) = x.fetch) := by show _ = _; rw [← HR.out, scan_blank (by omega)]
          have c1 := HL.out.c1
          have c2 := HL.out.c2
          have f1 := HL.out.free 1
          have f2 := HL.out.free 2
          go_wp2
          go_roundw
          case rel => first | exact ⟨k + 1, { x' with pos := x'.pos + 1, start := x'.start + 1 }, _, _, by go_num, by omega, (HL.out.setPos (x'.pos + 1)).setStart (x'.start + 1), (HK.out.setCell 2 _).setCell 1 _, ⟨HW.out.len, by show x'.pos + 1 ≤ x'.d.length; omega, by show x'.start + 1 ≤ x'.pos + 1; omega, HW.out.byte⟩, by show x'.pos + 1 ≤ x.pos + (k + 1); omega, HD.out, HE.out⟩ | ((repeat apply Exists.intro); exact ⟨⟨k + 1, { x' with pos := x'.pos + 1, start := x'.start + 1 }, _, _, by go_num, by omega, (HL.out.setPos (x'.pos + 1)).setStart (x'.start + 1), (HK.out.setCell 2 _).setCell 1 _, ⟨HW.out.len, by show x'.pos + 1 ≤ x'.d.length; omega, by show x'.start + 1 ≤ x'.pos + 1; omega, HW.out.byte⟩, by show x'.pos + 1 ≤ x.pos + (k + 1); omega, HD.out, HE.out⟩, rfl⟩)
          case measure => simp [intOf]; omega
      have j10 : (c == 10) = false := beq_eq_false_iff_ne.2 hc
      have J10 := Lib.hid hc
      clear hc
      by_cases hc : c = 34
      · subst hc
        as_aux_lemma =>
          by_cases hs : x'.sep = 0
          · have HE : RowKit.Hid (x.fetch = Lx.fetchString { x' with kind := 2 }) := by show _ = _; rw [← HR.out, scan_str, sepFail_zero hs]
            have c9 := HL.out.c9
            rw [hs] at c9
            have c3 := HL.out.c3
            have f3 := HL.out.free 3
            clear hs
            go_wp2_with (go_at_call 119; refine (fetchString_any (x := { x' with kind := 2 }) (HL.out.setKind 2) (HW.out.as rfl rfl rfl) HP.out).mono ?_; rintro e w2 ⟨rfl, vt2, ve2, g3, g4⟩)
            (try simp only [Exit.inBlock, Exit.then])
            refine bodyPost_ret (results_none rfl _ _ _) rfl ?_
            rw [HE.out]
            exact ⟨rfl, vt2, ve2, g3, ((HK.out.setCell 3 _)).trans g4⟩
          · have HE : RowKit.Hid (x.fetch = Lx.fetchString { x'.fail with kind := 2 }) := by show _ = _; rw [← HR.out, scan_str, sepFail_ne hs]
            have c9 := HL.out.c9
            have n1 : (x'.sep == 0) = false := beq_eq_false_iff_ne.2 hs
            have n2 : (x'.sep != 0) = true := bne_iff_ne.2 hs
            clear hs
            go_wp2_with (first | (go_at_call 118; refine (errSyntax_any HL.out HW.out).mono ?_; rintro e w1 ⟨rfl, ve1, g1, g2⟩; have z3 := g1.c3; have zf3 := g1.free 3; have G1 := Lib.hid g1; have G2 := Lib.hid g2; clear g1 g2) | (go_at_call 119; refine (fetchString_any (x := { x'.fail with kind := 2 }) (G1.out.setKind 2) (HW.out.fail.as rfl rfl rfl) (by rw [fail_d, fail_pos]; exact HP.out)).mono ?_; rintro e w2 ⟨rfl, vt2, ve2, g3, g4⟩))
            (try simp only [Exit.inBlock, Exit.then])
            refine bodyPost_ret (results_none rfl _ _ _) rfl ?_
            rw [HE.out]
            exact ⟨rfl, vt2, ve2, g3, (((HK.out.trans G2.out).setCell 3 _)).trans g4⟩
      have j34 : (c == 34) = false := beq_eq_false_iff_ne.2 hc
      have J34 := Lib.hid hc
      clear hc
      by_cases hc : c = 123
      · subst hc
        as_aux_lemma =>
          by_cases hs : x'.sep = 0
          · have HE : RowKit.Hid (x.fetch = { x' with fst := true, kind := 1, delim := x'.d.getD x'.pos 0, pos := x'.pos + 1 }) := by show _ = _; rw [← HR.out, scan_open (by omega), sepFail_zero hs]
            have c9 := HL.out.c9
            rw [hs] at c9
            have c0 := HL.out.c0
            have c2 := HL.out.c2
            have c3 := HL.out.c3
            have c7 := HL.out.c7
            have c8 := HL.out.c8
            have f2 := HL.out.free 2
            have f3 := HL.out.free 3
            have f7 := HL.out.free 7
            have f8 := HL.out.free 8
            have u := HU.out
            clear hs
            go_wp2
            go_region
            go_wp2
            (try simp only [Exit.inBlock, Exit.then])
            refine bodyPost_ret (results_none rfl _ _ _) rfl ?_
            rw [HE.out]
            exact ⟨rfl, _, _, (((((HL.out.setFst true).setKind 1).drewN 1).setDelim (x'.d.getD x'.pos 0)).setPos (x'.pos + 1)), ((((HK.out.setCell 8 _).setCell 3 _).drewN 1).setCell 7 _).setCell 2 _⟩
          · have HE : RowKit.Hid (x.fetch = { x'.fail with fst := true, kind := 1, delim := x'.d.getD x'.pos 0, pos := x'.pos + 1 }) := by show _ = _; rw [← HR.out, scan_open (by omega), sepFail_ne hs]
            have c9 := HL.out.c9
            have n1 : (x'.sep == 0) = false := beq_eq_false_iff_ne.2 hs
            have n2 : (x'.sep != 0) = true := bne_iff_ne.2 hs
            clear hs
            go_wp2_with (go_at_call 118; refine (errSyntax_any HL.out HW.out).mono ?_; rintro e w1 ⟨rfl, ve1, g1, g2⟩; have z0 := g1.c0; have z2 := g1.c2; rw [fail_pos] at z2; have z3 := g1.c3; have z7 := g1.c7; have z8 := g1.c8; have zf2 := g1.free 2; have zf3 := g1.free 3; have zf7 := g1.free 7; have zf8 := g1.free 8; have zu := g2.cell HU.out hne; have G1 := Lib.hid g1; have G2 := Lib.hid g2; clear g1 g2)
            go_region
            go_wp2
            (try simp only [Exit.inBlock, Exit.then])
            refine bodyPost_ret (results_none rfl _ _ _) rfl ?_
            rw [HE.out]
            exact ⟨rfl, _, _, (((((G1.out.setFst true).setKind 1).drewN 1).setDelim (x'.d.getD x'.pos 0)).setPos (x'.pos + 1)), (((((HK.out.trans G2.out).setCell 8 _).setCell 3 _).drewN 1).setCell 7 _).setCell 2 _⟩
      have j123 : (c == 123) = false := beq_eq_false_iff_ne.2 hc
      have J123 := Lib.hid hc
      clear hc
      by_cases hc : c = 91
      · subst hc
        as_aux_lemma =>
          by_cases hs : x'.sep = 0
          · have HE : RowKit.Hid (x.fetch = { x' with fst := true, kind := 1, delim := x'.d.getD x'.pos 0, pos := x'.pos + 1 }) := by show _ = _; rw [← HR.out, scan_open (by omega), sepFail_zero hs]
            have c9 := HL.out.c9
            rw [hs] at c9
            have c0 := HL.out.c0
            have c2 := HL.out.c2
            have c3 := HL.out.c3
            have c7 := HL.out.c7
            have c8 := HL.out.c8
            have f2 := HL.out.free 2
            have f3 := HL.out.free 3
            have f7 := HL.out.free 7
            have f8 := HL.out.free 8
            have u := HU.out
            clear hs
            go_wp2
            go_region
            go_wp2
            (try simp only [Exit.inBlock, Exit.then])
            refine bodyPost_ret (results_none rfl _ _ _) rfl ?_
            rw [HE.out]
            exact ⟨rfl, _, _, (((((HL.out.setFst true).setKind 1).drewN 1).setDelim (x'.d.getD x'.pos 0)).setPos (x'.pos + 1)), ((((HK.out.setCell 8 _).setCell 3 _).drewN 1).setCell 7 _).setCell 2 _⟩
          · have HE : RowKit.Hid (x.fetch = { x'.fail with fst := true, kind := 1, delim := x'.d.getD x'.pos 0, pos := x'.pos + 1 }) := by show _ = _; rw [← HR.out, scan_open (by omega), sepFail_ne hs]
            have c9 := HL.out.c9
            have n1 : (x'.sep == 0) = false := beq_eq_false_iff_ne.2 hs
            have n2 : (x'.sep != 0) = true := bne_iff_ne.2 hs
            clear hs
            go_wp2_with (go_at_call 118; refine (errSyntax_any HL.out HW.out).mono ?_; rintro e w1 ⟨rfl, ve1, g1, g2⟩; have z0 := g1.c0; have z2 := g1.c2; rw [fail_pos] at z2; have z3 := g1.c3; have z7 := g1.c7; have z8 := g1.c8; have zf2 := g1.free 2; have zf3 := g1.free 3; have zf7 := g1.free 7; have zf8 := g1.free 8; have zu := g2.cell HU.out hne; have G1 := Lib.hid g1; have G2 := Lib.hid g2; clear g1 g2)
            go_region
            go_wp2
            (try simp only [Exit.inBlock, Exit.then])
            refine bodyPost_ret (results_none rfl _ _ _) rfl ?_
            rw [HE.out]
            exact ⟨rfl, _, _, (((((G1.out.setFst true).setKind 1).drewN 1).setDelim (x'.d.getD x'.pos 0)).setPos (x'.pos + 1)), (((((HK.out.trans G2.out).setCell 8 _).setCell 3 _).drewN 1).setCell 7 _).setCell 2 _⟩
      have j91 : (c == 91) = false := beq_eq_false_iff_ne.2 hc
      have J91 := Lib.hid hc
      clear hc
      by_cases hc : c = 125
      · subst hc
        as_aux_lemma =>
          rcases Bool.eq_false_or_eq_true x'.fst with hf | hf
          · have HE : RowKit.Hid (x.fetch = { x' with sep := 0, kind := 1, delim := x'.d.getD x'.pos 0, pos := x'.pos + 1 }) := by show _ = _; rw [← HR.out, scan_close (by omega), if_neg (by simp [hf])]
            have c0 := HL.out.c0
            have c2 := HL.out.c2
            have c3 := HL.out.c3
            have c7 := HL.out.c7
            have c8 := HL.out.c8
            have c9 := HL.out.c9
            have f2 := HL.out.free 2
            have f3 := HL.out.free 3
            have f7 := HL.out.free 7
            have f9 := HL.out.free 9
            have u := HU.out
            rw [hf] at c8
            clear hf
            go_wp2
            go_region
            go_wp2
            (try simp only [Exit.inBlock, Exit.then])
            refine bodyPost_ret (results_none rfl _ _ _) rfl ?_
            rw [HE.out]
            exact ⟨rfl, _, _, (((((HL.out.setSep 0).setKind 1).drewN 1).setDelim (x'.d.getD x'.pos 0)).setPos (x'.pos + 1)), ((((HK.out.setCell 9 _).setCell 3 _).drewN 1).setCell 7 _).setCell 2 _⟩
          · by_cases hs : x'.sep = 44
            · have HE : RowKit.Hid (x.fetch = { x' with sep := 0, kind := 1, delim := x'.d.getD x'.pos 0, pos := x'.pos + 1 }) := by show _ = _; rw [← HR.out, scan_close (by omega), if_neg (by simp [hs])]
              have c0 := HL.out.c0
              have c2 := HL.out.c2
              have c3 := HL.out.c3
              have c7 := HL.out.c7
              have c8 := HL.out.c8
              have c9 := HL.out.c9
              have f2 := HL.out.free 2
              have f3 := HL.out.free 3
              have f7 := HL.out.free 7
              have f9 := HL.out.free 9
              have u := HU.out
              rw [hf] at c8
              rw [hs] at c9
              clear hf hs
              go_wp2
              go_region
              go_wp2
              (try simp only [Exit.inBlock, Exit.then])
              refine bodyPost_ret (results_none rfl _ _ _) rfl ?_
              rw [HE.out]
              exact ⟨rfl, _, _, (((((HL.out.setSep 0).setKind 1).drewN 1).setDelim (x'.d.getD x'.pos 0)).setPos (x'.pos + 1)), ((((HK.out.setCell 9 _).setCell 3 _).drewN 1).setCell 7 _).setCell 2 _⟩
            · have HE : RowKit.Hid (x.fetch = { x'.fail with sep := 0, kind := 1, delim := x'.d.getD x'.pos 0, pos := x'.pos + 1 }) := by show _ = _; rw [← HR.out, scan_close (by omega), if_pos (by simp [hf, hs])]
              have c8 := HL.out.c8
              have c9 := HL.out.c9
              rw [hf] at c8
              have n1 : (x'.sep == 44) = false := beq_eq_false_iff_ne.2 hs
              have n2 : (x'.sep != 44) = true := bne_iff_ne.2 hs
              clear hs hf
              go_wp2_with (go_at_call 118; refine (errSyntax_any HL.out HW.out).mono ?_; rintro e w1 ⟨rfl, ve1, g1, g2⟩; have z0 := g1.c0; have z2 := g1.c2; rw [fail_pos] at z2; have z3 := g1.c3; have z7 := g1.c7; have z9 := g1.c9; have zf2 := g1.free 2; have zf3 := g1.free 3; have zf7 := g1.free 7; have zf9 := g1.free 9; have zu := g2.cell HU.out hne; have G1 := Lib.hid g1; have G2 := Lib.hid g2; clear g1 g2)
              go_region
              go_wp2
              (try simp only [Exit.inBlock, Exit.then])
              refine bodyPost_ret (results_none rfl _ _ _) rfl ?_
              rw [HE.out]
              exact ⟨rfl, _, _, (((((G1.out.setSep 0).setKind 1).drewN 1).setDelim (x'.d.getD x'.pos 0)).setPos (x'.pos + 1)), (((((HK.out.trans G2.out).setCell 9 _).setCell 3 _).drewN 1).setCell 7 _).setCell 2 _⟩
      have j125 : (c == 125) = false := beq_eq_false_iff_ne.2 hc
      have J125 := Lib.hid hc
      clear hc
      by_cases hc : c = 93
      · subst hc
        as_aux_lemma =>
          rcases Bool.eq_false_or_eq_true x'.fst with hf | hf
          · have HE : RowKit.Hid (x.fetch = { x' with sep := 0, kind := 1, delim := x'.d.getD x'.pos 0, pos := x'.pos + 1 }) := by show _ = _; rw [← HR.out, scan_close (by omega), if_neg (by simp [hf])]
            have c0 := HL.out.c0
            have c2 := HL.out.c2
            have c3 := HL.out.c3
            have c7 := HL.out.c7
            have c8 := HL.out.c8
            have c9 := HL.out.c9
            have f2 := HL.out.free 2
            have f3 := HL.out.free 3
            have f7 := HL.out.free 7
            have f9 := HL.out.free 9
            have u := HU.out
            rw [hf] at c8
            clear hf
            go_wp2
            go_region
            go_wp2
            (try simp only [Exit.inBlock, Exit.then])
            refine bodyPost_ret (results_none rfl _ _ _) rfl ?_
            rw [HE.out]
            exact ⟨rfl, _, _, (((((HL.out.setSep 0).setKind 1).drewN 1).setDelim (x'.d.getD x'.pos 0)).setPos (x'.pos + 1)), ((((HK.out.setCell 9 _).setCell 3 _).drewN 1).setCell 7 _).setCell 2 _⟩
          · by_cases hs : x'.sep = 44
            · have HE : RowKit.Hid (x.fetch = { x' with sep := 0, kind := 1, delim := x'.d.getD x'.pos 0, pos := x'.pos + 1 }) := by show _ = _; rw [← HR.out, scan_close (by omega), if_neg (by simp [hs])]
              have c0 := HL.out.c0
              have c2 := HL.out.c2
              have c3 := HL.out.c3
              have c7 := HL.out.c7
              have c8 := HL.out.c8
              have c9 := HL.out.c9
              have f2 := HL.out.free 2
              have f3 := HL.out.free 3
              have f7 := HL.out.free 7
              have f9 := HL.out.free 9
              have u := HU.out
              rw [hf] at c8
              rw [hs] at c9
              clear hf hs
              go_wp2
              go_region
              go_wp2
              (try simp only [Exit.inBlock, Exit.then])
              refine bodyPost_ret (results_none rfl _ _ _) rfl ?_
              rw [HE.out]
              exact ⟨rfl, _, _, (((((HL.out.setSep 0).setKind 1).drewN 1).setDelim (x'.d.getD x'.pos 0)).setPos (x'.pos + 1)), ((((HK.out.setCell 9 _).setCell 3 _).drewN 1).setCell 7 _).setCell 2 _⟩
            · have HE : RowKit.Hid (x.fetch = { x'.fail with sep := 0, kind := 1, delim := x'.d.getD x'.pos 0, pos := x'.pos + 1 }) := by show _ = _; rw [← HR.out, scan_close (by omega), if_pos (by simp [hf, hs])]
              have c8 := HL.out.c8
              have c9 := HL.out.c9
              rw [hf] at c8
              have n1 : (x'.sep == 44) = false := beq_eq_false_iff_ne.2 hs
              have n2 : (x'.sep != 44) = true := bne_iff_ne.2 hs
              clear hs hf
              go_wp2_with (go_at_call 118; refine (errSyntax_any HL.out HW.out).mono ?_; rintro e w1 ⟨rfl, ve1, g1, g2⟩; have z0 := g1.c0; have z2 := g1.c2; rw [fail_pos] at z2; have z3 := g1.c3; have z7 := g1.c7; have z9 := g1.c9; have zf2 := g1.free 2; have zf3 := g1.free 3; have zf7 := g1.free 7; have zf9 := g1.free 9; have zu := g2.cell HU.out hne; have G1 := Lib.hid g1; have G2 := Lib.hid g2; clear g1 g2)
              go_region
              go_wp2
              (try simp only [Exit.inBlock, Exit.then])
              refine bodyPost_ret (results_none rfl _ _ _) rfl ?_
              rw [HE.out]
              exact ⟨rfl, _, _, (((((G1.out.setSep 0).setKind 1).drewN 1).setDelim (x'.d.getD x'.pos 0)).setPos (x'.pos + 1)), (((((HK.out.trans G2.out).setCell 9 _).setCell 3 _).drewN 1).setCell 7 _).setCell 2 _⟩
      have j93 : (c == 93) = false := beq_eq_false_iff_ne.2 hc
      have J93 := Lib.hid hc
      clear hc
      by_cases hc : c = 48
      · subst hc
        as_aux_lemma =>
          by_cases hs : x'.sep = 0
          · have HE : RowKit.Hid (x.fetch = Lx.fetchNumber { x' with kind := 3 }) := by show _ = _; rw [← HR.out, scan_num (by omega), sepFail_zero hs]
            have c9 := HL.out.c9
            rw [hs] at c9
            have c3 := HL.out.c3
            have f3 := HL.out.free 3
            clear hs
            go_wp2_with (go_at_call 120; refine (fetchNumber_any (x := { x' with kind := 3 }) (HL.out.setKind 3) (HW.out.as rfl rfl rfl) HP.out).mono ?_; rintro e w2 ⟨rfl, vt2, ve2, g3, g4⟩)
            (try simp only [Exit.inBlock, Exit.then])
            refine bodyPost_ret (results_none rfl _ _ _) rfl ?_
            rw [HE.out]
            exact ⟨rfl, vt2, ve2, g3, ((HK.out.setCell 3 _)).trans g4⟩
          · have HE : RowKit.Hid (x.fetch = Lx.fetchNumber { x'.fail with kind := 3 }) := by show _ = _; rw [← HR.out, scan_num (by omega), sepFail_ne hs]
            have c9 := HL.out.c9
            have n1 : (x'.sep == 0) = false := beq_eq_false_iff_ne.2 hs
            have n2 : (x'.sep != 0) = true := bne_iff_ne.2 hs
            clear hs
            go_wp2_with (first | (go_at_call 118; refine (errSyntax_any HL.out HW.out).mono ?_; rintro e w1 ⟨rfl, ve1, g1, g2⟩; have z3 := g1.c3; have zf3 := g1.free 3; have G1 := Lib.hid g1; have G2 := Lib.hid g2; clear g1 g2) | (go_at_call 120; refine (fetchNumber_any (x := { x'.fail with kind := 3 }) (G1.out.setKind 3) (HW.out.fail.as rfl rfl rfl) (by rw [fail_d, fail_pos]; exact HP.out)).mono ?_; rintro e w2 ⟨rfl, vt2, ve2, g3, g4⟩))
            (try simp only [Exit.inBlock, Exit.then])
            refine bodyPost_ret (results_none rfl _ _ _) rfl ?_
            rw [HE.out]
            exact ⟨rfl, vt2, ve2, g3, (((HK.out.trans G2.out).setCell 3 _)).trans g4⟩
      have j48 : (c == 48) = false := beq_eq_false_iff_ne.2 hc
      have J48 := Lib.hid hc
      clear hc
      by_cases hc : c = 49
      · subst hc
        as_aux_lemma =>
          by_cases hs : x'.sep = 0
          · have HE : RowKit.Hid (x.fetch = Lx.fetchNumber { x' with kind := 3 }) := by show _ = _; rw [← HR.out, scan_num (by omega), sepFail_zero hs]
            have c9 := HL.out.c9
            rw [hs] at c9
            have c3 := HL.out.c3
            have f3 := HL.out.free 3
            clear hs
            go_wp2_with (go_at_call 120; refine (fetchNumber_any (x := { x' with kind := 3 }) (HL.out.setKind 3) (HW.out.as rfl rfl rfl) HP.out).mono ?_; rintro e w2 ⟨rfl, vt2, ve2, g3, g4⟩)
            (try simp only [Exit.inBlock, Exit.then])
            refine bodyPost_ret (results_none rfl _ _ _) rfl ?_
            rw [HE.out]
            exact ⟨rfl, vt2, ve2, g3, ((HK.out.setCell 3 _)).trans g4⟩
          · have HE : RowKit.Hid (x.fetch = Lx.fetchNumber { x'.fail with kind := 3 }) := by show _ = _; rw [← HR.out, scan_num (by omega), sepFail_ne hs]
            have c9 := HL.out.c9
            have n1 : (x'.sep == 0) = false := beq_eq_false_iff_ne.2 hs
            have n2 : (x'.sep != 0) = true := bne_iff_ne.2 hs
            clear hs
            go_wp2_with (first | (go_at_call 118; refine (errSyntax_any HL.out HW.out).mono ?_; rintro e w1 ⟨rfl, ve1, g1, g2⟩; have z3 := g1.c3; have zf3 := g1.free 3; have G1 := Lib.hid g1; have G2 := Lib.hid g2; clear g1 g2) | (go_at_call 120; refine (fetchNumber_any (x := { x'.fail with kind := 3 }) (G1.out.setKind 3) (HW.out.fail.as rfl rfl rfl) (by rw [fail_d, fail_pos]; exact HP.out)).mono ?_; rintro e w2 ⟨rfl, vt2, ve2, g3, g4⟩))
            (try simp only [Exit.inBlock, Exit.then])
            refine bodyPost_ret (results_none rfl _ _ _) rfl ?_
            rw [HE.out]
            exact ⟨rfl, vt2, ve2, g3, (((HK.out.trans G2.out).setCell 3 _)).trans g4⟩
      have j49 : (c == 49) = false := beq_eq_false_iff_ne.2 hc
      have J49 := Lib.hid hc
      clear hc
      by_cases hc : c = 50
      · subst hc
        as_aux_lemma =>
          by_cases hs : x'.sep = 0
          · have HE : RowKit.Hid (x.fetch = Lx.fetchNumber { x' with kind := 3 }) := by show _ = _; rw [← HR.out, scan_num (by omega), sepFail_zero hs]
            have c9 := HL.out.c9
            rw [hs] at c9
            have c3 := HL.out.c3
            have f3 := HL.out.free 3
            clear hs
            go_wp2_with (go_at_call 120; refine (fetchNumber_any (x := { x' with kind := 3 }) (HL.out.setKind 3) (HW.out.as rfl rfl rfl) HP.out).mono ?_; rintro e w2 ⟨rfl, vt2, ve2, g3, g4⟩)
            (try simp only [Exit.inBlock, Exit.then])
            refine bodyPost_ret (results_none rfl _ _ _) rfl ?_
            rw [HE.out]
            exact ⟨rfl, vt2, ve2, g3, ((HK.out.setCell 3 _)).trans g4⟩
          · have HE : RowKit.Hid (x.fetch = Lx.fetchNumber { x'.fail with kind := 3 }) := by show _ = _; rw [← HR.out, scan_num (by omega), sepFail_ne hs]
            have c9 := HL.out.c9
            have n1 : (x'.sep == 0) = false := beq_eq_false_iff_ne.2 hs
            have n2 : (x'.sep != 0) = true := bne_iff_ne.2 hs
            clear hs
            go_wp2_with (first | (go_at_call 118; refine (errSyntax_any HL.out HW.out).mono ?_; rintro e w1 ⟨rfl, ve1, g1, g2⟩; have z3 := g1.c3; have zf3 := g1.free 3; have G1 := Lib.hid g1; have G2 := Lib.hid g2; clear g1 g2) | (go_at_call 120; refine (fetchNumber_any (x := { x'.fail with kind := 3 }) (G1.out.setKind 3) (HW.out.fail.as rfl rfl rfl) (by rw [fail_d, fail_pos]; exact HP.out)).mono ?_; rintro e w2 ⟨rfl, vt2, ve2, g3, g4⟩))
            (try simp only [Exit.inBlock, Exit.then])
            refine bodyPost_ret (results_none rfl _ _ _) rfl ?_
            rw [HE.out]
            exact ⟨rfl, vt2, ve2, g3, (((HK.out.trans G2.out).setCell 3 _)).trans g4⟩
      have j50 : (c == 50) = false := beq_eq_false_iff_ne.2 hc
      have J50 := Lib.hid hc
      clear hc
      by_cases hc : c = 51
      · subst hc
        as_aux_lemma =>
          by_cases hs : x'.sep = 0
          · have HE : RowKit.Hid (x.fetch = Lx.fetchNumber { x' with kind := 3 }) := by show _ = _; rw [← HR.out, scan_num (by omega), sepFail_zero hs]
            have c9 := HL.out.c9
            rw [hs] at c9
            have c3 := HL.out.c3
            have f3 := HL.out.free 3
            clear hs
            go_wp2_with (go_at_call 120; refine (fetchNumber_any (x := { x' with kind := 3 }) (HL.out.setKind 3) (HW.out.as rfl rfl rfl) HP.out).mono ?_; rintro e w2 ⟨rfl, vt2, ve2, g3, g4⟩)
            (try simp only [Exit.inBlock, Exit.then])
            refine bodyPost_ret (results_none rfl _ _ _) rfl ?_
            rw [HE.out]
            exact ⟨rfl, vt2, ve2, g3, ((HK.out.setCell 3 _)).trans g4⟩
          · have HE : RowKit.Hid (x.fetch = Lx.fetchNumber { x'.fail with kind := 3 }) := by show _ = _; rw [← HR.out, scan_num (by omega), sepFail_ne hs]
            have c9 := HL.out.c9
            have n1 : (x'.sep == 0) = false := beq_eq_false_iff_ne.2 hs
            have n2 : (x'.sep != 0) = true := bne_iff_ne.2 hs
            clear hs
            go_wp2_with (first | (go_at_call 118; refine (errSyntax_any HL.out HW.out).mono ?_; rintro e w1 ⟨rfl, ve1, g1, g2⟩; have z3 := g1.c3; have zf3 := g1.free 3; have G1 := Lib.hid g1; have G2 := Lib.hid g2; clear g1 g2) | (go_at_call 120; refine (fetchNumber_any (x := { x'.fail with kind := 3 }) (G1.out.setKind 3) (HW.out.fail.as rfl rfl rfl) (by rw [fail_d, fail_pos]; exact HP.out)).mono ?_; rintro e w2 ⟨rfl, vt2, ve2, g3, g4⟩))
            (try simp only [Exit.inBlock, Exit.then])
            refine bodyPost_ret (results_none rfl _ _ _) rfl ?_
            rw [HE.out]
            exact ⟨rfl, vt2, ve2, g3, (((HK.out.trans G2.out).setCell 3 _)).trans g4⟩
      have j51 : (c == 51) = false := beq_eq_false_iff_ne.2 hc
      have J51 := Lib.hid hc
      clear hc
      by_cases hc : c = 52
      · subst hc
        as_aux_lemma =>
          by_cases hs : x'.sep = 0
          · have HE : RowKit.Hid (x.fetch = Lx.fetchNumber { x' with kind := 3 }) := by show _ = _; rw [← HR.out, scan_num (by omega), sepFail_zero hs]
            have c9 := HL.out.c9
            rw [hs] at c9
            have c3 := HL.out.c3
            have f3 := HL.out.free 3
            clear hs
            go_wp2_with (go_at_call 120; refine (fetchNumber_any (x := { x' with kind := 3 }) (HL.out.setKind 3) (HW.out.as rfl rfl rfl) HP.out).mono ?_; rintro e w2 ⟨rfl, vt2, ve2, g3, g4⟩)
            (try simp only [Exit.inBlock, Exit.then])
            refine bodyPost_ret (results_none rfl _ _ _) rfl ?_
            rw [HE.out]
            exact ⟨rfl, vt2, ve2, g3, ((HK.out.setCell 3 _)).trans g4⟩
          · have HE : RowKit.Hid (x.fetch = Lx.fetchNumber { x'.fail with kind := 3 }) := by show _ = _; rw [← HR.out, scan_num (by omega), sepFail_ne hs]
            have c9 := HL.out.c9
            have n1 : (x'.sep == 0) = false := beq_eq_false_iff_ne.2 hs
            have n2 : (x'.sep != 0) = true := bne_iff_ne.2 hs
            clear hs
            go_wp2_with (first | (go_at_call 118; refine (errSyntax_any HL.out HW.out).mono ?_; rintro e w1 ⟨rfl, ve1, g1, g2⟩; have z3 := g1.c3; have zf3 := g1.free 3; have G1 := Lib.hid g1; have G2 := Lib.hid g2; clear g1 g2) | (go_at_call 120; refine (fetchNumber_any (x := { x'.fail with kind := 3 }) (G1.out.setKind 3) (HW.out.fail.as rfl rfl rfl) (by rw [fail_d, fail_pos]; exact HP.out)).mono ?_; rintro e w2 ⟨rfl, vt2, ve2, g3, g4⟩))
            (try simp only [Exit.inBlock, Exit.then])
            refine bodyPost_ret (results_none rfl _ _ _) rfl ?_
            rw [HE.out]
            exact ⟨rfl, vt2, ve2, g3, (((HK.out.trans G2.out).setCell 3 _)).trans g4⟩
      have j52 : (c == 52) = false := beq_eq_false_iff_ne.2 hc
      have J52 := Lib.hid hc
      clear hc
      by_cases hc : c = 53
      · subst hc
        as_aux_lemma =>
          by_cases hs : x'.sep = 0
          · have HE : RowKit.Hid (x.fetch = Lx.fetchNumber { x' with kind := 3 }) := by show _ = _; rw [← HR.out, scan_num (by omega), sepFail_zero hs]
            have c9 := HL.out.c9
            rw [hs] at c9
            have c3 := HL.out.c3
            have f3 := HL.out.free 3
            clear hs
            go_wp2_with (go_at_call 120; refine (fetchNumber_any (x := { x' with kind := 3 }) (HL.out.setKind 3) (HW.out.as rfl rfl rfl) HP.out).mono ?_; rintro e w2 ⟨rfl, vt2, ve2, g3, g4⟩)
            (try simp only [Exit.inBlock, Exit.then])
            refine bodyPost_ret (results_none rfl _ _ _) rfl ?_
            rw [HE.out]
            exact ⟨rfl, vt2, ve2, g3, ((HK.out.setCell 3 _)).trans g4⟩
          · have HE : RowKit.Hid (x.fetch = Lx.fetchNumber { x'.fail with kind := 3 }) := by show _ = _; rw [← HR.out, scan_num (by omega), sepFail_ne hs]
            have c9 := HL.out.c9
            have n1 : (x'.sep == 0) = false := beq_eq_false_iff_ne.2 hs
            have n2 : (x'.sep != 0) = true := bne_iff_ne.2 hs
            clear hs
            go_wp2_with (first | (go_at_call 118; refine (errSyntax_any HL.out HW.out).mono ?_; rintro e w1 ⟨rfl, ve1, g1, g2⟩; have z3 := g1.c3; have zf3 := g1.free 3; have G1 := Lib.hid g1; have G2 := Lib.hid g2; clear g1 g2) | (go_at_call 120; refine (fetchNumber_any (x := { x'.fail with kind := 3 }) (G1.out.setKind 3) (HW.out.fail.as rfl rfl rfl) (by rw [fail_d, fail_pos]; exact HP.out)).mono ?_; rintro e w2 ⟨rfl, vt2, ve2, g3, g4⟩))
            (try simp only [Exit.inBlock, Exit.then])
            refine bodyPost_ret (results_none rfl _ _ _) rfl ?_
            rw [HE.out]
            exact ⟨rfl, vt2, ve2, g3, (((HK.out.trans G2.out).setCell 3 _)).trans g4⟩
      have j53 : (c == 53) = false := beq_eq_false_iff_ne.2 hc
      have J53 := Lib.hid hc
      clear hc
      by_cases hc : c = 54
      · subst hc
        as_aux_lemma =>
          by_cases hs : x'.sep = 0
          · have HE : RowKit.Hid (x.fetch = Lx.fetchNumber { x' with kind := 3 }) := by show _ = _; rw [← HR.out, scan_num (by omega), sepFail_zero hs]
            have c9 := HL.out.c9
            rw [hs] at c9
            have c3 := HL.out.c3
            have f3 := HL.out.free 3
            clear hs
            go_wp2_with (go_at_call 120; refine (fetchNumber_any (x := { x' with kind := 3 }) (HL.out.setKind 3) (HW.out.as rfl rfl rfl) HP.out).mono ?_; rintro e w2 ⟨rfl, vt2, ve2, g3, g4⟩)
            (try simp only [Exit.inBlock, Exit.then])
            refine bodyPost_ret (results_none rfl _ _ _) rfl ?_
            rw [HE.out]
            exact ⟨rfl, vt2, ve2, g3, ((HK.out.setCell 3 _)).trans g4⟩
          · have HE : RowKit.Hid (x.fetch = Lx.fetchNumber { x'.fail with kind := 3 }) := by show _ = _; rw [← HR.out, scan_num (by omega), sepFail_ne hs]
            have c9 := HL.out.c9
            have n1 : (x'.sep == 0) = false := beq_eq_false_iff_ne.2 hs
            have n2 : (x'.sep != 0) = true := bne_iff_ne.2 hs
            clear hs
            go_wp2_with (first | (go_at_call 118; refine (errSyntax_any HL.out HW.out).mono ?_; rintro e w1 ⟨rfl, ve1, g1, g2⟩; have z3 := g1.c3; have zf3 := g1.free 3; have G1 := Lib.hid g1; have G2 := Lib.hid g2; clear g1 g2) | (go_at_call 120; refine (fetchNumber_any (x := { x'.fail with kind := 3 }) (G1.out.setKind 3) (HW.out.fail.as rfl rfl rfl) (by rw [fail_d, fail_pos]; exact HP.out)).mono ?_; rintro e w2 ⟨rfl, vt2, ve2, g3, g4⟩))
            (try simp only [Exit.inBlock, Exit.then])
            refine bodyPost_ret (results_none rfl _ _ _) rfl ?_
            rw [HE.out]
            exact ⟨rfl, vt2, ve2, g3, (((HK.out.trans G2.out).setCell 3 _)).trans g4⟩
      have j54 : (c == 54) = false := beq_eq_false_iff_ne.2 hc
      have J54 := Lib.hid hc
      clear hc
      by_cases hc : c = 55
      · subst hc
        as_aux_lemma =>
          by_cases hs : x'.sep = 0
          · have HE : RowKit.Hid (x.fetch = Lx.fetchNumber { x' with kind := 3 }) := by show _ = _; rw [← HR.out, scan_num (by omega), sepFail_zero hs]
            have c9 := HL.out.c9
            rw [hs] at c9
            have c3 := HL.out.c3
            have f3 := HL.out.free 3
            clear hs
            go_wp2_with (go_at_call 120; refine (fetchNumber_any (x := { x' with kind := 3 }) (HL.out.setKind 3) (HW.out.as rfl rfl rfl) HP.out).mono ?_; rintro e w2 ⟨rfl, vt2, ve2, g3, g4⟩)
            (try simp only [Exit.inBlock, Exit.then])
            refine bodyPost_ret (results_none rfl _ _ _) rfl ?_
            rw [HE.out]
            exact ⟨rfl, vt2, ve2, g3, ((HK.out.setCell 3 _)).trans g4⟩
          · have HE : RowKit.Hid (x.fetch = Lx.fetchNumber { x'.fail with kind := 3 }) := by show _ = _; rw [← HR.out, scan_num (by omega), sepFail_ne hs]
            have c9 := HL.out.c9
            have n1 : (x'.sep == 0) = false := beq_eq_false_iff_ne.2 hs
            have n2 : (x'.sep != 0) = true := bne_iff_ne.2 hs
            clear hs
            go_wp2_with (first | (go_at_call 118; refine (errSyntax_any HL.out HW.out).mono ?_; rintro e w1 ⟨rfl, ve1, g1, g2⟩; have z3 := g1.c3; have zf3 := g1.free 3; have G1 := Lib.hid g1; have G2 := Lib.hid g2; clear g1 g2) | (go_at_call 120; refine (fetchNumber_any (x := { x'.fail with kind := 3 }) (G1.out.setKind 3) (HW.out.fail.as rfl rfl rfl) (by rw [fail_d, fail_pos]; exact HP.out)).mono ?_; rintro e w2 ⟨rfl, vt2, ve2, g3, g4⟩))
            (try simp only [Exit.inBlock, Exit.then])
            refine bodyPost_ret (results_none rfl _ _ _) rfl ?_
            rw [HE.out]
            exact ⟨rfl, vt2, ve2, g3, (((HK.out.trans G2.out).setCell 3 _)).trans g4⟩
      have j55 : (c == 55) = false := beq_eq_false_iff_ne.2 hc
      have J55 := Lib.hid hc
      clear hc
      by_cases hc : c = 56
      · subst hc
        as_aux_lemma =>
          by_cases hs : x'.sep = 0
          · have HE : RowKit.Hid (x.fetch = Lx.fetchNumber { x' with kind := 3 }) := by show _ = _; rw [← HR.out, scan_num (by omega), sepFail_zero hs]
            have c9 := HL.out.c9
            rw [hs] at c9
            have c3 := HL.out.c3
            have f3 := HL.out.free 3
            clear hs
            go_wp2_with (go_at_call 120; refine (fetchNumber_any (x := { x' with kind := 3 }) (HL.out.setKind 3) (HW.out.as rfl rfl rfl) HP.out).mono ?_; rintro e w2 ⟨rfl, vt2, ve2, g3, g4⟩)
            (try simp only [Exit.inBlock, Exit.then])
            refine bodyPost_ret (results_none rfl _ _ _) rfl ?_
            rw [HE.out]
            exact ⟨rfl, vt2, ve2, g3, ((HK.out.setCell 3 _)).trans g4⟩
          · have HE : RowKit.Hid (x.fetch = Lx.fetchNumber { x'.fail with kind := 3 }) := by show _ = _; rw [← HR.out, scan_num (by omega), sepFail_ne hs]
            have c9 := HL.out.c9
            have n1 : (x'.sep == 0) = false := beq_eq_false_iff_ne.2 hs
            have n2 : (x'.sep != 0) = true := bne_iff_ne.2 hs
            clear hs
            go_wp2_with (first | (go_at_call 118; refine (errSyntax_any HL.out HW.out).mono ?_; rintro e w1 ⟨rfl, ve1, g1, g2⟩; have z3 := g1.c3; have zf3 := g1.free 3; have G1 := Lib.hid g1; have G2 := Lib.hid g2; clear g1 g2) | (go_at_call 120; refine (fetchNumber_any (x := { x'.fail with kind := 3 }) (G1.out.setKind 3) (HW.out.fail.as rfl rfl rfl) (by rw [fail_d, fail_pos]; exact HP.out)).mono ?_; rintro e w2 ⟨rfl, vt2, ve2, g3, g4⟩))
            (try simp only [Exit.inBlock, Exit.then])
            refine bodyPost_ret (results_none rfl _ _ _) rfl ?_
            rw [HE.out]
            exact ⟨rfl, vt2, ve2, g3, (((HK.out.trans G2.out).setCell 3 _)).trans g4⟩
      have j56 : (c == 56) = false := beq_eq_false_iff_ne.2 hc
      have J56 := Lib.hid hc
      clear hc
      by_cases hc : c = 57
      · subst hc
        as_aux_lemma =>
          by_cases hs : x'.sep = 0
          · have HE : RowKit.Hid (x.fetch = Lx.fetchNumber { x' with kind := 3 }) := by show _ = _; rw [← HR.out, scan_num (by omega), sepFail_zero hs]
            have c9 := HL.out.c9
            rw [hs] at c9
            have c3 := HL.out.c3
            have f3 := HL.out.free 3
            clear hs
            go_wp2_with (go_at_call 120; refine (fetchNumber_any (x := { x' with kind := 3 }) (HL.out.setKind 3) (HW.out.as rfl rfl rfl) HP.out).mono ?_; rintro e w2 ⟨rfl, vt2, ve2, g3, g4⟩)
            (try simp only [Exit.inBlock, Exit.then])
            refine bodyPost_ret (results_none rfl _ _ _) rfl ?_
            rw [HE.out]
            exact ⟨rfl, vt2, ve2, g3, ((HK.out.setCell 3 _)).trans g4⟩
          · have HE : RowKit.Hid (x.fetch = Lx.fetchNumber { x'.fail with kind := 3 }) := by show _ = _; rw [← HR.out, scan_num (by omega), sepFail_ne hs]
            have c9 := HL.out.c9
            have n1 : (x'.sep == 0) = false := beq_eq_false_iff_ne.2 hs
            have n2 : (x'.sep != 0) = true := bne_iff_ne.2 hs
            clear hs
            go_wp2_with (first | (go_at_call 118; refine (errSyntax_any HL.out HW.out).mono ?_; rintro e w1 ⟨rfl, ve1, g1, g2⟩; have z3 := g1.c3; have zf3 := g1.free 3; have G1 := Lib.hid g1; have G2 := Lib.hid g2; clear g1 g2) | (go_at_call 120; refine (fetchNumber_any (x := { x'.fail with kind := 3 }) (G1.out.setKind 3) (HW.out.fail.as rfl rfl rfl) (by rw [fail_d, fail_pos]; exact HP.out)).mono ?_; rintro e w2 ⟨rfl, vt2, ve2, g3, g4⟩))
            (try simp only [Exit.inBlock, Exit.then])
            refine bodyPost_ret (results_none rfl _ _ _) rfl ?_
            rw [HE.out]
            exact ⟨rfl, vt2, ve2, g3, (((HK.out.trans G2.out).setCell 3 _)).trans g4⟩
      have j57 : (c == 57) = false := beq_eq_false_iff_ne.2 hc
      have J57 := Lib.hid hc
      clear hc
      by_cases hc : c = 45
      · subst hc
        as_aux_lemma =>
          by_cases hs : x'.sep = 0
          · have HE : RowKit.Hid (x.fetch = Lx.fetchNumber { x' with kind := 3 }) := by show _ = _; rw [← HR.out, scan_num (by omega), sepFail_zero hs]
            have c9 := HL.out.c9
            rw [hs] at c9
            have c3 := HL.out.c3
            have f3 := HL.out.free 3
            clear hs
            go_wp2_with (go_at_call 120; refine (fetchNumber_any (x := { x' with kind := 3 }) (HL.out.setKind 3) (HW.out.as rfl rfl rfl) HP.out).mono ?_; rintro e w2 ⟨rfl, vt2, ve2, g3, g4⟩)
            (try simp only [Exit.inBlock, Exit.then])
            refine bodyPost_ret (results_none rfl _ _ _) rfl ?_
            rw [HE.out]
            exact ⟨rfl, vt2, ve2, g3, ((HK.out.setCell 3 _)).trans g4⟩
          · have HE : RowKit.Hid (x.fetch = Lx.fetchNumber { x'.fail with kind := 3 }) := by show _ = _; rw [← HR.out, scan_num (by omega), sepFail_ne hs]
            have c9 := HL.out.c9
            have n1 : (x'.sep == 0) = false := beq_eq_false_iff_ne.2 hs
            have n2 : (x'.sep != 0) = true := bne_iff_ne.2 hs
            clear hs
            go_wp2_with (first | (go_at_call 118; refine (errSyntax_any HL.out HW.out).mono ?_; rintro e w1 ⟨rfl, ve1, g1, g2⟩; have z3 := g1.c3; have zf3 := g1.free 3; have G1 := Lib.hid g1; have G2 := Lib.hid g2; clear g1 g2) | (go_at_call 120; refine (fetchNumber_any (x := { x'.fail with kind := 3 }) (G1.out.setKind 3) (HW.out.fail.as rfl rfl rfl) (by rw [fail_d, fail_pos]; exact HP.out)).mono ?_; rintro e w2 ⟨rfl, vt2, ve2, g3, g4⟩))
            (try simp only [Exit.inBlock, Exit.then])
            refine bodyPost_ret (results_none rfl _ _ _) rfl ?_
            rw [HE.out]
            exact ⟨rfl, vt2, ve2, g3, (((HK.out.trans G2.out).setCell 3 _)).trans g4⟩
      have j45 : (c == 45) = false := beq_eq_false_iff_ne.2 hc
      have J45 := Lib.hid hc
      clear hc
      by_cases hc : c = 110
      · subst hc
        as_aux_lemma =>
          by_cases hs : x'.sep = 0
          · have HE : RowKit.Hid (x.fetch = Lx.word { x' with kind := 5 } [117, 108, 108]) := by show _ = _; rw [← HR.out, scan_n, sepFail_zero hs]
            have c9 := HL.out.c9
            rw [hs] at c9
            have c3 := HL.out.c3
            have f3 := HL.out.free 3
            clear hs
            go_wp2_with (go_at_call 121; refine (fetchNull_any (x := { x' with kind := 5 }) (HL.out.setKind 5) (HW.out.as rfl rfl rfl) HP.out).mono ?_; rintro e w2 ⟨rfl, ve2, g3, g4⟩)
            (try simp only [Exit.inBlock, Exit.then])
            refine bodyPost_ret (results_none rfl _ _ _) rfl ?_
            rw [HE.out]
            exact ⟨rfl, _, ve2, g3, ((HK.out.setCell 3 _)).trans g4⟩
          · have HE : RowKit.Hid (x.fetch = Lx.word { x'.fail with kind := 5 } [117, 108, 108]) := by show _ = _; rw [← HR.out, scan_n, sepFail_ne hs]
            have c9 := HL.out.c9
            have n1 : (x'.sep == 0) = false := beq_eq_false_iff_ne.2 hs
            have n2 : (x'.sep != 0) = true := bne_iff_ne.2 hs
            clear hs
            go_wp2_with (first | (go_at_call 118; refine (errSyntax_any HL.out HW.out).mono ?_; rintro e w1 ⟨rfl, ve1, g1, g2⟩; have z3 := g1.c3; have zf3 := g1.free 3; have G1 := Lib.hid g1; have G2 := Lib.hid g2; clear g1 g2) | (go_at_call 121; refine (fetchNull_any (x := { x'.fail with kind := 5 }) (G1.out.setKind 5) (HW.out.fail.as rfl rfl rfl) (by rw [fail_d, fail_pos]; exact HP.out)).mono ?_; rintro e w2 ⟨rfl, ve2, g3, g4⟩))
            (try simp only [Exit.inBlock, Exit.then])
            refine bodyPost_ret (results_none rfl _ _ _) rfl ?_
            rw [HE.out]
            exact ⟨rfl, _, ve2, g3, (((HK.out.trans G2.out).setCell 3 _)).trans g4⟩
      have j110 : (c == 110) = false := beq_eq_false_iff_ne.2 hc
      have J110 := Lib.hid hc
      clear hc
      by_cases hc : c = 116
      · subst hc
        as_aux_lemma =>
          by_cases hs : x'.sep = 0
          · have HE : RowKit.Hid (x.fetch = Lx.word { x' with kind := 4, bv := true } [114, 117, 101]) := by show _ = _; rw [← HR.out, scan_t, sepFail_zero hs]
            have c9 := HL.out.c9
            rw [hs] at c9
            have c3 := HL.out.c3
            have f3 := HL.out.free 3
            have c4 := HL.out.c4
            have f4 := HL.out.free 4
            clear hs
            go_wp2_with (go_at_call 122; refine (fetchTrue_any (x := { x' with kind := 4, bv := true }) ((HL.out.setKind 4).setBv true) (HW.out.as rfl rfl rfl) HP.out).mono ?_; rintro e w2 ⟨rfl, ve2, g3, g4⟩)
            (try simp only [Exit.inBlock, Exit.then])
            refine bodyPost_ret (results_none rfl _ _ _) rfl ?_
            rw [HE.out]
            exact ⟨rfl, _, ve2, g3, (((HK.out.setCell 3 _).setCell 4 _)).trans g4⟩
          · have HE : RowKit.Hid (x.fetch = Lx.word { x'.fail with kind := 4, bv := true } [114, 117, 101]) := by show _ = _; rw [← HR.out, scan_t, sepFail_ne hs]
            have c9 := HL.out.c9
            have n1 : (x'.sep == 0) = false := beq_eq_false_iff_ne.2 hs
            have n2 : (x'.sep != 0) = true := bne_iff_ne.2 hs
            clear hs
            go_wp2_with (first | (go_at_call 118; refine (errSyntax_any HL.out HW.out).mono ?_; rintro e w1 ⟨rfl, ve1, g1, g2⟩; have z3 := g1.c3; have zf3 := g1.free 3; have z4 := g1.c4; have zf4 := g1.free 4; have G1 := Lib.hid g1; have G2 := Lib.hid g2; clear g1 g2) | (go_at_call 122; refine (fetchTrue_any (x := { x'.fail with kind := 4, bv := true }) ((G1.out.setKind 4).setBv true) (HW.out.fail.as rfl rfl rfl) (by rw [fail_d, fail_pos]; exact HP.out)).mono ?_; rintro e w2 ⟨rfl, ve2, g3, g4⟩))
            (try simp only [Exit.inBlock, Exit.then])
            refine bodyPost_ret (results_none rfl _ _ _) rfl ?_
            rw [HE.out]
            exact ⟨rfl, _, ve2, g3, ((((HK.out.trans G2.out).setCell 3 _).setCell 4 _)).trans g4⟩
      have j116 : (c == 116) = false := beq_eq_false_iff_ne.2 hc
      have J116 := Lib.hid hc
      clear hc
      by_cases hc : c = 102
      · subst hc
        as_aux_lemma =>
          by_cases hs : x'.sep = 0
          · have HE : RowKit.Hid (x.fetch = Lx.word { x' with kind := 4, bv := false } [97, 108, 115, 101]) := by show _ = _; rw [← HR.out, scan_f, sepFail_zero hs]
            have c9 := HL.out.c9
            rw [hs] at c9
            have c3 := HL.out.c3
            have f3 := HL.out.free 3
            have c4 := HL.out.c4
            have f4 := HL.out.free 4
            clear hs
            go_wp2_with (go_at_call 123; refine (fetchFalse_any (x := { x' with kind := 4, bv := false }) ((HL.out.setKind 4).setBv false) (HW.out.as rfl rfl rfl) HP.out).mono ?_; rintro e w2 ⟨rfl, ve2, g3, g4⟩)
            (try simp only [Exit.inBlock, Exit.then])
            refine bodyPost_ret (results_none rfl _ _ _) rfl ?_
            rw [HE.out]
            exact ⟨rfl, _, ve2, g3, (((HK.out.setCell 3 _).setCell 4 _)).trans g4⟩
          · have HE : RowKit.Hid (x.fetch = Lx.word { x'.fail with kind := 4, bv := false } [97, 108, 115, 101]) := by show _ = _; rw [← HR.out, scan_f, sepFail_ne hs]
            have c9 := HL.out.c9
            have n1 : (x'.sep == 0) = false := beq_eq_false_iff_ne.2 hs
            have n2 : (x'.sep != 0) = true := bne_iff_ne.2 hs
            clear hs
            go_wp2_with (first | (go_at_call 118; refine (errSyntax_any HL.out HW.out).mono ?_; rintro e w1 ⟨rfl, ve1, g1, g2⟩; have z3 := g1.c3; have zf3 := g1.free 3; have z4 := g1.c4; have zf4 := g1.free 4; have G1 := Lib.hid g1; have G2 := Lib.hid g2; clear g1 g2) | (go_at_call 123; refine (fetchFalse_any (x := { x'.fail with kind := 4, bv := false }) ((G1.out.setKind 4).setBv false) (HW.out.fail.as rfl rfl rfl) (by rw [fail_d, fail_pos]; exact HP.out)).mono ?_; rintro e w2 ⟨rfl, ve2, g3, g4⟩))
            (try simp only [Exit.inBlock, Exit.then])
            refine bodyPost_ret (results_none rfl _ _ _) rfl ?_
            rw [HE.out]
            exact ⟨rfl, _, ve2, g3, ((((HK.out.trans G2.out).setCell 3 _).setCell 4 _)).trans g4⟩
      have j102 : (c == 102) = false := beq_eq_false_iff_ne.2 hc
      have J102 := Lib.hid hc
      clear hc
      have HE : RowKit.Hid (x.fetch = x'.fail) := by
        show _ = _
        rw [← HR.out]
        have q : ∀ n : Int, c ≠ n → c ≠ n := fun _ h => h
        exact scan_else J58.out J44.out (by simp [isBl, J32.out, J9.out, J13.out, J10.out]) J34.out J123.out J91.out J125.out J93.out
          (by have h0 := J48.out; have h1 := J49.out; have h2 := J50.out; have h3 := J51.out; have h4 := J52.out; have h5 := J53.out; have h6 := J54.out; have h7 := J55.out; have h8 := J56.out; have h9 := J57.out; simp [isDig]; omega)
          J45.out J110.out J116.out J102.out
      go_wp2_with (go_at_call 118; refine (errSyntax_any HL.out HW.out).mono ?_; rintro e w1 ⟨rfl, ve1, g1, g2⟩; have G1 := Lib.hid g1; have G2 := Lib.hid g2; clear g1 g2)
      (try simp only [Exit.inBlock, Exit.then])
      refine bodyPost_ret (results_none rfl _ _ _) rfl ?_
      rw [HE.out]
      exact ⟨rfl, _, _, G1.out, HK.out.trans G2.out⟩
end
end Go.Proofs.YtaecbclonmhbcaaGreatDoor
