/- Lexer.Bytes, of a lexer in whatever mode. The smaller methods of a lexer in whatever mode. Raw, AddNonFatalError, Consumed, of a lexer in whatever mode. Printed by gen_mopd.py. Consumed, of a lexer in whatever mode. Printed by gen_mope.py. A lexer in whatever mode beside blocks that hold what calls tell. -/
import Derived.Test.YtaecbclonmhbcaaGreatDoorP43
import Derived.Test.YtaecbclonmhbcaaGreatDoorP35
import Derived.Deep.RegionHeld3
import Derived.BigQuiet
import Derived.Test.YtaecbclonmhbcaaGreatDoorP33
set_option linter.unusedVariables false
set_option linter.unusedSimpArgs false
namespace Go.Proofs.YtaecbclonmhbcaaGreatDoor
open Go.RowKit
def BytesQ (F : Fix) : Value → Lx → World → Value → Prop := fun r _ w' vm' => ∃ l : List Int, BytesAt w' ((F.ae.both vm').off F.b) r l ∧ l.length ≤ 100000
section
variable {F : Fix} {w0 w : World} {vm0 vt ve vm : Value} {p n : Nat} {x : Lx}
theorem not_peek (h : (x.kind == 0 && x.ok) = false) : x.kind ≠ 0 ∨ x.ok = false := by
  by_cases hk : x.kind = 0
  · rw [hk] at h; exact .inr (by simpa using h)
  · exact .inl hk
set_option maxHeartbeats 16000000 in
set_option maxRecDepth 100000 in
theorem bytesM (h : MSt F w0 vm0 p n w x vt ve vm) (hn : n ≤ 1000000) : Calls Tryz.prog 61 #[.pointer (some ⟨F.b, 0, none⟩)] w (MEnd F w0 vm0 p (n + 1) (BytesQ F)) := by
  have H := Lib.hid h
  have c3 := h.mx.lx.c3
  clear h
  go_enter Tryz.func61, Tryz.ntmps61
  go_upto_region 1 with fail
  go_cut [16] from 7 to 16 (fun a16 wx => a16 = .bool (x.kind == 0 && x.ok) ∧ w = wx)
  case first =>
    by_cases hk : x.kind = 0
    case neg =>
      have n1 : ((x.kind : Int) == 0) = false := beq_eq_false_iff_ne.2 (by omega)
      have n2 : (x.kind == 0) = false := beq_eq_false_iff_ne.2 hk
      go_wp2_with (go_at_call 47; refine (okM H.out).mono ?_; rintro e w2 ⟨rfl, rfl⟩)
      go_meet
      exact ⟨by rw [n2]; rfl, rfl⟩
    case pos =>
      rw [hk] at c3
      have n2 : (x.kind == 0) = true := beq_iff_eq.2 hk
      have HN2 := Lib.hid n2
      clear n2 hk
      go_wp2_with (go_at_call 47; refine (okM H.out).mono ?_; rintro e w2 ⟨rfl, rfl⟩)
      go_meet
      exact ⟨by rw [HN2.out]; rfl, rfl⟩
  case rest =>
    obtain ⟨rfl, rfl⟩ := hcut
    clear c3
    go_upto_if 16 with fail
    go_cut [] from 16 to 18 (fun wx => ∃ vt' ve', MSt F w0 vm0 p n wx x.peek vt' ve' vm ∧ (F.g → x.peek.multi = true → x.peek.ok = true → Fresh x.peek))
    case first =>
      cases hc : (x.kind == 0 && x.ok) with
      | false =>
        have HC := Lib.hid hc
        clear hc
        go_wp2_with fail
        go_meet
        rw [peek_kept HC.out]
        exact ⟨_, _, H.out, H.out.freshOld (not_peek HC.out)⟩
      | true =>
        have HPN := Lib.hid (peek_new (x := x) hc)
        clear hc
        go_wp2_with (go_at_call 86; refine (fetchM H.out).mono ?_; rintro e w1 ⟨r1, x1, vt1, ve1, vm1, rfl, ⟨rfl, rfl, rfl⟩, h1⟩; have HFE := Lib.hid h1; clear h1)
        go_meet
        rw [HPN.out]
        exact ⟨_, _, HFE.out, H.out.freshNew⟩
    case rest =>
      obtain ⟨vt1, ve1, g1, hf1⟩ := hcut
      generalize x.peek = Y at g1 hf1
      have G1 := Lib.hid g1
      have HF := Lib.hid hf1
      have c3 := g1.mx.lx.c3
      clear g1 hf1 H
      cases ho : Y.ok with
      | false =>
        have HO := Lib.hid ho
        clear ho
        go_wp2_with (first | (go_at_call 47; refine (okM G1.out).mono ?_; rintro e w2 ⟨he, rfl⟩; rw [HO.out] at he; subst he) | (go_at_call 103; refine (errM G1.out hn HF.out _ (by decide)).mono ?_; rintro e w4 ⟨r4, x4, vt4, ve4, vm4, rfl, ⟨rfl, hb4⟩, g4⟩; have H4 := Lib.hid g4; clear hb4 g4))
        exact bodyPost_ret (results_tmp rfl _ _ _) rfl ⟨_, _, _, _, _, rfl, ⟨[], .inl ⟨rfl, rfl⟩, by decide⟩, H4.out⟩
      | true =>
        have HO := Lib.hid ho
        clear ho
        by_cases hk : Y.kind = 2
        case neg =>
          have d2 : ((Y.kind : Int) != 2) = true := bne_iff_ne.2 (by omega)
          go_wp2_with (first | (go_at_call 47; refine (okM G1.out).mono ?_; rintro e w2 ⟨he, rfl⟩; rw [HO.out] at he; subst he) | (go_at_call 103; refine (errM G1.out hn HF.out _ (by decide)).mono ?_; rintro e w4 ⟨r4, x4, vt4, ve4, vm4, rfl, ⟨rfl, hb4⟩, g4⟩; have H4 := Lib.hid g4; clear hb4 g4))
          exact bodyPost_ret (results_tmp rfl _ _ _) rfl ⟨_, _, _, _, _, rfl, ⟨[], .inl ⟨rfl, rfl⟩, by decide⟩, H4.out⟩
        case pos =>
          have d2 : ((Y.kind : Int) != 2) = false := by simp; omega
          have HKD := Lib.hid hk
          obtain ⟨ht1, ht2⟩ := G1.out.good.tf HO.out (.inl hk)
          have HTB := Lib.hid ht2
          have hl0 := G1.out.good.len
          have htl : Y.tok.length ≤ 100000 := by omega
          clear ht2 hk
          cases hu : unesc (Y.tok.length + 1) [] Y.tok with
          | none =>
            have HU := Lib.hid hu
            clear hu
            go_wp2_with (first | (go_at_call 47; refine (okM G1.out).mono ?_; rintro e w2 ⟨he, rfl⟩; rw [HO.out] at he; subst he) | (go_at_call 109; refine (unescM_none G1.out HO.out HKD.out HU.out).mono ?_; rintro e w5 ⟨v5, vt5, ve5, rfl, g5⟩; have G5 := Lib.hid g5; clear g5) | (go_at_call 103; refine (errM G5.out hn (fun _ _ e => absurd e (by rw [fail_ok]; decide)) _ (by decide)).mono ?_; rintro e w4 ⟨r4, x4, vt4, ve4, vm4, rfl, ⟨rfl, hb4⟩, g4⟩; have H4 := Lib.hid g4; clear hb4 g4))
            exact bodyPost_ret (results_tmp rfl _ _ _) rfl ⟨_, _, _, _, _, rfl, ⟨[], .inl ⟨rfl, rfl⟩, by decide⟩, H4.out⟩
          | some l =>
            obtain ⟨hlb, hll⟩ := unesc_good _ _ _ _ hu (fun _ h => by cases h) (LB.of_bytes HTB.out)
            have HLB := Lib.hid hlb
            have HU := Lib.hid hu
            have hll' : l.length ≤ 100000 := by simp at hll; omega
            clear hlb hll hu
            go_upto_region 10 with (first | (go_at_call 47; refine (okM G1.out).mono ?_; rintro e w2 ⟨he, rfl⟩; rw [HO.out] at he; subst he) | (go_at_call 109; refine (unescM_some G1.out HO.out HKD.out HU.out).mono ?_; rintro e w5 ⟨c, vt5, ve5, rfl, g5, -⟩; have G5 := Lib.hid g5; clear g5))
            obtain ⟨pt, ct, hvt⟩ : ∃ p c, vt5 = .slice p l.length c := G5.out.bytes.isSlice
            subst hvt
            have y6 := G5.out.mx.lx.c6
            have hb5 := G5.out.mx.lx.lt
            obtain ⟨D, hD⟩ : ∃ D, D = l.length / 4 * 3 := ⟨_, rfl⟩
            have hD1 : D ≤ 100000 := by omega
            have HDD := Lib.hid hD
            have hmk := mk_room D hD1
            clear hD d2 c3
            go_cut [4] from 38 to 46 (fun a4 wx => ∃ d, a4 = .slice (some ⟨d, 0, none⟩) D D ∧ DstAt wx d D ∧ w5.heap.size ≤ d ∧ d < wx.heap.size ∧ Below w5.heap.size w5 wx)
            case first =>
              go_region_with (first
                | (go_at_call 112; refine (stdEnc_any _).mono ?_; rintro e w6 ⟨rfl, h1, h2, h3⟩; have k6 := (h2.cell (p := ⟨F.b, 6, none⟩) hb5).trans y6; have HE6 := Lib.hid h1; have HB6 := Lib.hid h2; have hs6 := h2.size; clear h1 h2 h3)
                | (go_at_call 113; refine (decodedLen_any HE6.out l.length hll').mono ?_; rintro e w7 ⟨he, rfl⟩; rw [← HDD.out] at he; subst he))
              all_goals
                go_wp2_with fail
                go_meet
                exact ⟨w6.heap.size, rfl, room_dst D w6, hs6, by simp, Below.alloc (((below_drewN w5 _).trans HB6.out)) (by have := hs6; exact this) _⟩
            case rest =>
              obtain ⟨d, rfl, hd1, hd2, hd3, hd4⟩ := hcut
              have HD1 := Lib.hid hd1
              have HB := Lib.hid hd4
              have k6 := (hd4.cell (p := ⟨F.b, 6, none⟩) hb5).trans y6
              clear hd1 hd4 y6 hmk
              go_upto_region 11 with fail
              go_cut [5, 6] from 47 to 57 (fun a5 a6 wx => ∃ (n' : Nat) (er : Value), a5 = .int .i64 n' ∧ a6 = er ∧ ((er = .nilIface ∧ n' ≤ D) ∨ QErr er) ∧ DstAt wx d D ∧ d < wx.heap.size ∧ Below w5.heap.size w5 wx)
              case first =>
                go_region_with (first
                  | (go_at_call 112; refine (stdEnc_any _).mono ?_; rintro e w6 ⟨rfl, h1, h2, h3⟩; have j6 := (h2.cell (p := ⟨F.b, 6, none⟩) (Nat.lt_of_lt_of_le hb5 HB.out.size)).trans k6; have HE6 := Lib.hid h1; have HD6 := Lib.hid (HD1.out.keep (h2.block d hd3)); have HB6 := Lib.hid (HB.out.trans (Below.mono ((below_drewN _ _).trans h2) HB.out.size)); have hd6 := Nat.lt_of_lt_of_le hd3 h2.size; have nde : d ≠ wc.heap.size := Nat.ne_of_lt hd3; clear h1 h2 h3)
                  | (go_at_call 114; refine (decode_tok G5.out.bytes HB6.out HLB.out hll' HDD.out HE6.out HD6.out hd2 hd6 nde).mono ?_; rintro e w7 ⟨n', er, rfl, hq, hw⟩; have HQ := Lib.hid hq; have HW := Lib.hid hw; clear hq hw))
                all_goals
                  go_wp2_with fail
                  go_meet
                  exact ⟨n', er, rfl, rfl, HQ.out, HW.out.1, Nat.lt_of_lt_of_le hd6 HW.out.2.size, below_kept HB6.out HW.out.2 hd2 (Nat.le_refl _)⟩
              case rest =>
                obtain ⟨n', er, rfl, rfl, hq, hdw, hdl, hbw⟩ := hcut
                have HDW := Lib.hid hdw
                have HBW := Lib.hid hbw
                clear hdw hbw k6 hd3
                have HG10 := Lib.hid (G5.out.below HBW.out)
                have HT := Lib.hid HG10.out.gr.tabs
                rcases hq with ⟨rfl, hnD⟩ | ⟨z, rfl, hz0, hz1⟩
                · have hsl := slice_h d D n' hnD
                  have hdb : d ≠ F.b := by omega
                  have hnd : ¬ (F.ae.both vm).off F.b d := by
                    rintro (e | e)
                    · exact hdb e
                    · have := G5.out.lx.held _ e; omega
                  go_wp2_with (go_at_call 104; refine (consume_any HG10.out.lx).mono ?_; rintro e w9 ⟨rfl, g3, g4⟩; have G3 := Lib.hid g3; have G4 := Lib.hid g4; clear g3 g4)
                  obtain ⟨l', hl1, hl2⟩ := (HDW.out.keep (G4.out.block d hdl hdb)).bytes hnD (Nat.lt_of_lt_of_le hdl G4.out.size) hnd
                  exact bodyPost_ret (results_tmp rfl _ _ _) rfl ⟨_, _, _, _, _, rfl, ⟨l', hl2, by omega⟩, (HG10.out.step G4.out G3.out rfl HG10.out.good.consume fun _ => ⟨Nat.le_refl _, consume_ref⟩).le (Nat.le_succ n)⟩
                · have hm : ∀ W, (method 390 178 (.int .i64 z) "Error").run Tryz.prog W = .ok (280, .int .i64 z) W := fun W => by show _ = _; kernel_rfl
                  have c11 := HG10.out.mx.lx.c11
                  have f11 := HG10.out.mx.lx.free 11
                  go_wp2_with (go_at_call 280; refine (corrupt_any z hz0 hz1 _ HT.out).mono ?_; rintro e w9 ⟨⟨t, rfl⟩, hb9⟩; have hg := HG10.out.below hb9; have d11 := hg.mx.lx.c11; have e11 := hg.mx.lx.free 11; have l11 := hg.mx.lx.lt; have m11 := Nat.ne_of_lt hg.mx.lx.lt; have G11 := Lib.hid hg; clear hg hb9)
                  exact bodyPost_ret (results_tmp rfl _ _ _) rfl ⟨_, _, _, _, _, rfl, ⟨[], .inl ⟨rfl, rfl⟩, by decide⟩, (G11.out.newErr t ⟨#[]⟩ (Nat.zero_le _)).le (Nat.le_succ n)⟩
end
end Go.Proofs.YtaecbclonmhbcaaGreatDoor

namespace Go.Proofs.YtaecbclonmhbcaaGreatDoor
open Go.RowKit
section
variable {F : Fix} {w0 w : World} {vm0 vt ve vm : Value} {p n : Nat} {x : Lx}
set_option maxHeartbeats 1000000 in
theorem unsafeStringM (h : MSt F w0 vm0 p n w x vt ve vm) (hn : n ≤ 1000000) :
    Calls Tryz.prog 58 #[.pointer (some ⟨F.b, 0, none⟩)] w (MEnd F w0 vm0 p (n + 1) StrQ) := by
  have HC := Lib.hid (usM_false h hn)
  clear h
  go_enter Tryz.func58, Tryz.ntmps58
  go_wp2_with (go_at_call 111; refine HC.out.mono ?_; rintro e w1 ⟨r1, x1, vt1, ve1, vm1, rfl, ⟨s, v, l, rfl, hs, hv, hl⟩, g1⟩; have HG := Lib.hid g1; clear g1 hv)
  go_ret
  exact ⟨_, _, _, _, _, rfl, ⟨s, rfl, hs⟩, HG.out⟩
set_option maxHeartbeats 1000000 in
theorem unsafeBytesM (h : MSt F w0 vm0 p n w x vt ve vm) (hn : n ≤ 1000000) :
    Calls Tryz.prog 59 #[.pointer (some ⟨F.b, 0, none⟩)] w (MEnd F w0 vm0 p (n + 1) (BytesQ F)) := by
  have HC := Lib.hid (usM_false h hn)
  clear h
  go_enter Tryz.func59, Tryz.ntmps59
  go_wp2_with (go_at_call 111; refine HC.out.mono ?_; rintro e w1 ⟨r1, x1, vt1, ve1, vm1, rfl, ⟨s, v, l, rfl, hs, hv, hl⟩, g1⟩; have HG := Lib.hid g1; have HV := Lib.hid hv; clear g1 hv)
  go_ret
  exact ⟨_, _, _, _, _, rfl, ⟨l, HV.out, hl⟩, HG.out⟩
set_option maxHeartbeats 1000000 in
theorem unsafeNameM (h : MSt F w0 vm0 p n w x vt ve vm) (hn : n ≤ 1000000) (t : Bool) :
    Calls Tryz.prog 60 #[.pointer (some ⟨F.b, 0, none⟩), .bool t] w (MEnd F w0 vm0 p (n + 1) StrQ) := by
  have HC : Hid (Calls Tryz.prog 111 #[.pointer (some ⟨F.b, 0, none⟩), .bool t] w (MEnd F w0 vm0 p (n + 1) (UsQ F))) := by
    cases t
    · exact usM_false h hn
    · exact usM_true h hn
  clear h
  go_enter Tryz.func60, Tryz.ntmps60
  go_wp2_with (go_at_call 111; refine HC.out.mono ?_; rintro e w1 ⟨r1, x1, vt1, ve1, vm1, rfl, ⟨s, v, l, rfl, hs, hv, hl⟩, g1⟩; have HG := Lib.hid g1; clear g1 hv)
  go_ret
  exact ⟨_, _, _, _, _, rfl, ⟨s, rfl, hs⟩, HG.out⟩
set_option maxHeartbeats 1000000 in
theorem isStartM (h : MSt F w0 vm0 p n w x vt ve vm) :
    Calls Tryz.prog 91 #[.pointer (some ⟨F.b, 0, none⟩)] w fun e w' => (∃ t, e = .returned (.bool t)) ∧ w = w' := by
  have c2 := h.lx.c2
  clear h
  go_enter Tryz.func91, Tryz.ntmps91
  go_wp2
  go_ret
  exact ⟨⟨_, rfl⟩, rfl⟩
set_option maxHeartbeats 1000000 in
theorem wantCommaM (h : MSt F w0 vm0 p n w x vt ve vm) :
    Calls Tryz.prog 92 #[.pointer (some ⟨F.b, 0, none⟩)] w (MEnd F w0 vm0 p n fun r _ _ _ => r = .tuple #[]) := by
  have H := Lib.hid h
  have c8 := h.lx.c8
  have c9 := h.lx.c9
  have f8 := h.lx.free 8
  have f9 := h.lx.free 9
  clear h
  go_enter Tryz.func92, Tryz.ntmps92
  go_wp2
  go_end0
  exact ⟨_, { x with sep := 44, fst := false }, vt, ve, vm, rfl, rfl, H.out.step (((Kept.refl F.b w).setCell 9 _).setCell 8 _) ((H.out.lx.setSep 44).setFst false) rfl (H.out.good.setSep 44) fun g => ⟨Nat.le_refl _, (H.out.mov g).2⟩⟩
set_option maxHeartbeats 1000000 in
theorem wantColonM (h : MSt F w0 vm0 p n w x vt ve vm) :
    Calls Tryz.prog 93 #[.pointer (some ⟨F.b, 0, none⟩)] w (MEnd F w0 vm0 p n fun r _ _ _ => r = .tuple #[]) := by
  have H := Lib.hid h
  have c8 := h.lx.c8
  have c9 := h.lx.c9
  have f8 := h.lx.free 8
  have f9 := h.lx.free 9
  clear h
  go_enter Tryz.func93, Tryz.ntmps93
  go_wp2
  go_end0
  exact ⟨_, { x with sep := 58, fst := false }, vt, ve, vm, rfl, rfl, H.out.step (((Kept.refl F.b w).setCell 9 _).setCell 8 _) ((H.out.lx.setSep 58).setFst false) rfl (H.out.good.setSep 58) fun g => ⟨Nat.le_refl _, (H.out.mov g).2⟩⟩
set_option maxHeartbeats 1000000 in
theorem errorsM (h : MSt F w0 vm0 p n w x vt ve vm) :
    Calls Tryz.prog 29 #[.pointer (some ⟨F.b, 0, none⟩)] w fun e w' => e = .returned vm ∧ w = w' := by
  have c12 := h.lx.c12
  clear h
  go_enter Tryz.func29, Tryz.ntmps29
  go_wp2
  go_ret
  exact ⟨rfl, rfl⟩
theorem addErrorM (h : MSt F w0 vm0 p n w x vt ve vm) :
    Calls Tryz.prog 48 #[.pointer (some ⟨F.b, 0, none⟩), .iface 191 (.pointer (some F.ao))] w (MEnd F w0 vm0 p n fun r _ _ _ => r = .tuple #[]) := by
  refine (addError_any h.lx).mono ?_
  rintro e w' ⟨rfl, hd⟩
  have hs : x.added.errs = x.errs := by unfold Lx.added; split <;> rfl
  have hg : Good F.l F.mu n x.added := by
    unfold Lx.added
    split
    · exact h.good.err rfl (fun o e => by cases e)
    · exact h.good
  obtain ⟨vt', ve', h1⟩ := h.num hd hs hg fun g => by
    unfold Lx.added
    split
    · exact ⟨Nat.le_refl _, fun _ _ e => by cases e⟩
    · exact ⟨Nat.le_refl _, (h.mov g).2⟩
  exact ⟨_, _, vt', ve', vm, rfl, rfl, h1⟩
theorem skipRecM (h : MSt F w0 vm0 p n w x vt ve vm) :
    Calls Tryz.prog 89 #[.pointer (some ⟨F.b, 0, none⟩)] w (MEnd F w0 vm0 p n fun r _ _ _ => r = .tuple #[]) := by
  refine (skipRM h).mono ?_
  rintro e w' ⟨x', vt', ve', rfl, -, h1⟩
  exact ⟨_, x', vt', ve', vm, rfl, rfl, h1⟩
end
end Go.Proofs.YtaecbclonmhbcaaGreatDoor

namespace Go.Proofs.YtaecbclonmhbcaaGreatDoor
open Go.RowKit
section
variable {F : Fix} {w0 w : World} {vm0 vt ve vm : Value} {p n : Nat} {x : Lx}
set_option maxHeartbeats 4000000 in
set_option maxRecDepth 100000 in
theorem rawM (h : MSt F w0 vm0 p n w x vt ve vm) : Calls Tryz.prog 90 #[.pointer (some ⟨F.b, 0, none⟩)] w (MEnd F w0 vm0 p n (BytesQ F)) := by
  have H := Lib.hid h
  clear h
  go_enter Tryz.func90, Tryz.ntmps90
  go_wp2_with (first
    | (go_at_call 89; refine (skipRecM H.out).mono ?_; rintro e w1 ⟨r1, x1, vt1, ve1, vm1, rfl, rfl, g1⟩; have G1 := Lib.hid g1; clear g1)
    | (go_at_call 47; refine (okM G1.out).mono ?_; rintro e w2 ⟨he, rfl⟩; rcases Bool.eq_false_or_eq_true x1.ok with ho | ho <;> rw [ho] at he <;> clear ho <;> subst he))
  · obtain ⟨st, hst⟩ : ∃ st, st = x1.start := ⟨_, rfl⟩
    obtain ⟨q, hq⟩ : ∃ q, q = x1.pos := ⟨_, rfl⟩
    have hwf := G1.out.good.wf
    have hdl : x1.d = F.l := G1.out.good.d
    have hsq : st ≤ q := by rw [hst, hq]; exact hwf.start
    have hql : q ≤ F.l.length := by rw [hq, ← hdl]; exact hwf.pos
    have hnl : F.l.length ≤ 100000 := by rw [← hdl]; exact G1.out.good.len
    have d1 : w1.cell? ⟨F.b, 1, none⟩ = some (.int .i64 (st : Nat)) := by rw [hst]; exact G1.out.lx.c1
    have d2 : w1.cell? ⟨F.b, 2, none⟩ = some (.int .i64 (q : Nat)) := by rw [hq]; exact G1.out.lx.c2
    have d0 : w1.cell? ⟨F.b, 0, none⟩ = some F.vd := G1.out.lx.c0
    have hdata : BytesAt w1 ((F.ae.both vm1).off F.b) F.vd F.l := by rw [← hdl]; exact G1.out.lx.data
    have HST := Lib.hid hst
    have HQQ := Lib.hid hq
    have hltb : F.b < w1.heap.size := G1.out.lx.lt
    clear hwf hst hq hdl
    generalize hN : F.l.length = N at hql hnl
    rcases hdata with ⟨h0, hv⟩ | ⟨bd, o, cap, hv, hc, hne, hx⟩
    · have hl0 : F.l.length = 0 := by rw [h0]; rfl
      rw [hN] at hl0
      obtain rfl : q = 0 := by omega
      obtain rfl : st = 0 := by omega
      rw [hv] at d0
      go_quiet (fail)
      go_wp2
      go_ret
      exact ⟨_, _, _, _, _, rfl, ⟨[], .inl ⟨rfl, rfl⟩, by decide⟩, G1.out.drewN nq⟩
    · have hvd := hv
      rw [hv, hN] at d0
      rw [hN] at hc
      have HCUT := Lib.hid (G1.out.cutAt hvd (a := st) (c := q) hsq (by omega))
      have hlen : ((F.l.drop st).take (q - st)).length ≤ 100000 := by simp; omega
      have HLEN := Lib.hid hlen
      clear hx hlen
      have i1 : (st : Int) ≤ (q : Int) := by omega
      have i2 : (q : Int) ≤ (cap : Int) := by omega
      by_cases hcs : cap = st
      · obtain rfl : q = st := by omega
        go_quiet (fail)
        go_wp2
        go_ret
        refine ⟨_, _, _, _, _, rfl, ⟨[], ?_, by decide⟩, G1.out.drewN nq⟩
        exact .inr ⟨bd, o, _, rfl, Nat.zero_le _, hne, fun i hi => absurd hi (Nat.not_lt_zero i)⟩
      · go_quiet (fail)
        go_wp2
        go_ret
        exact ⟨_, _, _, _, _, rfl, ⟨_, HCUT.out.kept (kept_below (below_drewN w1 nq) F.b), HLEN.out⟩, G1.out.drewN nq⟩
  · go_ret
    exact ⟨_, _, _, _, _, rfl, ⟨[], .inl ⟨rfl, rfl⟩, by decide⟩, G1.out⟩
set_option maxHeartbeats 8000000 in
set_option maxRecDepth 100000 in
theorem addNonFatalM (h : MSt F w0 vm0 p n w x vt ve vm) (hn : n ≤ 1000000) :
    Calls Tryz.prog 94 #[.pointer (some ⟨F.b, 0, none⟩), .iface 191 (.pointer (some F.ao))] w (MEnd F w0 vm0 p (n + 1) fun r _ _ _ => r = .tuple #[]) := by
  have H := Lib.hid h
  obtain ⟨te, hte, htc⟩ := h.nm.text
  have hmt : ∀ W, (method 390 191 (.pointer (some F.ao)) "Error").run Tryz.prog W = .ok (282, .pointer (some F.ao)) W := fun W => by show _ = _; kernel_rfl
  obtain ⟨st, hst⟩ : ∃ st, st = x.start := ⟨_, rfl⟩
  obtain ⟨q, hq⟩ : ∃ q, q = x.pos := ⟨_, rfl⟩
  have hwf := H.out.good.wf
  have hdl : x.d = F.l := H.out.good.d
  have hsq : st ≤ q := by rw [hst, hq]; exact hwf.start
  have hql : q ≤ F.l.length := by rw [hq, ← hdl]; exact hwf.pos
  have hnl : F.l.length ≤ 100000 := by rw [← hdl]; exact H.out.good.len
  have d1 : w.cell? ⟨F.b, 1, none⟩ = some (.int .i64 (st : Nat)) := by rw [hst]; exact H.out.lx.c1
  have d2 : w.cell? ⟨F.b, 2, none⟩ = some (.int .i64 (q : Nat)) := by rw [hq]; exact H.out.lx.c2
  have d0 : w.cell? ⟨F.b, 0, none⟩ = some F.vd := H.out.lx.c0
  have hdata : BytesAt w ((F.ae.both vm).off F.b) F.vd F.l := by rw [← hdl]; exact H.out.lx.data
  have HST := Lib.hid hst
  have HQQ := Lib.hid hq
  have hltb : F.b < w.heap.size := H.out.lx.lt
  clear hwf hst hq hdl
  generalize hN : F.l.length = N at hql hnl
  clear h
  rcases hdata with ⟨h0, hv⟩ | ⟨bd, o, cap, hv, hc, hne, hx⟩
  · have hl0 : F.l.length = 0 := by rw [h0]; rfl
    rw [hN] at hl0
    obtain rfl : q = 0 := by omega
    obtain rfl : st = 0 := by omega
    rw [hv] at d0
    have hcv := conv_nil
    go_enter Tryz.func94, Tryz.ntmps94
    go_region_held3 (fun w' => w'.cell? ⟨F.b, 0, none⟩ = some (.slice none 0 0) ∧ w'.cell? ⟨F.b, 1, none⟩ = some (.int .i64 (0 : Nat)) ∧ w'.cell? ⟨F.b, 2, none⟩ = some (.int .i64 (0 : Nat))) (first | exact ⟨k0, k1, k2⟩ | go_keep) (first | (go_at_call 282; refine (errString_any F.ao te w.drew htc).mono ?_; rintro e w8 ⟨rfl, rfl⟩) | (go_at_call 108; refine (addM_new H.out.drew1 hn _ _ (by rw [hN]; omega)).mono ?_; rintro e w9 ⟨r9, x9, vt9, ve9, vm9, rfl, ⟨rfl, rfl⟩, g9⟩; have k0 : w9.cell? ⟨F.b, 0, none⟩ = some (.slice none 0 0) := (g9.lx.c0).trans (by rw [hv]); have k1 : w9.cell? ⟨F.b, 1, none⟩ = some (.int .i64 (0 : Nat)) := (g9.lx.c1).trans (by rw [addNf_start]; exact congrArg (fun z : Nat => some (Value.int .i64 z)) HST.out.symm); have k2 : w9.cell? ⟨F.b, 2, none⟩ = some (.int .i64 (0 : Nat)) := (g9.lx.c2).trans (by rw [addNf_pos]; exact congrArg (fun z : Nat => some (Value.int .i64 z)) HQQ.out.symm); have H9 := Lib.hid g9; clear g9))
    all_goals
      go_wp2_with fail
      go_end0
      exact ⟨_, _, _, _, _, rfl, rfl, H9.out⟩
  · have hvd := hv
    rw [hv, hN] at d0
    rw [hN] at hc
    by_cases hcs : cap = st
    · obtain rfl : q = st := by omega
      have hcv := conv_empty
      clear hx
      go_enter Tryz.func94, Tryz.ntmps94
      go_region_held3 (fun w' => w'.cell? ⟨F.b, 0, none⟩ = some (.slice (some ⟨bd, o, none⟩) N cap) ∧ w'.cell? ⟨F.b, 1, none⟩ = some (.int .i64 (q : Nat)) ∧ w'.cell? ⟨F.b, 2, none⟩ = some (.int .i64 (q : Nat))) (first | exact ⟨k0, k1, k2⟩ | go_keep) (first | (go_at_call 282; refine (errString_any F.ao te w.drew htc).mono ?_; rintro e w8 ⟨rfl, rfl⟩) | (go_at_call 108; refine (addM_new H.out.drew1 hn _ _ (by rw [hN]; omega)).mono ?_; rintro e w9 ⟨r9, x9, vt9, ve9, vm9, rfl, ⟨rfl, rfl⟩, g9⟩; have k0 : w9.cell? ⟨F.b, 0, none⟩ = some (.slice (some ⟨bd, o, none⟩) N cap) := (g9.lx.c0).trans (by rw [hv, hN]); have k1 : w9.cell? ⟨F.b, 1, none⟩ = some (.int .i64 (q : Nat)) := (g9.lx.c1).trans (by rw [addNf_start]; exact congrArg (fun z : Nat => some (Value.int .i64 z)) HST.out.symm); have k2 : w9.cell? ⟨F.b, 2, none⟩ = some (.int .i64 (q : Nat)) := (g9.lx.c2).trans (by rw [addNf_pos]; exact congrArg (fun z : Nat => some (Value.int .i64 z)) HQQ.out.symm); have H9 := Lib.hid g9; clear g9))
      all_goals
        go_wp2_with fail
        go_end0
        exact ⟨_, _, _, _, _, rfl, rfl, H9.out⟩
    · have hcut := H.out.cutAt hvd (a := st) (c := q) hsq (by omega)
      have hlen : ((F.l.drop st).take (q - st)).length = q - st := by simp; omega
      have hcv1 : (convert 22 9 (.slice (some ⟨bd, o + st, none⟩) (q - st) (cap - st))).run Tryz.prog w.drew = .ok (.string (strOfNums ((F.l.drop st).take (q - st)))) w.drew := run_bytes_str hcut 1 9 Tryz.underlying9
      have hsz : (strOfNums ((F.l.drop st).take (q - st))).size ≤ 100000 := by rw [strOfNums_size]; omega
      have i1 : (st : Int) ≤ (q : Int) := by omega
      have i2 : (q : Int) ≤ (cap : Int) := by omega
      have hcvA := fun O => conv_cut (H.out.drew1.alloc O) hvd (a := st) (c := q) (by omega) (by rw [hN]; omega)
      clear hx hcut hlen
      go_enter Tryz.func94, Tryz.ntmps94
      go_region_held3 (fun w' => w'.cell? ⟨F.b, 0, none⟩ = some (.slice (some ⟨bd, o, none⟩) N cap) ∧ w'.cell? ⟨F.b, 1, none⟩ = some (.int .i64 (st : Nat)) ∧ w'.cell? ⟨F.b, 2, none⟩ = some (.int .i64 (q : Nat)) ∧ (convert 22 9 (.slice (some ⟨bd, o + st, none⟩) (q - st) (cap - st))).run Tryz.prog w' = .ok (.string (strOfNums ((F.l.drop st).take (q - st)))) w') (first | exact ⟨k0, k1, k2, k3⟩ | (refine ⟨?_, ?_, ?_, hcv1⟩ <;> go_keep) | (refine ⟨?_, ?_, ?_, hcvA _⟩ <;> go_keep)) (first | (go_at_call 282; refine (errString_any F.ao te w.drew htc).mono ?_; rintro e w8 ⟨rfl, rfl⟩) | (go_at_call 108; refine (addM_new H.out.drew1 hn _ _ (by rw [hN]; omega)).mono ?_; rintro e w9 ⟨r9, x9, vt9, ve9, vm9, rfl, ⟨rfl, rfl⟩, g9⟩; have k0 : w9.cell? ⟨F.b, 0, none⟩ = some (.slice (some ⟨bd, o, none⟩) N cap) := (g9.lx.c0).trans (by rw [hv, hN]); have k1 : w9.cell? ⟨F.b, 1, none⟩ = some (.int .i64 (st : Nat)) := (g9.lx.c1).trans (by rw [addNf_start]; exact congrArg (fun z : Nat => some (Value.int .i64 z)) HST.out.symm); have k2 : w9.cell? ⟨F.b, 2, none⟩ = some (.int .i64 (q : Nat)) := (g9.lx.c2).trans (by rw [addNf_pos]; exact congrArg (fun z : Nat => some (Value.int .i64 z)) HQQ.out.symm); have k3 := conv_cut g9 hvd (a := st) (c := q) (by omega) (by rw [hN]; omega); have H9 := Lib.hid g9; clear g9))
      all_goals
        go_wp2_with fail
        go_end0
        exact ⟨_, _, _, _, _, rfl, rfl, H9.out⟩
end
end Go.Proofs.YtaecbclonmhbcaaGreatDoor

namespace Go.Proofs.YtaecbclonmhbcaaGreatDoor
open Go.RowKit
section
variable {F : Fix} {w0 w : World} {vm0 vt ve vm : Value} {p n : Nat} {x : Lx}
theorem addErrLexM (h : MSt F w0 vm0 p n w x vt ve vm) (s t : ByteArray) {o : Nat} (ho : o ≤ F.l.length) :
    Calls Tryz.prog 48 #[.pointer (some ⟨F.b, 0, none⟩), .iface 60 (.pointer (some ⟨w.heap.size, 0, none⟩))] (w.alloc (.cells #[.string s, .int .i64 o, .string t] 66)) (MEnd F w0 vm0 p n fun r x' _ _ => r = .tuple #[] ∧ x'.start = x.start ∧ x'.pos = x.pos) := by
  have H := Lib.hid (h.alloc (.cells #[.string s, .int .i64 o, .string t] 66))
  have hE := heap_alloc_new w (.cells #[.string s, .int .i64 o, .string t] 66)
  have HE := Lib.hid hE
  have hne : w.heap.size ≠ F.b := Nat.ne_of_gt h.lx.lt
  have HFR := Lib.hid h.lx.fresh
  generalize w.alloc (.cells #[.string s, .int .i64 o, .string t] 66) = w1 at H HE
  clear hE
  have c11 := H.out.lx.c11
  have f11 := H.out.lx.free 11
  rcases Bool.eq_false_or_eq_true x.ok with hok | hok
  · obtain rfl := H.out.lx.errNil hok
    clear h hok
    go_enter Tryz.func48, Tryz.ntmps48
    go_wp2
    go_end0
    refine ⟨_, { x with err := .lex o }, vt, _, vm, rfl, ⟨rfl, rfl, rfl⟩, H.out.step ((Kept.refl F.b w1).setCell 11 _) (H.out.lx.setErr _ (.lex o) ⟨_, s, t, rfl, HFR.out, (heap_setCell_other _ _ hne).trans HE.out⟩) rfl (H.out.good.err rfl fun o' e => by obtain rfl := Er.lex.inj e; exact ho) fun _ => ⟨Nat.le_refl _, fun _ _ e => by cases e⟩⟩
  · obtain ⟨ty, v, rfl⟩ := H.out.lx.errSome hok
    clear h hok
    go_enter Tryz.func48, Tryz.ntmps48
    go_wp2
    go_end0
    exact ⟨_, x, vt, _, vm, rfl, ⟨rfl, rfl, rfl⟩, H.out⟩
theorem MSt.byteAt (h : MSt F w0 vm0 p n w x vt ve vm) {bd o cap q k : Nat} (hv : F.vd = .slice (some ⟨bd, o, none⟩) F.l.length cap) (hk : q + k < F.l.length) : w.cell? ⟨bd, o + q + k, none⟩ = some (.int .u8 (F.l.getD (q + k) 0)) := by
  have hd : BytesAt w ((F.ae.both vm).off F.b) F.vd x.d := h.lx.data
  rw [h.good.d, hv] at hd
  rcases hd with ⟨-, e⟩ | ⟨bd', o', cap', e, hc, hne, hx⟩
  · cases e
  · cases e
    rw [Nat.add_assoc]
    exact hx (q + k) hk
set_option maxHeartbeats 8000000 in
set_option maxRecDepth 100000 in
theorem consumed_nil (h : MSt F w0 vm0 p n w x vt ve vm) (hg : F.g → F.mu = false) (hv : F.vd = .slice none 0 0) (hqe : x.pos = 0) :
    Calls Tryz.prog 33 #[.pointer (some ⟨F.b, 0, none⟩)] w (MEnd F w0 vm0 p n fun r _ _ _ => r = .tuple #[]) := by
  have H := Lib.hid h
  have HG := Lib.hid hg
  obtain ⟨st, hst⟩ : ∃ st, st = x.start := ⟨_, rfl⟩
  obtain ⟨q, hq⟩ : ∃ q, q = x.pos := ⟨_, rfl⟩
  have hwf := H.out.good.wf
  have hdl : x.d = F.l := H.out.good.d
  have hsq : st ≤ q := by rw [hst, hq]; exact hwf.start
  have hql : q ≤ F.l.length := by rw [hq, ← hdl]; exact hwf.pos
  have hnl : F.l.length ≤ 100000 := by rw [← hdl]; exact H.out.good.len
  have d1 : w.cell? ⟨F.b, 1, none⟩ = some (.int .i64 (st : Nat)) := by rw [hst]; exact H.out.lx.c1
  have d2 : w.cell? ⟨F.b, 2, none⟩ = some (.int .i64 (q : Nat)) := by rw [hq]; exact H.out.lx.c2
  have d0 : w.cell? ⟨F.b, 0, none⟩ = some (.slice none 0 0) := by rw [← hv]; exact H.out.lx.c0
  have HST := Lib.hid hst
  have HQQ := Lib.hid hq
  rw [← hq] at hqe
  clear h hwf hst hq hdl
  generalize hN : F.l.length = N at hql hnl d0
  have hgt : ¬ ((0 : Int) < (q : Int)) := by omega
  have hgt2 : decide ((0 : Int) < (q : Int)) = false := decide_eq_false hgt
  have hgt3 : decide (0 < q) = false := decide_eq_false (by omega)
  rcases Bool.eq_false_or_eq_true x.ok with hok | hok
  case inr =>
    go_enter Tryz.func33, Tryz.ntmps33
    go_wp2
    go_region_held3 (fun w' => w'.cell? ⟨F.b, 0, none⟩ = some (.slice none 0 0) ∧ w'.cell? ⟨F.b, 2, none⟩ = some (.int .i64 (q : Nat))) (go_keep) (first | (go_at_call 47; refine (okM H.out.drew1).mono ?_; rintro e w8 ⟨rfl, rfl⟩; rw [hok]))
    all_goals
      go_wp2
      (try simp only [Exit.inBlock, Exit.then])
      exact bodyPost_ret (results_none rfl _ _ _) rfl ⟨_, x, vt, ve, vm, rfl, rfl, H.out.drew1⟩
  case inl =>
    go_enter Tryz.func33, Tryz.ntmps33
    go_wp2
    go_region_held3 (fun w' => w'.cell? ⟨F.b, 0, none⟩ = some (.slice none 0 0) ∧ w'.cell? ⟨F.b, 2, none⟩ = some (.int .i64 (q : Nat))) (go_keep) (first | (go_at_call 47; refine (okM H.out.drew1).mono ?_; rintro e w8 ⟨rfl, rfl⟩; rw [hok]))
    clear hok
    have H1 := Lib.hid H.out.drew1
    have d0 : w.drew.cell? ⟨F.b, 0, none⟩ = some (.slice none 0 0) := d0
    have d2 : w.drew.cell? ⟨F.b, 2, none⟩ = some (.int .i64 (q : Nat)) := d2
    generalize w.drew = w1 at *
    go_wp2
    go_quiet (fail)
    have H2 := Lib.hid (H1.out.drewN nq)
    generalize w1.drewN nq = w2 at *
    go_wp2
    go_loop [29] (fun i => i = .int .i64 0) (fun _ => 0)
    case atStart => rfl
    case round =>
      subst hrel
      go_wp2
      go_end0
      exact ⟨_, x, vt, ve, vm, rfl, rfl, H2.out⟩
set_option maxHeartbeats 8000000 in
set_option maxRecDepth 100000 in
theorem consumed_cap {bd o cap : Nat} (h : MSt F w0 vm0 p n w x vt ve vm) (hg : F.g → F.mu = false) (hv : F.vd = .slice (some ⟨bd, o, none⟩) F.l.length cap) (hqe : x.pos = cap) (hcl : F.l.length ≤ cap) :
    Calls Tryz.prog 33 #[.pointer (some ⟨F.b, 0, none⟩)] w (MEnd F w0 vm0 p n fun r _ _ _ => r = .tuple #[]) := by
  have H := Lib.hid h
  have HG := Lib.hid hg
  obtain ⟨st, hst⟩ : ∃ st, st = x.start := ⟨_, rfl⟩
  obtain ⟨q, hq⟩ : ∃ q, q = x.pos := ⟨_, rfl⟩
  have hwf := H.out.good.wf
  have hdl : x.d = F.l := H.out.good.d
  have hsq : st ≤ q := by rw [hst, hq]; exact hwf.start
  have hql : q ≤ F.l.length := by rw [hq, ← hdl]; exact hwf.pos
  have hnl : F.l.length ≤ 100000 := by rw [← hdl]; exact H.out.good.len
  have d1 : w.cell? ⟨F.b, 1, none⟩ = some (.int .i64 (st : Nat)) := by rw [hst]; exact H.out.lx.c1
  have d2 : w.cell? ⟨F.b, 2, none⟩ = some (.int .i64 (q : Nat)) := by rw [hq]; exact H.out.lx.c2
  have d0 : w.cell? ⟨F.b, 0, none⟩ = some (.slice (some ⟨bd, o, none⟩) F.l.length cap) := by rw [← hv]; exact H.out.lx.c0
  have HST := Lib.hid hst
  have HQQ := Lib.hid hq
  rw [← hq] at hqe
  clear h hwf hst hq hdl
  generalize hN : F.l.length = N at *
  obtain rfl : N = cap := by omega
  obtain rfl : N = q := by omega
  have hgt : ¬ ((N : Int) < (N : Int)) := by omega
  have hgt2 : decide ((N : Int) < (N : Int)) = false := decide_eq_false hgt
  have hgt3 : decide (N < N) = false := decide_eq_false (by omega)
  rcases Bool.eq_false_or_eq_true x.ok with hok | hok
  case inr =>
    go_enter Tryz.func33, Tryz.ntmps33
    go_wp2
    go_region_held3 (fun w' => w'.cell? ⟨F.b, 0, none⟩ = some (.slice (some ⟨bd, o, none⟩) N N) ∧ w'.cell? ⟨F.b, 2, none⟩ = some (.int .i64 (N : Nat))) (go_keep) (first | (go_at_call 47; refine (okM H.out.drew1).mono ?_; rintro e w8 ⟨rfl, rfl⟩; rw [hok]))
    all_goals
      go_wp2
      (try simp only [Exit.inBlock, Exit.then])
      exact bodyPost_ret (results_none rfl _ _ _) rfl ⟨_, x, vt, ve, vm, rfl, rfl, H.out.drew1⟩
  case inl =>
    go_enter Tryz.func33, Tryz.ntmps33
    go_wp2
    go_region_held3 (fun w' => w'.cell? ⟨F.b, 0, none⟩ = some (.slice (some ⟨bd, o, none⟩) N N) ∧ w'.cell? ⟨F.b, 2, none⟩ = some (.int .i64 (N : Nat))) (go_keep) (first | (go_at_call 47; refine (okM H.out.drew1).mono ?_; rintro e w8 ⟨rfl, rfl⟩; rw [hok]))
    clear hok
    have H1 := Lib.hid H.out.drew1
    have d0 : w.drew.cell? ⟨F.b, 0, none⟩ = some (.slice (some ⟨bd, o, none⟩) N N) := d0
    have d2 : w.drew.cell? ⟨F.b, 2, none⟩ = some (.int .i64 (N : Nat)) := d2
    generalize w.drew = w1 at *
    go_wp2
    go_quiet (fail)
    have H2 := Lib.hid (H1.out.drewN nq)
    generalize w1.drewN nq = w2 at *
    go_wp2
    go_loop [29] (fun i => i = .int .i64 0) (fun _ => 0)
    case atStart => rfl
    case round =>
      subst hrel
      go_wp2
      go_end0
      exact ⟨_, x, vt, ve, vm, rfl, rfl, H2.out⟩
set_option maxHeartbeats 8000000 in
set_option maxRecDepth 100000 in
theorem consumed_some {bd o cap : Nat} (h : MSt F w0 vm0 p n w x vt ve vm) (hg : F.g → F.mu = false) (hv : F.vd = .slice (some ⟨bd, o, none⟩) F.l.length cap) (hqe : x.pos ≠ cap) (hcl : F.l.length ≤ cap) :
    Calls Tryz.prog 33 #[.pointer (some ⟨F.b, 0, none⟩)] w (MEnd F w0 vm0 p n fun r _ _ _ => r = .tuple #[]) := by
  have H := Lib.hid h
  have HG := Lib.hid hg
  obtain ⟨st, hst⟩ : ∃ st, st = x.start := ⟨_, rfl⟩
  obtain ⟨q, hq⟩ : ∃ q, q = x.pos := ⟨_, rfl⟩
  have hwf := H.out.good.wf
  have hdl : x.d = F.l := H.out.good.d
  have hsq : st ≤ q := by rw [hst, hq]; exact hwf.start
  have hql : q ≤ F.l.length := by rw [hq, ← hdl]; exact hwf.pos
  have hnl : F.l.length ≤ 100000 := by rw [← hdl]; exact H.out.good.len
  have d1 : w.cell? ⟨F.b, 1, none⟩ = some (.int .i64 (st : Nat)) := by rw [hst]; exact H.out.lx.c1
  have d2 : w.cell? ⟨F.b, 2, none⟩ = some (.int .i64 (q : Nat)) := by rw [hq]; exact H.out.lx.c2
  have d0 : w.cell? ⟨F.b, 0, none⟩ = some (.slice (some ⟨bd, o, none⟩) F.l.length cap) := by rw [← hv]; exact H.out.lx.c0
  have HST := Lib.hid hst
  have HQQ := Lib.hid hq
  rw [← hq] at hqe
  clear h hwf hst hq hdl
  generalize hN : F.l.length = N at hql hnl hcl d0
  have hcq : ¬ cap = q := fun e => hqe e.symm
  have i0 : (q : Int) ≤ (N : Int) := by omega
  have hgt : ¬ ((N : Int) < (q : Int)) := by omega
  have hgt2 : decide ((N : Int) < (q : Int)) = false := decide_eq_false hgt
  have hgt3 : decide (N < q) = false := decide_eq_false (by omega)
  rcases Bool.eq_false_or_eq_true x.ok with hok | hok
  case inr =>
    go_enter Tryz.func33, Tryz.ntmps33
    go_wp2
    go_region_held3 (fun w' => w'.cell? ⟨F.b, 0, none⟩ = some (.slice (some ⟨bd, o, none⟩) N cap) ∧ w'.cell? ⟨F.b, 2, none⟩ = some (.int .i64 (q : Nat))) (go_keep) (first | (go_at_call 47; refine (okM H.out.drew1).mono ?_; rintro e w8 ⟨rfl, rfl⟩; rw [hok]))
    all_goals
      go_wp2
      (try simp only [Exit.inBlock, Exit.then])
      exact bodyPost_ret (results_none rfl _ _ _) rfl ⟨_, x, vt, ve, vm, rfl, rfl, H.out.drew1⟩
  case inl =>
    go_enter Tryz.func33, Tryz.ntmps33
    go_wp2
    go_region_held3 (fun w' => w'.cell? ⟨F.b, 0, none⟩ = some (.slice (some ⟨bd, o, none⟩) N cap) ∧ w'.cell? ⟨F.b, 2, none⟩ = some (.int .i64 (q : Nat))) (go_keep) (first | (go_at_call 47; refine (okM H.out.drew1).mono ?_; rintro e w8 ⟨rfl, rfl⟩; rw [hok]))
    clear hok
    have H1 := Lib.hid H.out.drew1
    have d0 : w.drew.cell? ⟨F.b, 0, none⟩ = some (.slice (some ⟨bd, o, none⟩) N cap) := d0
    have d2 : w.drew.cell? ⟨F.b, 2, none⟩ = some (.int .i64 (q : Nat)) := d2
    generalize w.drew = w1 at *
    go_wp2
    go_quiet (fail)
    have H2 := Lib.hid (H1.out.drewN nq)
    generalize w1.drewN nq = w2 at *
    go_wp2
    go_loopw [29] (fun i wr => ∃ (k : Nat), i = .int .i64 k ∧ k ≤ N - q ∧ MSt F w0 vm0 p n wr { x with pos := q + k, start := st + k } vt ve vm) (fun i _ => N - q - (intOf i).toNat)
    case atStart => exact ⟨0, rfl, Nat.zero_le _, by rw [Nat.add_zero, Nat.add_zero, HST.out, HQQ.out]; exact H2.out⟩
    case round =>
      obtain ⟨k, rfl, hk, hr⟩ := hrel
      have HR := Lib.hid hr
      clear hr
      by_cases hlt : k < N - q
      case neg =>
        obtain rfl : k = N - q := by omega
        go_wp2
        go_end0
        exact ⟨_, _, vt, ve, vm, rfl, rfl, HR.out⟩
      case pos =>
        obtain ⟨c, hcc⟩ : ∃ c, F.l.getD (q + k) 0 = c := ⟨_, rfl⟩
        have q3 : wr.cell? ⟨bd, o + q + k, none⟩ = some (.int .u8 c) := by rw [← hcc]; exact HR.out.byteAt hv (by rw [hN]; omega)
        have e0 : wr.cell? ⟨F.b, 0, none⟩ = some (.slice (some ⟨bd, o, none⟩) N cap) := by rw [← hN, ← hv]; exact HR.out.lx.c0
        have e1 : wr.cell? ⟨F.b, 1, none⟩ = some (.int .i64 (st + k : Nat)) := HR.out.lx.c1
        have e2 : wr.cell? ⟨F.b, 2, none⟩ = some (.int .i64 (q + k : Nat)) := HR.out.lx.c2
        have f1 := HR.out.lx.free 1
        have f2 := HR.out.lx.free 2
        have hltr := HR.out.lx.lt
        by_cases hb : c = 32 ∨ c = 9 ∨ c = 13 ∨ c = 10
        case pos =>
          have HX : Hid (MSt F w0 vm0 p n ((wr.setCell ⟨F.b, 2, none⟩ (.int .i64 (q + k + 1 : Nat))).setCell ⟨F.b, 1, none⟩ (.int .i64 (st + k + 1 : Nat))) { x with pos := q + k + 1, start := st + k + 1 } vt ve vm) :=
            HR.out.step (((Kept.refl F.b wr).setCell 2 _).setCell 1 _) ((HR.out.lx.setPos (q + k + 1)).setStart (st + k + 1)) rfl (HR.out.good.setPos (p := q + k + 1) (s := st + k + 1) (by rw [hN]; omega) (by omega)) fun g => ⟨Nat.le_succ _, fun hm => by have := HR.out.good.multi; rw [HG.out g] at this; exact absurd (hm.symm.trans this) (by decide)⟩
          rcases hb with rfl | rfl | rfl | rfl
          all_goals
            go_wp2
            go_roundw
            case rel => exact ⟨k + 1, by go_num, by omega, HX.out⟩
            case measure => simp [intOf]; omega
        case neg =>
          have n1 : (c == 32) = false := beq_eq_false_iff_ne.2 (fun e => hb (.inl e))
          have n2 : (c == 9) = false := beq_eq_false_iff_ne.2 (fun e => hb (.inr (.inl e)))
          have n3 : (c == 13) = false := beq_eq_false_iff_ne.2 (fun e => hb (.inr (.inr (.inl e))))
          have n4 : (c == 10) = false := beq_eq_false_iff_ne.2 (fun e => hb (.inr (.inr (.inr e))))
          have m1 : (c != 32) = true := bne_iff_ne.2 (fun e => hb (.inl e))
          have m2 : (c != 9) = true := bne_iff_ne.2 (fun e => hb (.inr (.inl e)))
          have m3 : (c != 13) = true := bne_iff_ne.2 (fun e => hb (.inr (.inr (.inl e))))
          have m4 : (c != 10) = true := bne_iff_ne.2 (fun e => hb (.inr (.inr (.inr e))))
          clear hb
          obtain ⟨tb, htb, hcv0⟩ := byte_text c
          have hcut := HR.out.cutAt hv (a := q + k) (c := F.l.length) (by rw [hN]; omega) (Nat.le_refl _)
          rw [hN] at hcut
          have hlen : ((F.l.drop (q + k)).take (N - (q + k))).length = N - (q + k) := by simp; omega
          have hcv1 : (convert 22 9 (.slice (some ⟨bd, o + (q + k), none⟩) (N - (q + k)) (cap - (q + k)))).run Tryz.prog wr.drew = .ok (.string (strOfNums ((F.l.drop (q + k)).take (N - (q + k))))) wr.drew := run_bytes_str hcut 1 9 Tryz.underlying9
          have hsz : (strOfNums ((F.l.drop (q + k)).take (N - (q + k)))).size ≤ 100000 := by rw [strOfNums_size]; omega
          have hcs : ¬ cap = q + k := by omega
          have i1 : ((q + k : Nat) : Int) ≤ (N : Int) := by omega
          have hadd1 : ∀ W, (Op.stringOp .add ⟨#[105, 110, 118, 97, 108, 105, 100, 32, 99, 104, 97, 114, 97, 99, 116, 101, 114, 32, 39]⟩ tb).run Tryz.prog W = .ok (.string (⟨#[105, 110, 118, 97, 108, 105, 100, 32, 99, 104, 97, 114, 97, 99, 116, 101, 114, 32, 39]⟩ ++ tb)) W := fun W => run_string_add_sum W _ _ (by show 19 + tb.size ≤ _; omega)
          have hadd2 : ∀ W, (Op.stringOp .add (⟨#[105, 110, 118, 97, 108, 105, 100, 32, 99, 104, 97, 114, 97, 99, 116, 101, 114, 32, 39]⟩ ++ tb) ⟨#[39, 32, 97, 102, 116, 101, 114, 32, 116, 111, 112, 45, 108, 101, 118, 101, 108, 32, 118, 97, 108, 117, 101]⟩).run Tryz.prog W = .ok (.string (⟨#[105, 110, 118, 97, 108, 105, 100, 32, 99, 104, 97, 114, 97, 99, 116, 101, 114, 32, 39]⟩ ++ tb ++ ⟨#[39, 32, 97, 102, 116, 101, 114, 32, 116, 111, 112, 45, 108, 101, 118, 101, 108, 32, 118, 97, 108, 117, 101]⟩)) W := fun W => run_string_add_sum W _ _ (by rw [ByteArray.size_append]; show 19 + tb.size + 23 ≤ _; omega)
          have hcvA : ∀ O, (convert 22 9 (.slice (some ⟨bd, o + (q + k), none⟩) (N - (q + k)) (cap - (q + k)))).run Tryz.prog (wr.drew.alloc O) = .ok (.string (strOfNums ((F.l.drop (q + k)).take (N - (q + k))))) (wr.drew.alloc O) := fun O => by
            have := conv_cut (HR.out.drew1.alloc O) hv (a := q + k) (c := F.l.length) (by rw [hN]; omega) (Nat.le_refl _)
            rw [hN] at this
            exact this
          clear hcut hlen
          have i2 : (q : Int) + (k : Int) ≤ (N : Int) := by omega
          have i3 : ¬ ((cap : Int) = (q : Int) + (k : Int)) := by omega
          have i4 : (0 : Int) ≤ (q : Int) + (k : Int) := by omega
          have i5 : (N : Int) ≤ (cap : Int) := by omega
          have i6 : ((q : Int) + (k : Int)).toNat = q + k := by omega
          go_wp2
          go_region_held3 (fun w' => w'.cell? ⟨F.b, 0, none⟩ = some (.slice (some ⟨bd, o, none⟩) N cap) ∧ w'.cell? ⟨F.b, 2, none⟩ = some (.int .i64 (q + k : Nat)) ∧ (convert 22 9 (.slice (some ⟨bd, o + (q + k), none⟩) (N - (q + k)) (cap - (q + k)))).run Tryz.prog w' = .ok (.string (strOfNums ((F.l.drop (q + k)).take (N - (q + k))))) w') (first | exact ⟨k0, k2, k3⟩ | (refine ⟨?_, ?_, hcv1⟩ <;> go_keep) | (refine ⟨?_, ?_, hcvA _⟩ <;> go_keep)) (first | (go_at_call 48; refine (addErrLexM HR.out.drew1 _ _ (by rw [hN]; omega)).mono ?_; rintro e w9 ⟨r9, x9, vt9, ve9, vm9, rfl, ⟨rfl, hs9, hp9⟩, g9⟩; have k0 : w9.cell? ⟨F.b, 0, none⟩ = some (.slice (some ⟨bd, o, none⟩) N cap) := (g9.lx.c0).trans (by rw [hv, hN]); have k2 : w9.cell? ⟨F.b, 2, none⟩ = some (.int .i64 (q + k : Nat)) := (g9.lx.c2).trans (by rw [hp9]); have k3 := conv_cut g9 hv (a := q + k) (c := F.l.length) (by rw [hN]; omega) (Nat.le_refl _); rw [hN] at k3; have H9 := Lib.hid g9; clear g9))
          all_goals
            go_wp2_with fail
            (try simp only [Exit.inBlock, Exit.then])
            exact bodyPost_ret (results_none rfl _ _ _) rfl ⟨_, _, _, _, _, rfl, rfl, H9.out⟩
theorem consumedM (h : MSt F w0 vm0 p n w x vt ve vm) (hg : F.g → F.mu = false) :
    Calls Tryz.prog 33 #[.pointer (some ⟨F.b, 0, none⟩)] w (MEnd F w0 vm0 p n fun r _ _ _ => r = .tuple #[]) := by
  have hd : BytesAt w ((F.ae.both vm).off F.b) F.vd x.d := h.lx.data
  rw [h.good.d] at hd
  have hp := h.good.wf.pos
  rw [h.good.d] at hp
  rcases hd with ⟨h0, hv⟩ | ⟨bd, o, cap, hv, hc, -, -⟩
  · exact consumed_nil h hg hv (by rw [h0] at hp; simpa using hp)
  · by_cases he : x.pos = cap
    · exact consumed_cap h hg hv he hc
    · exact consumed_some h hg hv he hc
end
end Go.Proofs.YtaecbclonmhbcaaGreatDoor

namespace Go.Proofs.YtaecbclonmhbcaaGreatDoor
open Go.RowKit
def Fix.holds (F : Fix) (ks : List Nat) : Fix := { F with ae := ⟨F.ae.addr, fun j => F.ae.held j ∨ j ∈ ks⟩ }
structure MHeld (F : Fix) (w0 : World) (vm0 : Value) (p n : Nat) (ks : List Nat) (w : World) (x : Lx) (vt ve vm : Value) : Prop where
  st : MSt (F.holds ks) w0 vm0 p n w x vt ve vm
  got : ∀ k, k ∈ ks → w0.heap.size ≤ k ∧ F.b < k ∧ vm.ownBlock ≠ some k ∧ ∃ c, w.heap[k]? = some (.cells c 30 (0, 0))
theorem ErrRow.other {w : World} {b : Nat} {vm : Value} {offs : List Nat} (h : ErrRow w b vm offs) {k : Nat} (hv : vm.ownBlock ≠ some k) {c : Array Value} (hh : w.heap[k]? = some (.cells c 30 (0, 0))) (i : Nat) (v : Value) : ErrRow (w.setCell ⟨k, i, none⟩ v) b vm offs := by
  obtain ⟨ks, hr, he⟩ := h
  refine ⟨ks, hr.kept (grownBy_setCell w k i v) (.inr hv), fun j hj => ?_⟩
  obtain ⟨hne, s, t, h2⟩ := he j hj
  refine ⟨hne, s, t, ?_⟩
  rw [heap_setCell_other _ _ (fun e => by rw [e, hh] at h2; simp at h2)]
  exact h2
section
variable {F : Fix} {w0 w w1 : World} {vm0 vt ve vm vt1 ve1 vm1 : Value} {p n m : Nat} {x x1 : Lx} {ks : List Nat}
theorem KeptM.setNew {b : Nat} {vm vm' : Value} {u v : World} (h : KeptM b vm vm' u v) {k : Nat} (hk : u.heap.size ≤ k) (i : Nat) (z : Value) : KeptM b vm vm' u (v.setCell ⟨k, i, none⟩ z) :=
  ⟨h.os, h.tape, h.output, by simpa using h.size, fun j hj hn hm => (heap_setCell_other _ _ (by omega)).trans (h.block j hj hn hm), h.new⟩
theorem MSt.rowLt (h : MSt F w0 vm0 p n w x vt ve vm) {k : Nat} (hk : vm.ownBlock = some k) : F.b < k ∧ k < w.heap.size := by
  obtain ⟨ks, hr, -⟩ := h.mx.row
  have := hr.lt k hk
  exact ⟨by omega, this.2⟩
theorem MHeld.nil (h : MSt F w0 vm0 p n w x vt ve vm) : MHeld F w0 vm0 p n [] w x vt ve vm :=
  ⟨⟨⟨h.lx.move (grownBy_self (r := none) w) (by simp) rfl (by
      rintro k hk (e | (e | e) | e)
      · exact .inl e
      · exact .inr (.inl e)
      · cases e
      · exact .inr (.inr e)) (by
      rintro k ((e | e) | e)
      · exact h.lx.held k (.inl e)
      · cases e
      · exact h.lx.held k (.inr e)), h.mx.row⟩, h.kept, h.good, h.gr, ⟨h.nm.lo, h.nm.le, h.nm.ho, h.nm.he, h.nm.text⟩, h.mov⟩, fun k e => by cases e⟩
theorem MHeld.drop (h : MHeld F w0 vm0 p n ks w x vt ve vm) : MSt F w0 vm0 p n w x vt ve vm :=
  ⟨⟨h.st.lx.move (grownBy_self (r := none) w) (by simp) rfl (by
      rintro k hk (e | e | e)
      · exact .inl e
      · exact .inr (.inl (.inl e))
      · exact .inr (.inr e)) (by
      rintro k (e | e)
      · exact h.st.lx.held k (.inl (.inl e))
      · exact h.st.lx.held k (.inr e)), h.st.mx.row⟩, h.st.kept, h.st.good, h.st.gr, ⟨h.st.nm.lo, h.st.nm.le, h.st.nm.ho, h.st.nm.he, h.st.nm.text⟩, h.st.mov⟩
theorem MHeld.alloc (h : MHeld F w0 vm0 p n ks w x vt ve vm) (o : Obj) : MHeld F w0 vm0 p n ks (w.alloc o) x vt ve vm :=
  ⟨h.st.alloc o, fun k hk => by
    obtain ⟨a, b, c, d, e⟩ := h.got k hk
    exact ⟨a, b, c, d, by rw [heap_alloc_lt (lt_heap e)]; exact e⟩⟩
theorem MHeld.below (h : MHeld F w0 vm0 p n ks w x vt ve vm) (k : Below w.heap.size w w1) : MHeld F w0 vm0 p n ks w1 x vt ve vm :=
  ⟨h.st.below k, fun j hj => by
    obtain ⟨a, b, c, d, e⟩ := h.got j hj
    exact ⟨a, b, c, d, by rw [k.block _ (lt_heap e)]; exact e⟩⟩
theorem MHeld.hold (h : MHeld F w0 vm0 p n ks w x vt ve vm) (c : Array Value) : MHeld F w0 vm0 p n (w.heap.size :: ks) (w.alloc (.cells c 30)) x vt ve vm := by
  have hA := h.st.alloc (.cells c 30)
  have hl := h.st.lx.lt
  refine ⟨⟨⟨(h.st.lx.hold (.cells c 30)).move (grownBy_self (r := none) _) (by simp) rfl ?_ ?_, hA.mx.row⟩, hA.kept, hA.good, hA.gr, ⟨hA.nm.lo, hA.nm.le, hA.nm.ho, hA.nm.he, hA.nm.text⟩, hA.mov⟩, ?_⟩
  · rintro k hk (e | (e | e) | e)
    · exact .inl e
    · exact .inr (.inl (.inl (.inl e)))
    · rcases List.mem_cons.1 e with e | e
      · exact .inr (.inr e)
      · exact .inr (.inl (.inl (.inr e)))
    · exact .inr (.inl (.inr e))
  · rintro k ((e | e) | e)
    · have := h.st.lx.held k (.inl (.inl e)); simp; omega
    · rcases List.mem_cons.1 e with rfl | e
      · simp
      · have := h.st.lx.held k (.inl (.inr e)); simp; omega
    · have := h.st.lx.held k (.inr e); simp; omega
  · intro k hk
    rcases List.mem_cons.1 hk with rfl | hk
    · exact ⟨h.st.kept.size, hl, fun e => by have := (h.st.rowLt e).2; omega, c, heap_alloc_new w _⟩
    · obtain ⟨a, b, c', d, e⟩ := h.got k hk
      exact ⟨a, b, c', d, by rw [heap_alloc_lt (lt_heap e)]; exact e⟩
theorem MHeld.set (h : MHeld F w0 vm0 p n ks w x vt ve vm) {k : Nat} (hk : k ∈ ks) (i : Nat) (v : Value) : MHeld F w0 vm0 p n ks (w.setCell ⟨k, i, none⟩ v) x vt ve vm := by
  obtain ⟨h1, h2, h3, c, h4⟩ := h.got k hk
  have hb : ∀ j, j < F.b → (w.setCell ⟨k, i, none⟩ v).heap[j]? = w.heap[j]? := fun j hj => heap_setCell_other _ _ (by omega)
  refine ⟨⟨⟨LexAt.setHeld h.st.lx (.inl (.inr hk)) h2 i v, h.st.mx.row.other h3 h4 i v⟩, h.st.kept.setNew h1 i v, h.st.good, ?_, h.st.nm.kept hb, h.st.mov⟩, fun j hj => ?_⟩
  · obtain ⟨u, g1, g2, g3⟩ := h.st.gr
    exact ⟨u, g1, g2, g3.trans ⟨rfl, rfl, rfl, by simp, fun j hj => hb j (Nat.lt_of_lt_of_le hj g2)⟩⟩
  · obtain ⟨a, b, c', d, e⟩ := h.got j hj
    refine ⟨a, b, c', ?_⟩
    by_cases hjk : j = k
    · subst hjk
      exact ⟨_, heap_setCell e i v⟩
    · exact ⟨d, (heap_setCell_other _ _ hjk).trans e⟩
theorem MHeld.call (h : MHeld F w0 vm0 p n ks w x vt ve vm) (g : MSt (F.holds ks) w vm x.pos m w1 x1 vt1 ve1 vm1) :
    MHeld F w0 vm0 p m ks w1 x1 vt1 ve1 vm1 ∧ ∀ k, k ∈ ks → w1.heap[k]? = w.heap[k]? := by
  have hb : ∀ k, k ∈ ks → w1.heap[k]? = w.heap[k]? := fun k hk => by
    obtain ⟨a, b, c, d, e⟩ := h.got k hk
    exact g.kept.block k (lt_heap e) (Nat.ne_of_gt b) c
  refine ⟨⟨⟨g.mx, h.st.kept.trans g.kept, g.good, g.gr, g.nm, fun hg => ⟨Nat.le_trans (h.st.mov hg).1 (g.mov hg).1, (g.mov hg).2⟩⟩, fun k hk => ?_⟩, hb⟩
  obtain ⟨a, b, c, d, e⟩ := h.got k hk
  exact ⟨a, b, fun e' => c (g.kept.new k e' (lt_heap e)), d, by rw [hb k hk]; exact e⟩
end
end Go.Proofs.YtaecbclonmhbcaaGreatDoor
