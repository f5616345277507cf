/- base64's Decode: it returns, and tells no more bytes than there is room for. Printed by gen_b6e.py. -/
import Derived.Test.YtaecbclonmhbcaaGreatDoorP25
import Derived.Deep.CutBlock
set_option linter.unusedVariables false
set_option linter.unusedSimpArgs false
namespace Go.Proofs.YtaecbclonmhbcaaGreatDoor
open Go.RowKit
def DI (L D n si : Nat) : Prop := si ≤ L ∧ n ≤ D ∧ (si = L ∨ ∃ k, n = 3 * k ∧ 4 * k ≤ si)
section
variable {L n si : Nat}
theorem DI.quantum {s' n' : Nat} (h : DI L (L / 4 * 3) n si) (hl : si < L) (h2 : s' ≤ L) (h3 : n' ≤ 3) (h4 : 0 < n' → si + 4 ≤ s') (h5 : n' = 3 ∨ s' = L) : DI L (L / 4 * 3) (n + n') s' := by
  obtain ⟨a, b, c⟩ := h
  rcases c with c | ⟨k, c1, c2⟩
  · omega
  by_cases h0 : n' = 0
  · subst h0; exact ⟨h2, by omega, .inl (by omega)⟩
  have := h4 (by omega)
  rcases h5 with h5 | h5
  · exact ⟨h2, by omega, .inr ⟨k + 1, by omega, by omega⟩⟩
  · exact ⟨h2, by omega, .inl h5⟩
theorem DI.eight (h : DI L (L / 4 * 3) n si) (hl : si + 8 ≤ L) : DI L (L / 4 * 3) (n + 6) (si + 8) := by
  obtain ⟨a, b, c⟩ := h
  rcases c with c | ⟨k, c1, c2⟩
  · omega
  · exact ⟨hl, by omega, .inr ⟨k + 2, by omega, by omega⟩⟩
theorem DI.four (h : DI L (L / 4 * 3) n si) (hl : si + 4 ≤ L) : DI L (L / 4 * 3) (n + 3) (si + 4) := by
  obtain ⟨a, b, c⟩ := h
  rcases c with c | ⟨k, c1, c2⟩
  · omega
  · exact ⟨hl, by omega, .inr ⟨k + 1, by omega, by omega⟩⟩
theorem DI.room (h : DI L (L / 4 * 3) n si) (hl : si + 4 ≤ L) : n + 3 ≤ L / 4 * 3 := by
  obtain ⟨a, b, c⟩ := h
  rcases c with c | ⟨k, c1, c2⟩ <;> omega
end
structure DW (w wr : World) (e d D sb so : Nat) (src : List Nat) : Prop where
  enc : EncAt wr e
  dst : DstAt wr d D
  src : SrcAt wr sb so src
  kept : Kept d w wr
  lt : d < w.heap.size
  de : d ≠ e
  ds : d ≠ sb
theorem DW.step {w wr wx : World} {e d D sb so : Nat} {src : List Nat} (h : DW w wr e d D sb so src) (hw : Wrote d D wr wx) : DW w wx e d D sb so src :=
  ⟨h.enc.keep (hw.2.block e (World.block_lt_of_cell? wr _ h.enc.pad) (Ne.symm h.de)), hw.1, fun i hi => ⟨(h.src i hi).1, hw.2.cell (h.src i hi).2 (Ne.symm h.ds)⟩, h.kept.trans hw.2, h.lt, h.de, h.ds⟩
theorem DW.drewN {w wr : World} {e d D sb so : Nat} {src : List Nat} (h : DW w wr e d D sb so src) (n : Nat) : DW w (wr.drewN n) e d D sb so src :=
  ⟨⟨h.enc.dm, h.enc.pad, h.enc.strict⟩, h.dst.drewN n, h.src, h.kept.drewN n, h.lt, h.de, h.ds⟩
theorem DW.wrote {w wr : World} {e d D sb so : Nat} {src : List Nat} (h : DW w wr e d D sb so src) : Wrote d D w wr := ⟨h.dst, h.kept⟩
theorem DW.quantum {w wr : World} {e d sb so sc n si : Nat} {src : List Nat} (h : DW w wr e d (src.length / 4 * 3) sb so src) (hL : src.length ≤ 100000) (hi : DI src.length (src.length / 4 * 3) n si) (hl : si < src.length)
    {pd : Option Addr} (hpd : n < src.length / 4 * 3 → pd = some ⟨d, n, none⟩) :
    Calls Tryz.prog 139 #[.pointer (some ⟨e, 0, none⟩), .slice pd (src.length / 4 * 3 - n) (src.length / 4 * 3 - n), .slice (some ⟨sb, so, none⟩) src.length sc, .int .i64 si] wr (QPost src.length si d (src.length / 4 * 3) wr) :=
  quantum_any si n _ _ pd h.enc h.dst (Nat.lt_of_lt_of_le h.lt h.kept.size) h.src hL h.de h.ds hl fun h4 => by
    have hr := hi.room h4
    exact ⟨hpd (by omega), by omega, by omega⟩
theorem DW.quantumD {w wr : World} {e d D sb so sc n si : Nat} {src : List Nat} (hD : D = src.length / 4 * 3) (hL : src.length ≤ 100000) (h : DW w wr e d D sb so src) (hi : DI src.length D n si) (hl : si < src.length)
    {pd : Option Addr} (hpd : n < D → pd = some ⟨d, n, none⟩) :
    Calls Tryz.prog 139 #[.pointer (some ⟨e, 0, none⟩), .slice pd (D - n) (D - n), .slice (some ⟨sb, so, none⟩) src.length sc, .int .i64 si] wr fun e' w' =>
      ∃ (s' n' : Nat) (er : Value), e' = .returned (.tuple #[.int .i64 s', .int .i64 n', er]) ∧ s' ≤ src.length ∧ si < s' ∧ n' ≤ 3 ∧ ((er = .nilIface ∧ DI src.length D (n + n') s') ∨ (∃ z, er = .iface 178 (.int .i64 z)) ∧ QErr er) ∧ DW w w' e d D sb so src := by
  subst hD
  refine (h.quantum hL hi hl hpd).mono ?_
  rintro e2 w2 ⟨s2, n2, er, rfl, h1, h2, h3, h4, h5, h6⟩
  refine ⟨s2, n2, er, rfl, h2, h1, h3, ?_, h.step h6⟩
  rcases h5 with ⟨rfl, h5⟩ | h5
  · exact .inl ⟨rfl, hi.quantum hl h2 h3 h4 h5⟩
  · exact .inr ⟨h5.imp fun _ h => h.1, h5⟩
theorem DI.eightD {D L n si : Nat} (hD : D = L / 4 * 3) (h : DI L D n si) (hl : si + 8 ≤ L) : DI L D (n + 6) (si + 8) := by subst hD; exact h.eight hl
theorem DI.fourD {D L n si : Nat} (hD : D = L / 4 * 3) (h : DI L D n si) (hl : si + 4 ≤ L) : DI L D (n + 3) (si + 4) := by subst hD; exact h.four hl
def DecPost (d D : Nat) (w : World) (e : Ending) (w' : World) : Prop :=
  ∃ (n : Nat) (er : Value), e = .returned (.tuple #[.int .i64 n, er]) ∧ ((er = .nilIface ∧ n ≤ D) ∨ QErr er) ∧ Wrote d D w w'
set_option maxHeartbeats 16000000 in
set_option maxRecDepth 100000 in
theorem decode64_any {w : World} {e d sb so sc : Nat} {src : List Nat} (pd : Option Addr) (he : EncAt w e) (hd : DstAt w d (src.length / 4 * 3)) (hdl : d < w.heap.size) (hsrc : SrcAt w sb so src) (hL : src.length ≤ 100000) (h0 : 0 < src.length) (hsc : src.length ≤ sc)
    (hde : d ≠ e) (hds : d ≠ sb) (hpd : pd = some ⟨d, 0, none⟩) :
    Calls Tryz.prog 114 #[.pointer (some ⟨e, 0, none⟩), .slice pd (src.length / 4 * 3) (src.length / 4 * 3), .slice (some ⟨sb, so, none⟩) src.length sc] w (DecPost d (src.length / 4 * 3) w) := by
  have HW : RowKit.Hid (DW w w e d (src.length / 4 * 3) sb so src) := ⟨he, hd, hsrc, Kept.refl d w, hdl, hde, hds⟩
  obtain ⟨D, hD⟩ : ∃ D, D = src.length / 4 * 3 := ⟨_, rfl⟩
  rw [← hD] at HW ⊢
  have hDL : D ≤ 100000 := by omega
  have HD := Lib.hid hD
  clear hD
  have g0 : ((src.length : Int) == 0) = false := beq_eq_false_iff_ne.2 (by omega)
  obtain ⟨cs, hcl, hcr⟩ := he.range
  have HP := Lib.hid hpd
  clear he hd hdl hsrc hde hds hpd
  go_enter Tryz.func114, Tryz.ntmps114
  go_wp2
  refine wp_load_mid 151 (.tmp 23) rfl e 64 rfl cs _ hcr Tryz.underlying151 rfl (by rw [hcl]; kernel_rfl) ?_
  clear hcl hcr
  go_upto_block 0 with fail
  go_cut [6, 7, 8, 9, 10, 11, 12] from 25 to 139 (fun a6 a7 a8 a9 a10 a11 a12 wx => ∃ n si : Nat, a6 = .int .i64 n ∧ a7 = .nilIface ∧ a8 = .int .i64 si ∧ DI src.length D n si ∧ DW w wx e d D sb so src)
  case first =>
    as_aux_lemma =>
      go_wp2_with fail
      go_loopw [6, 7, 8] (fun a6 a7 a8 wx => ∃ n si : Nat, a6 = .int .i64 n ∧ a7 = .nilIface ∧ a8 = .int .i64 si ∧ DI src.length D n si ∧ DW w wx e d D sb so src) (fun _ _ a8 _ => src.length - (intOf a8).toNat)
      case atStart => exact ⟨0, 0, rfl, rfl, rfl, ⟨by omega, by omega, .inr ⟨0, rfl, by decide⟩⟩, HW.out⟩
      case round =>
        clear HW
        obtain ⟨n, si, rfl, rfl, rfl, hi, hw⟩ := hrel
        have HW := Lib.hid hw
        have HI := Lib.hid hi
        have hi1 := hi.1
        have hi2 := hi.2.1
        clear hi hw
        by_cases hc1 : si + 8 ≤ src.length
        case neg =>
          have g1 : ¬ (8 : Int) ≤ (src.length : Int) - si := by omega
          go_wp2_with fail
          go_meet
          exact ⟨n, si, rfl, rfl, rfl, HI.out, HW.out⟩
        have g1 : (8 : Int) ≤ (src.length : Int) - si := by omega
        by_cases hc2 : n + 8 ≤ D
        case neg =>
          have g2 : ¬ (8 : Int) ≤ (D : Int) - n := by omega
          go_wp2_with fail
          go_meet
          exact ⟨n, si, rfl, rfl, rfl, HI.out, HW.out⟩
        have g2 : (8 : Int) ≤ (D : Int) - n := by omega
        have hsi : si < src.length := by omega
        have hsl := slice_lh sb so src.length sc si 8 (by omega) (by decide)
        obtain ⟨r0, k0⟩ := HW.out.src (si + 0) (by omega)
        obtain ⟨x0, e0⟩ : ∃ x, src[si + 0]'(by omega) = x := ⟨_, rfl⟩
        rw [e0] at r0 k0
        rw [Nat.add_zero] at k0
        obtain ⟨v0, -, m0⟩ := HW.out.enc.dm x0 (by omega)
        have b0 : (x0 : Int) < 256 := by omega
        obtain ⟨r1, k1⟩ := HW.out.src (si + 1) (by omega)
        obtain ⟨x1, e1⟩ : ∃ x, src[si + 1]'(by omega) = x := ⟨_, rfl⟩
        rw [e1] at r1 k1
        rw [← Nat.add_assoc] at k1
        obtain ⟨v1, -, m1⟩ := HW.out.enc.dm x1 (by omega)
        have b1 : (x1 : Int) < 256 := by omega
        obtain ⟨r2, k2⟩ := HW.out.src (si + 2) (by omega)
        obtain ⟨x2, e2⟩ : ∃ x, src[si + 2]'(by omega) = x := ⟨_, rfl⟩
        rw [e2] at r2 k2
        rw [← Nat.add_assoc] at k2
        obtain ⟨v2, -, m2⟩ := HW.out.enc.dm x2 (by omega)
        have b2 : (x2 : Int) < 256 := by omega
        obtain ⟨r3, k3⟩ := HW.out.src (si + 3) (by omega)
        obtain ⟨x3, e3⟩ : ∃ x, src[si + 3]'(by omega) = x := ⟨_, rfl⟩
        rw [e3] at r3 k3
        rw [← Nat.add_assoc] at k3
        obtain ⟨v3, -, m3⟩ := HW.out.enc.dm x3 (by omega)
        have b3 : (x3 : Int) < 256 := by omega
        obtain ⟨r4, k4⟩ := HW.out.src (si + 4) (by omega)
        obtain ⟨x4, e4⟩ : ∃ x, src[si + 4]'(by omega) = x := ⟨_, rfl⟩
        rw [e4] at r4 k4
        rw [← Nat.add_assoc] at k4
        obtain ⟨v4, -, m4⟩ := HW.out.enc.dm x4 (by omega)
        have b4 : (x4 : Int) < 256 := by omega
        obtain ⟨r5, k5⟩ := HW.out.src (si + 5) (by omega)
        obtain ⟨x5, e5⟩ : ∃ x, src[si + 5]'(by omega) = x := ⟨_, rfl⟩
        rw [e5] at r5 k5
        rw [← Nat.add_assoc] at k5
        obtain ⟨v5, -, m5⟩ := HW.out.enc.dm x5 (by omega)
        have b5 : (x5 : Int) < 256 := by omega
        obtain ⟨r6, k6⟩ := HW.out.src (si + 6) (by omega)
        obtain ⟨x6, e6⟩ : ∃ x, src[si + 6]'(by omega) = x := ⟨_, rfl⟩
        rw [e6] at r6 k6
        rw [← Nat.add_assoc] at k6
        obtain ⟨v6, -, m6⟩ := HW.out.enc.dm x6 (by omega)
        have b6 : (x6 : Int) < 256 := by omega
        obtain ⟨r7, k7⟩ := HW.out.src (si + 7) (by omega)
        obtain ⟨x7, e7⟩ : ∃ x, src[si + 7]'(by omega) = x := ⟨_, rfl⟩
        rw [e7] at r7 k7
        rw [← Nat.add_assoc] at k7
        obtain ⟨v7, -, m7⟩ := HW.out.enc.dm x7 (by omega)
        have b7 : (x7 : Int) < 256 := by omega
        obtain ⟨X, ok, HA⟩ := asm64_fix v0 v1 v2 v3 v4 v5 v6 v7
        have HAS := Lib.hid HA
        clear HA e0 e1 e2 e3 e4 e5 e6 e7
        obtain ⟨pd', hpd1, hpd2⟩ := slice_l pd d D n HP.out hi2
        have HPD := Lib.hid hpd1
        clear hpd1
        cases ok
        case false =>
          go_wp2_with fail
          (try simp only [List.append_eq, List.cons_append, List.nil_append])
          go_quiet ((go_at_call 137; exact Calls.quiet_of_same ((HAS.out _).mono fun e w' h => ⟨h.1, h.2.symm⟩)))
          go_wp2_with (go_at_call 139; refine (DW.quantumD HD.out hL (HW.out.drewN _) HI.out hsi HPD.out).mono ?_; rintro e2 w2 ⟨s2, n2, er, rfl, hq1, hq2, hq3, hq, hq6⟩; have HW2 := Lib.hid hq6; clear hq6; rcases hq with ⟨rfl, hq5⟩ | ⟨⟨z, rfl⟩, hq5⟩)
          · have HI2 := Lib.hid hq5
            clear hq5
            go_wp2_with fail
            go_roundw
            case rel => exact ⟨n + n2, s2, by go_num, rfl, by go_num, HI2.out, HW2.out⟩
            case measure => simp [intOf]; omega
          · have HE2 := Lib.hid hq5
            clear hq5
            go_wp2_with fail
            exact bodyPost_ret (results_tmp2 rfl _ _ _) rfl ⟨n + n2, _, by push_cast; rfl, .inr HE2.out, HW2.out.wrote⟩
        case true =>
          obtain rfl := HPD.out (by omega)
          go_wp2_with fail
          (try simp only [List.append_eq, List.cons_append, List.nil_append])
          go_quiet ((go_at_call 137; exact Calls.quiet_of_same ((HAS.out _).mono fun e w' h => ⟨h.1, h.2.symm⟩)))
          go_wp2_with (go_at_call 138; refine (put64_any (HW.out.drewN _).dst n (D - n) (D - n) (by omega) (by omega) X).mono ?_; rintro e2 w2 ⟨rfl, hq6⟩; have HW2 := Lib.hid ((HW.out.drewN _).step hq6); clear hq6)
          go_roundw
          case rel => exact ⟨n + 6, si + 8, by go_num, rfl, by go_num, HI.out.eightD HD.out (by omega), HW2.out⟩
          case measure => simp [intOf]; omega
  case rest =>
    clear HW
    obtain ⟨n, si, rfl, rfl, rfl, hi, hw⟩ := hcut
    have HW := Lib.hid hw
    have HI := Lib.hid hi
    clear hi hw
    go_upto_block 2 with fail
    go_cut [6, 7, 8, 13, 14, 15, 16] from 140 to 220 (fun a6 a7 a8 a13 a14 a15 a16 wx => ∃ n si : Nat, a6 = .int .i64 n ∧ a7 = .nilIface ∧ a8 = .int .i64 si ∧ DI src.length D n si ∧ DW w wx e d D sb so src)
    case first =>
      as_aux_lemma =>
        go_wp2_with fail
        go_loopw [6, 7, 8] (fun a6 a7 a8 wx => ∃ n si : Nat, a6 = .int .i64 n ∧ a7 = .nilIface ∧ a8 = .int .i64 si ∧ DI src.length D n si ∧ DW w wx e d D sb so src) (fun _ _ a8 _ => src.length - (intOf a8).toNat)
        case atStart => exact ⟨n, si, rfl, rfl, rfl, HI.out, HW.out⟩
        case round =>
          clear HW
          obtain ⟨n, si, rfl, rfl, rfl, hi, hw⟩ := hrel
          have HW := Lib.hid hw
          have HI := Lib.hid hi
          have hi1 := hi.1
          have hi2 := hi.2.1
          clear hi hw
          by_cases hc1 : si + 4 ≤ src.length
          case neg =>
            have g1 : ¬ (4 : Int) ≤ (src.length : Int) - si := by omega
            go_wp2_with fail
            go_meet
            exact ⟨n, si, rfl, rfl, rfl, HI.out, HW.out⟩
          have g1 : (4 : Int) ≤ (src.length : Int) - si := by omega
          by_cases hc2 : n + 4 ≤ D
          case neg =>
            have g2 : ¬ (4 : Int) ≤ (D : Int) - n := by omega
            go_wp2_with fail
            go_meet
            exact ⟨n, si, rfl, rfl, rfl, HI.out, HW.out⟩
          have g2 : (4 : Int) ≤ (D : Int) - n := by omega
          have hsi : si < src.length := by omega
          have hsl := slice_lh sb so src.length sc si 4 (by omega) (by decide)
          obtain ⟨r0, k0⟩ := HW.out.src (si + 0) (by omega)
          obtain ⟨x0, e0⟩ : ∃ x, src[si + 0]'(by omega) = x := ⟨_, rfl⟩
          rw [e0] at r0 k0
          rw [Nat.add_zero] at k0
          obtain ⟨v0, -, m0⟩ := HW.out.enc.dm x0 (by omega)
          have b0 : (x0 : Int) < 256 := by omega
          obtain ⟨r1, k1⟩ := HW.out.src (si + 1) (by omega)
          obtain ⟨x1, e1⟩ : ∃ x, src[si + 1]'(by omega) = x := ⟨_, rfl⟩
          rw [e1] at r1 k1
          rw [← Nat.add_assoc] at k1
          obtain ⟨v1, -, m1⟩ := HW.out.enc.dm x1 (by omega)
          have b1 : (x1 : Int) < 256 := by omega
          obtain ⟨r2, k2⟩ := HW.out.src (si + 2) (by omega)
          obtain ⟨x2, e2⟩ : ∃ x, src[si + 2]'(by omega) = x := ⟨_, rfl⟩
          rw [e2] at r2 k2
          rw [← Nat.add_assoc] at k2
          obtain ⟨v2, -, m2⟩ := HW.out.enc.dm x2 (by omega)
          have b2 : (x2 : Int) < 256 := by omega
          obtain ⟨r3, k3⟩ := HW.out.src (si + 3) (by omega)
          obtain ⟨x3, e3⟩ : ∃ x, src[si + 3]'(by omega) = x := ⟨_, rfl⟩
          rw [e3] at r3 k3
          rw [← Nat.add_assoc] at k3
          obtain ⟨v3, -, m3⟩ := HW.out.enc.dm x3 (by omega)
          have b3 : (x3 : Int) < 256 := by omega
          obtain ⟨X, ok, HA⟩ := asm32_fix v0 v1 v2 v3
          have HAS := Lib.hid HA
          clear HA e0 e1 e2 e3
          obtain ⟨pd', hpd1, hpd2⟩ := slice_l pd d D n HP.out hi2
          have HPD := Lib.hid hpd1
          clear hpd1
          cases ok
          case false =>
            go_wp2_with fail
            (try simp only [List.append_eq, List.cons_append, List.nil_append])
            go_quiet ((go_at_call 140; exact Calls.quiet_of_same ((HAS.out _).mono fun e w' h => ⟨h.1, h.2.symm⟩)))
            go_wp2_with (go_at_call 139; refine (DW.quantumD HD.out hL (HW.out.drewN _) HI.out hsi HPD.out).mono ?_; rintro e2 w2 ⟨s2, n2, er, rfl, hq1, hq2, hq3, hq, hq6⟩; have HW2 := Lib.hid hq6; clear hq6; rcases hq with ⟨rfl, hq5⟩ | ⟨⟨z, rfl⟩, hq5⟩)
            · have HI2 := Lib.hid hq5
              clear hq5
              go_wp2_with fail
              go_roundw
              case rel => exact ⟨n + n2, s2, by go_num, rfl, by go_num, HI2.out, HW2.out⟩
              case measure => simp [intOf]; omega
            · have HE2 := Lib.hid hq5
              clear hq5
              go_wp2_with fail
              exact bodyPost_ret (results_tmp2 rfl _ _ _) rfl ⟨n + n2, _, by push_cast; rfl, .inr HE2.out, HW2.out.wrote⟩
          case true =>
            obtain rfl := HPD.out (by omega)
            go_wp2_with fail
            (try simp only [List.append_eq, List.cons_append, List.nil_append])
            go_quiet ((go_at_call 140; exact Calls.quiet_of_same ((HAS.out _).mono fun e w' h => ⟨h.1, h.2.symm⟩)))
            go_wp2_with (go_at_call 141; refine (put32_any (HW.out.drewN _).dst n (D - n) (D - n) (by omega) (by omega) X).mono ?_; rintro e2 w2 ⟨rfl, hq6⟩; have HW2 := Lib.hid ((HW.out.drewN _).step hq6); clear hq6)
            go_roundw
            case rel => exact ⟨n + 3, si + 4, by go_num, rfl, by go_num, HI.out.fourD HD.out (by omega), HW2.out⟩
            case measure => simp [intOf]; omega
    case rest =>
      clear HW
      obtain ⟨n, si, rfl, rfl, rfl, hi, hw⟩ := hcut
      have HW := Lib.hid hw
      have HI := Lib.hid hi
      clear hi hw
      go_upto_block 4 with fail
      go_cut [6, 7, 8, 17] from 221 to 242 (fun a6 a7 a8 a17 wx => ∃ n si : Nat, a6 = .int .i64 n ∧ a7 = .nilIface ∧ a8 = .int .i64 si ∧ DI src.length D n si ∧ DW w wx e d D sb so src)
      case first =>
        as_aux_lemma =>
          go_wp2_with fail
          go_loopw [6, 7, 8] (fun a6 a7 a8 wx => ∃ n si : Nat, a6 = .int .i64 n ∧ a7 = .nilIface ∧ a8 = .int .i64 si ∧ DI src.length D n si ∧ DW w wx e d D sb so src) (fun _ _ a8 _ => src.length - (intOf a8).toNat)
          case atStart => exact ⟨n, si, rfl, rfl, rfl, HI.out, HW.out⟩
          case round =>
            clear HW
            obtain ⟨n, si, rfl, rfl, rfl, hi, hw⟩ := hrel
            have HW := Lib.hid hw
            have HI := Lib.hid hi
            have hi1 := hi.1
            have hi2 := hi.2.1
            clear hi hw
            by_cases hsi : si < src.length
            case neg =>
              go_wp2_with fail
              go_meet
              exact ⟨n, si, rfl, rfl, rfl, HI.out, HW.out⟩
            obtain ⟨pd', hpd1, hpd2⟩ := slice_l pd d D n HP.out hi2
            have HPD := Lib.hid hpd1
            clear hpd1
            go_wp2_with (go_at_call 139; refine (DW.quantumD HD.out hL (HW.out) HI.out hsi HPD.out).mono ?_; rintro e2 w2 ⟨s2, n2, er, rfl, hq1, hq2, hq3, hq, hq6⟩; have HW2 := Lib.hid hq6; clear hq6; rcases hq with ⟨rfl, hq5⟩ | ⟨⟨z, rfl⟩, hq5⟩)
            · have HI2 := Lib.hid hq5
              clear hq5
              go_wp2_with fail
              go_roundw
              case rel => exact ⟨n + n2, s2, by go_num, rfl, by go_num, HI2.out, HW2.out⟩
              case measure => simp [intOf]; omega
            · have HE2 := Lib.hid hq5
              clear hq5
              go_wp2_with fail
              exact bodyPost_ret (results_tmp2 rfl _ _ _) rfl ⟨n + n2, _, by push_cast; rfl, .inr HE2.out, HW2.out.wrote⟩
      case rest =>
        clear HW
        obtain ⟨n, si, rfl, rfl, rfl, hi, hw⟩ := hcut
        have HW := Lib.hid hw
        have HI := Lib.hid hi
        clear hi hw
        have hi2 := HI.out.2.1
        go_wp2_with fail
        exact bodyPost_ret (results_tmp2 rfl _ _ _) rfl ⟨n, _, rfl, .inl ⟨rfl, hi2⟩, HW.out.wrote⟩
end Go.Proofs.YtaecbclonmhbcaaGreatDoor
