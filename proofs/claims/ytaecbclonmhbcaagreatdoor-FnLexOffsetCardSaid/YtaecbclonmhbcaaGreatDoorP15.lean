/- internal/strconv.leftShift. internal/strconv.decimal's Shift. internal/strconv.decimal's RoundedInteger, shouldRoundUp. Contracts of math/bits: the library shelf laid at this program (written by the kit lay-plain tool). internal/strconv's fast scaling: small functions. internal/strconv.prescale, parseFloat64. internal/strconv.pack32, parseFloat32. Printed by gen_fl3.py. -/
import Derived.Test.YtaecbclonmhbcaaGreatDoorP14
import Derived.Shelf.Small.Utf8
import Derived.Shelf.Strconv.Itoa0
import Derived.Shelf.Bits.Mul64
import Derived.Test.YtaecbclonmhbcaaGreatDoorProg
import Derived.Test.YtaecbclonmhbcaaGreatDoorP01
import Derived.Lib.EndianBits
set_option linter.unusedVariables false
set_option linter.unusedSimpArgs false
namespace Go.Proofs.YtaecbclonmhbcaaGreatDoor
open Go.RowKit
structure CheatT (w : World) (b : Nat) : Prop where
  ne : 13 ≠ b
  at_ : ∃ g o cp, g ≠ b ∧ w.cell? ⟨13, 0, none⟩ = some (.slice (some ⟨g, o, none⟩) 61 cp) ∧ 61 ≤ cp ∧ ∀ k, 1 ≤ k → k ≤ 60 →
    ∃ (delta : Nat) (s : ByteArray) (cut : List Nat), w.cell? ⟨g, o + k * 2, none⟩ = some (.int .i64 delta) ∧ w.cell? ⟨g, o + k * 2 + 1, none⟩ = some (.string s) ∧ Spells s cut ∧ s.size ≤ 800 ∧ Cheat k delta cut
theorem lshC_step {p : Nat} {ds : List Nat} {i : Nat} (h : i < ds.length) : lshC p (ds.drop i) =
    (((lshC p (ds.drop (i + 1))).1 + ds.getD i 0 * p) / 10, (((lshC p (ds.drop (i + 1))).1 + ds.getD i 0 * p) % 10) :: (lshC p (ds.drop (i + 1))).2) := by
  rw [drop_getD h]; rfl
theorem DigL.drop {l : List Nat} (h : DigL l) (k : Nat) : DigL (l.drop k) := fun x hx => h x (List.mem_of_mem_drop hx)
theorem DigL.getD {l : List Nat} (h : DigL l) (k : Nat) : l.getD k 0 ≤ 9 := by
  by_cases hk : k < l.length
  · have : l.getD k 0 = l[k] := by simp [List.getD, hk]
    rw [this]; exact h _ (List.getElem_mem hk)
  · have : l.getD k 0 = 0 := by simp [List.getD, hk]
    omega
theorem getD_right {a c : List Nat} {q j : Nat} (h : a.length = q) (hj : q ≤ j) : (a ++ c).getD j 0 = c.getD (j - q) 0 := by
  subst h
  simp only [List.getD, List.getElem?_append_right hj]
theorem getD_cons_sub {x : Nat} {l : List Nat} {i j : Nat} (h : i + 1 ≤ j) : (x :: l).getD (j - i) 0 = l.getD (j - (i + 1)) 0 := by
  have : j - i = (j - (i + 1)) + 1 := by omega
  rw [this]; rfl
theorem DecAt.setNd' {w : World} {b : Nat} {f : Nat → Int} {nd : Nat} {dp : Int} (h : DecAt w b f nd dp) (k : Nat) (x : Int) (hx : x = k) : DecAt (w.setCell ⟨b, 800, none⟩ (.int .i64 x)) b f k dp := by
  subst hx; exact h.setNd k
theorem slice800 (b nd : Nat) (h : nd ≤ 800) (W : World) : (Instr.sliceAt 211 (.pointer (some ⟨b, 0, none⟩)) (some (.int .i64 0)) (some (.int .i64 nd)) none).run Tryz.prog W = .ok (.slice (some ⟨b, 0, none⟩) nd 800) W := by
  have hl : Tryz.prog.arrayLen 211 = 800 := by kernel_rfl
  have he : Tryz.prog.elem 211 = 5 := by kernel_rfl
  have hu : Tryz.prog.underlying 211 = some (.array (Tryz.prog.arrayLen 211) (Tryz.prog.elem 211)) := by rw [hl, he]; kernel_rfl
  have hs : (sizeOf 5).run Tryz.prog W = .ok 1 W := by show _ = _; kernel_rfl
  rw [run_sliceAt_array_lh (P := Tryz.prog) W 211 ⟨b, 0, none⟩ hu .i64 .i64 0 nd (by decide) (by omega) (by rw [hl]; omega), he, hs, hl]
  simp [Result.andThen, slicedAt, Addr.add]
set_option maxHeartbeats 4000000 in
set_option maxRecDepth 100000 in
theorem lsh_any (b : Nat) (f : Nat → Int) (nd : Nat) (dp : Int) (k : Nat) (w : World) (h : DecAt w b f nd dp) (hT : CheatT w b) (hG : DGood f nd) (hk0 : 1 ≤ k) (hk : k ≤ 60) :
    Calls Tryz.prog 221 #[.pointer (some ⟨b, 0, none⟩), .int .u64 k] w fun e w' => e = .returned (.tuple #[]) ∧ ∃ (g : Nat → Int) (nd' : Nat) (t : Nat), DecAt w' b g nd' (IntKind.i64.wrap (dp + t)) ∧ DGood g nd' ∧
      t ≤ 20 ∧ (t = 0 → f 0 < g 0) ∧ Kept b w w' := by
  obtain ⟨c, o, cp, hcb, hc13, hcp, hrow⟩ := hT.at_
  obtain ⟨delta, s, cut, hr1, hr2, hS, hs8, hCh⟩ := hrow k hk0 hk
  obtain ⟨ds, hlen, hds⟩ : ∃ ds : List Nat, ds.length = nd ∧ ∀ i, i < nd → f i = (ds.getD i 0 : Nat) + 48 := by
    refine ⟨(List.range nd).map fun i => (f i - 48).toNat, by simp, fun i hi => ?_⟩
    have := hG.dig i hi
    simp [List.getD, hi]
    omega
  have H := Lib.hid h
  have GG := Lib.hid hG
  have c1 := h.nd
  have c2 := h.dp
  have h1 := hG.pos
  have h8 := hG.most
  have HP : Hid (∀ n : Nat, Calls Tryz.prog 237 #[.slice (some ⟨b, 0, none⟩) nd 800, .string s] (w.drewN n) fun e w' => e = .returned (.bool (lessP ds cut)) ∧ ∃ m, w' = (w.drewN n).drewN m) :=
    fun n => prefix_any b ds cut nd 800 s (w.drewN n) hlen h8 hS hs8 (fun i hi => by rw [← hds i hi]; exact h.dig i (by omega))
  have HL := Lib.hid hlen
  have HDS := Lib.hid hds
  have HC := Lib.hid hCh
  have hd18 : delta ≤ 20 := by
    have e1 := hCh.lo
    have e2 := Nat.pow_le_pow_right (n := 2) (by decide) hk
    have e3 : 10 ^ delta < 10 ^ 20 := by omega
    have := (Nat.pow_lt_pow_iff_right (by decide)).1 e3
    omega
  have hd1 := hCh.pos
  clear h hG hrow hT hS hlen hds hCh
  obtain ⟨P, hP⟩ : ∃ P : Int, (2 : Int) ^ k = P := ⟨_, rfl⟩
  have hP0 : 2 ≤ P := by rw [← hP]; exact pow2_least hk0
  have hP1 : P ≤ 1152921504606846976 := by rw [← hP]; exact pow2_most hk
  obtain ⟨lp, hlp⟩ : ∃ lp, lessP ds cut = lp := ⟨_, rfl⟩
  rw [hlp] at HP
  have hsl := slice800 b nd h8
  go_enter Tryz.func221, Tryz.ntmps221
  go_upto_region 1 with fail
  go_wp2
  go_quiet ((go_at_call 237; exact Calls.quiet_of (HP.out _)))
  go_upto_if 30 with fail
  go_cut [4] from 31 to 32 (fun a4 wx => ∃ t : Nat, a4 = .int .i64 t ∧ t = delta - (if lp then 1 else 0) ∧ wx = w.drewN nq)
  case first =>
    cases lp
    · go_wp2_with fail
      go_meet
      exact ⟨delta, rfl, rfl, rfl⟩
    · go_wp2_with fail
      go_meet
      exact ⟨delta - 1, by congr 1; omega, rfl, rfl⟩
  case rest =>
    obtain ⟨t, rfl, ht, rfl⟩ := hcut
    obtain ⟨p, hp⟩ : ∃ p : Nat, 2 ^ k = p := ⟨_, rfl⟩
    have hpP : P = (p : Int) := by rw [← hP, ← hp]; simp
    have hdl : DigL ds := fun x hx => by
      obtain ⟨i, hi, rfl⟩ := List.getElem_of_mem hx
      have e1 := GG.out.dig i (by rw [← HL.out]; exact hi)
      have e2 := HDS.out i (by rw [← HL.out]; exact hi)
      have e3 : ds.getD i 0 = ds[i] := by simp [List.getD, hi]
      omega
    obtain ⟨d0, ds', hcons⟩ : ∃ d0 ds', ds = d0 :: ds' := by
      cases ds with
      | nil => have := HL.out; simp at this; omega
      | cons a l => exact ⟨a, l, rfl⟩
    have hd0 : d0 ≠ 0 := by
      have e1 := GG.out.head
      have e2 := HDS.out 0 (by omega)
      rw [hcons] at e2
      simp at e2
      omega
    have hlsh : (lshD p ds).length = nd + t := by
      have e := HC.out.length (d := d0) (ds := ds') (by rw [← hcons]; exact hdl) hd0
      rw [← hcons, hp, hlp] at e
      have e2 := HL.out
      rw [hcons] at e2
      rw [List.length_cons] at e2
      have h3 : (if lp = true then 1 else 0) ≤ delta := by split <;> omega
      omega
    have htd : t ≤ delta := by omega
    have HLS := Lib.hid hlsh
    have HDL := Lib.hid hdl
    have HCO := Lib.hid hcons
    have HD0 := Lib.hid hd0
    have HTT := Lib.hid ht
    have HPP := Lib.hid hpP
    have HPK := Lib.hid hp
    have hpp : 0 < p := by omega
    clear hlsh hdl hcons hd0 ht hp hlp hpP
    have HCR : Hid (∀ i, (lshC p (ds.drop i)).1 < p) := fun i => lshC_carry hpp (HDL.out.drop i)
    go_upto_block 0 with fail
    have HD1 := Lib.hid (H.out.drewN nq)
    have HK1 := Lib.hid ((Kept.refl b w).drewN nq)
    clear c1 c2 hsl hr1 hr2 hc13
    go_cut [6, 7] from 45 to 84 (fun a6 a7 wx => ∃ (g : Nat → Int), a6 = .int .i64 t ∧ a7 = .int .u64 ((lshC p ds).1 : Nat) ∧
      (∀ j, j < nd → j + t < 800 → g (j + t) = ((lshC p ds).2.getD j 0 : Nat) + 48) ∧ DecAt wx b g nd dp ∧ Kept b w wx)
    case first =>
      go_wp2_with fail
      go_loopg [5, 6, 7] nd (fun gk v5 v6 v7 wr => ∃ (i q C : Nat) (r : Int) (g : Nat → Int), gk = i ∧ i ≤ nd ∧ r + 1 = i ∧ q = i + t ∧ C = (lshC p (ds.drop i)).1 ∧ v5 = .int .i64 r ∧ v6 = .int .i64 q ∧ v7 = .int .u64 C ∧
        (∀ j, j < i → g j = (ds.getD j 0 : Nat) + 48) ∧ (∀ j, i ≤ j → j < nd → j + t < 800 → g (j + t) = ((lshC p (ds.drop i)).2.getD (j - i) 0 : Nat) + 48) ∧ DecAt wr b g nd dp ∧ Kept b w wr)
      case atStart =>
        refine ⟨nd, nd + t, 0, (nd : Int) - 1, f, rfl, Nat.le_refl _, by omega, rfl, ?_, rfl, ?_, rfl, HDS.out, fun j h1 h2 => absurd h2 (by omega), HD1.out, HK1.out⟩
        · rw [List.drop_eq_nil_of_le (by rw [HL.out]; exact Nat.le_refl _)]; rfl
        · first | rfl | (congr 1; push_cast; rfl) | trace_state
      case round =>
        obtain ⟨i, q, C, r, g, hgk, hin, hr, hq, hC, rfl, rfl, rfl, hg1, hg2, hd, hK⟩ := hrel
        have A1 := Lib.hid hg1
        have A2 := Lib.hid hg2
        have A3 := Lib.hid hd
        have A4 := Lib.hid hK
        have A5 := Lib.hid hC
        have A6 := Lib.hid hq
        clear hg1 hg2 hC hq
        cases i with
        | zero =>
          obtain rfl : r = -1 := by omega
          clear hd hK
          go_wp2_with fail
          go_meet
          have e1 := A6.out
          have e2 := A5.out
          refine ⟨g, by rw [e1]; simp, by rw [e2]; rfl, fun j h1 h2 => ?_, A3.out, A4.out⟩
          exact A2.out j (Nat.zero_le _) h1 h2
        | succ i =>
          obtain rfl : r = (i : Int) := by omega
          obtain ⟨q, rfl⟩ : ∃ q', q = q' + 1 := ⟨q - 1, by have := A6.out; omega⟩
          have hqi : q = i + t := by have := A6.out; omega
          have c3 := hd.dig i (by omega)
          rw [A1.out i (by omega)] at c3
          obtain ⟨x, hx⟩ : ∃ x, ds.getD i 0 = x := ⟨_, rfl⟩
          have hx9 : x ≤ 9 := by rw [← hx]; exact HDL.out.getD i
          rw [hx] at c3
          have hCp : C < p := by rw [A5.out]; exact HCR.out _
          obtain ⟨N, hN⟩ : ∃ N, C + x * p = N := ⟨_, rfl⟩
          have hN10 : N < 10 * p := by
            have : x * p ≤ 9 * p := Nat.mul_le_mul_right _ hx9
            omega
          have hNP := HPP.out
          have hst := lshC_step (p := p) (ds := ds) (i := i) (by rw [HL.out]; omega)
          rw [← A5.out, hx, hN] at hst
          obtain ⟨M, hM⟩ : ∃ M : Int, (C : Int) + x * P = M := ⟨_, rfl⟩
          have hMN : M = (N : Int) := by rw [← hM, ← hN, hNP]; push_cast; rfl
          obtain ⟨R, hR⟩ : ∃ R : Int, M % 10 = R := ⟨_, rfl⟩
          have e0 : IntKind.u64.wrap ((x : Int) + 48) = x + 48 := u64_id _ (by omega) (by omega)
          have e1 : IntKind.u64.wrap (x : Int) = x := u64_id _ (by omega) (by omega)
          have e2 : IntKind.u64.wrap ((x : Int) * P) = x * P := by
            have h1 : (x : Int) * P ≤ 9 * P := Int.mul_le_mul_of_nonneg_right (by omega) (by omega)
            have h2 : 0 ≤ (x : Int) * P := Int.mul_nonneg (by omega) (by omega)
            exact u64_id _ h2 (by omega)
          have e3 : IntKind.u64.wrap M = M := u64_id _ (by omega) (by omega)
          have e4 : IntKind.u64.wrap (10 * (M / 10)) = 10 * (M / 10) := u64_id _ (by omega) (by omega)
          have e5 : IntKind.u64.wrap (M - 10 * (M / 10)) = R := by rw [u64_id _ (by omega) (by omega)]; omega
          have e6 : IntKind.u64.wrap (R + 48) = R + 48 := u64_id _ (by omega) (by omega)
          have e7 : (R + 48) % 256 = R + 48 := by omega
          have e8 : IntKind.u64.wrap (M / 10) = M / 10 := u64_id _ (by omega) (by omega)
          have hRN : R = ((N % 10 : Nat) : Int) := by omega
          have hM0 : 0 ≤ M := by omega
          have htd : M.tdiv 10 = M / 10 := Int.tdiv_eq_ediv_of_nonneg hM0
          have hqb : q < 100000 := by omega
          have B1 := Lib.hid hst
          have B2 := Lib.hid hMN
          have B3 := Lib.hid hRN
          have B4 := Lib.hid hqi
          have B5 := Lib.hid hx
          clear hst hMN hRN hqi hN10 hN hCp hx9 hR hNP hx
          by_cases h800 : q < 800
          · have h800' : (q : Int) < 800 := by omega
            have c4 := hd.dig q h800
            have z4 := hd.free q
            clear hd hK
            go_wp2_with fail
            go_roundg i
            case measure => omega
            case rel =>
              have b4 := B4.out
              refine ⟨i, q, _, _, putAt g q (R + 48), rfl, by omega, by omega, b4, rfl, rfl, rfl, ?_, fun j hj => ?_, fun j h1 h2 h3 => ?_, A3.out.setDig h800 _, A4.out.setCell _ _⟩
              · rw [B1.out, B2.out]; simp
              · simp only [putAt, if_neg (show ¬ j = q by omega)]; exact A1.out j (by omega)
              · rw [B1.out]
                by_cases e : j = i
                · subst e
                  simp only [putAt, if_pos (show j + t = q by omega), Nat.sub_self]
                  rw [B3.out]; rfl
                · simp only [putAt, if_neg (show ¬ j + t = q by omega)]
                  rw [A2.out j (by omega) h2 h3]
                  rw [getD_cons_sub (by omega)]
          · have h800' : ¬ (q : Int) < 800 := by omega
            have z4 := hd.free 803
            obtain ⟨tr, c4⟩ := hd.tr
            clear hd hK
            by_cases hR0 : R = 0
            · have hR1 : (R != 0) = false := by simp [hR0]
              have HR0 := Lib.hid hR0
              clear hR0
              go_wp2_with fail
              go_roundg i
              case measure => omega
              case rel =>
                have b4 := B4.out
                refine ⟨i, q, _, _, g, rfl, by omega, by omega, b4, rfl, rfl, rfl, ?_, fun j hj => A1.out j (by omega), fun j h1 h2 h3 => ?_, A3.out, A4.out⟩
                · rw [B1.out, B2.out]; simp
                · rw [B1.out, A2.out j (by omega) h2 h3, getD_cons_sub (by omega)]
            · have hR1 : (R != 0) = true := bne_iff_ne.2 hR0
              clear hR0
              go_wp2_with fail
              go_roundg i
              case measure => omega
              case rel =>
                have b4 := B4.out
                refine ⟨i, q, _, _, g, rfl, by omega, by omega, b4, rfl, rfl, rfl, ?_, fun j hj => A1.out j (by omega), fun j h1 h2 h3 => ?_, A3.out.setTr _, A4.out.setCell _ _⟩
                · rw [B1.out, B2.out]; simp
                · rw [B1.out, A2.out j (by omega) h2 h3, getD_cons_sub (by omega)]
    case rest =>
      obtain ⟨g, rfl, rfl, hg, hd, hK⟩ := hcut
      have HG1 := Lib.hid hg
      have HD2 := Lib.hid hd
      have HK2 := Lib.hid hK
      have hC0 : Hid ((lshC p ds).1 < 10 ^ 20) := by
        have e1 := HCR.out 0
        have e2 := HPP.out
        rw [List.drop_zero] at e1
        show _ < _
        omega
      have hx20 : Hid ((extD 20 (lshC p ds).1).length = t) := by
        have e := HLS.out
        show _ = _
        unfold lshD at e
        rw [List.length_append, lshC_length, HL.out] at e
        omega
      obtain ⟨C, hC⟩ : ∃ C, (lshC p ds).1 = C := ⟨_, rfl⟩
      rw [hC] at hC0 hx20
      have HCC := Lib.hid hC
      clear hg hd hK
      rw [hC]
      clear hC
      go_wp2_with fail
      go_loopg [6, 7] 20 (fun gk v6 v7 wr => ∃ (q n : Nat) (g : Nat → Int) (rest : List Nat), v6 = .int .i64 q ∧ v7 = .int .u64 n ∧ q ≤ t ∧ n < 10 ^ gk ∧ n ≤ C ∧ (extD gk n).length = q ∧ lshD p ds = extD gk n ++ rest ∧
        (∀ j, q ≤ j → j < 800 → j < nd + t → g j = ((lshD p ds).getD j 0 : Nat) + 48) ∧ DecAt wr b g nd dp ∧ Kept b w wr)
      case atStart =>
        refine ⟨t, C, g, (lshC p ds).2, rfl, rfl, Nat.le_refl _, hC0.out, Nat.le_refl _, hx20.out, by unfold lshD; rw [HCC.out], fun j h1 h2 h3 => ?_, HD2.out, HK2.out⟩
        obtain ⟨i, rfl⟩ : ∃ i, j = i + t := ⟨j - t, by omega⟩
        rw [HG1.out i (by omega) h2]
        unfold lshD
        rw [HCC.out, getD_right hx20.out (by omega), Nat.add_sub_cancel]
      case round =>
        obtain ⟨q, n, g, rest, rfl, rfl, hqt, hn, hnC, hq, hsp, hg, hd, hK⟩ := hrel
        have A1 := Lib.hid hn
        have A2 := Lib.hid hq
        have A3 := Lib.hid hsp
        have A4 := Lib.hid hg
        have A5 := Lib.hid hd
        have A6 := Lib.hid hK
        have hnb : (n : Int) < 18446744073709551616 := by
          have e1 := HCR.out 0
          have e2 := HPP.out
          have e3 := HCC.out
          rw [List.drop_zero] at e1
          omega
        clear hn hq hsp hg
        by_cases hn0 : n = 0
        case pos =>
          subst hn0
          have hq0 : q = 0 := by rw [← A2.out]; cases gk <;> simp [extD]
          subst hq0
          have c1 := hd.nd
          have c2 := hd.dp
          have z0 := hd.free 800
          have z1 := hd.free 801
          have htb : t ≤ 20 := by omega
          obtain ⟨D, hD⟩ : ∃ D, IntKind.i64.wrap (dp + t) = D := ⟨_, rfl⟩
          have hhead : Hid (∃ e es, lshD p ds = e :: es ∧ e ≠ 0 ∧ (t = 0 → d0 < e)) := by
            show ∃ _, _
            have e1 := HDL.out
            rw [HCO.out] at e1
            have e2 := HPK.out
            have hp2 : 2 ≤ p := by have := HPP.out; omega
            have hp20 : p < 10 ^ 20 := by have := HPP.out; omega
            obtain ⟨e, es, h1, h2⟩ := lshD_head hpp hp20 e1 HD0.out
            rw [HCO.out]
            refine ⟨e, es, h1, h2, fun ht0 => ?_⟩
            have e3 := HLS.out
            have e4 := HL.out
            rw [HCO.out] at e3 e4
            rw [List.length_cons] at e4
            obtain ⟨e', es', h3, h4⟩ := lshD_grows hp2 HD0.out (by rw [e3, ht0]; omega)
            rw [h1] at h3
            injection h3 with h5 h6
            subst h5
            exact h4
          have hg0 : Hid (49 ≤ g 0 ∧ (t = 0 → f 0 < g 0)) := by
            show _ ∧ _
            obtain ⟨e, es, h1, h2, h3⟩ := hhead.out
            have e1 := A4.out 0 (Nat.le_refl _) (by decide) (by omega)
            rw [h1] at e1
            have e2 : (e :: es).getD 0 0 = e := rfl
            rw [e2] at e1
            have e4 := HDS.out 0 (by omega)
            rw [HCO.out] at e4
            have e5 : (d0 :: ds').getD 0 0 = d0 := rfl
            rw [e5] at e4
            refine ⟨by omega, fun ht0 => ?_⟩
            have := h3 ht0
            omega
          have hgd : Hid (∀ j, j < 800 → j < nd + t → 48 ≤ g j ∧ g j ≤ 57) := fun j h1 h2 => by
            have e1 := A4.out j (Nat.zero_le _) h1 h2
            have e2 := (lshD_dig p ds).getD j
            omega
          have HDD := Lib.hid hD
          by_cases hge : 800 ≤ nd + t
          · have hge' : (800 : Int) ≤ (nd : Int) + t := by omega
            have HDT := Lib.hid (((A5.out.setNd' (nd + t) ((nd : Int) + t) (by push_cast; rfl)).setNd' 800 800 rfl).setDp D)
            have HKT := Lib.hid (((A6.out.setCell 800 (.int .i64 ((nd : Int) + t))).setCell 800 (.int .i64 800)).setCell 801 (.int .i64 D))
            clear hd hK
            go_wp2_with (go_at_call 238; refine (trim_any b g 800 D _ HDT.out (by have := hg0.out.1; omega) (by decide) (Nat.le_refl _)).mono ?_; rintro e w1 ⟨rfl, nd', ht1, ht2, ht3, ht4⟩)
            exact bodyPost_end (results_none rfl _ _ _) rfl ⟨rfl, g, nd', t, by rw [HDD.out]; exact ht3, ⟨ht1, by omega, fun i hi => hgd.out i (by omega) (by omega), hg0.out.1⟩, htb, hg0.out.2, HKT.out.trans ht4⟩
          · have hge' : ¬ (800 : Int) ≤ (nd : Int) + t := by omega
            have HDT := Lib.hid ((A5.out.setNd' (nd + t) ((nd : Int) + t) (by push_cast; rfl)).setDp D)
            have HKT := Lib.hid ((A6.out.setCell 800 (.int .i64 ((nd : Int) + t))).setCell 801 (.int .i64 D))
            clear hd hK
            go_wp2_with (go_at_call 238; refine (trim_any b g (nd + t) D _ HDT.out (by have := hg0.out.1; omega) (by omega) (by omega)).mono ?_; rintro e w1 ⟨rfl, nd', ht1, ht2, ht3, ht4⟩)
            exact bodyPost_end (results_none rfl _ _ _) rfl ⟨rfl, g, nd', t, by rw [HDD.out]; exact ht3, ⟨ht1, by omega, fun i hi => hgd.out i (by omega) (by omega), hg0.out.1⟩, htb, hg0.out.2, HKT.out.trans ht4⟩
        case neg =>
          have hpos : 0 < (n : Int) := by omega
          obtain ⟨F, rfl⟩ : ∃ F, gk = F + 1 := by
            cases gk with
            | zero => have := A1.out; simp at this; omega
            | succ F => exact ⟨F, rfl⟩
          have hex : Hid (extD (F + 1) n = extD F (n / 10) ++ [n % 10]) := by show _ = _; simp only [extD, if_neg hn0]
          obtain ⟨q, rfl⟩ : ∃ q', q = q' + 1 := ⟨q - 1, by have := A2.out; rw [hex.out] at this; simp at this; omega⟩
          obtain ⟨M, hM⟩ : ∃ M : Int, (n : Int) = M := ⟨_, rfl⟩
          obtain ⟨R, hR⟩ : ∃ R : Int, M % 10 = R := ⟨_, rfl⟩
          have hM0 : 0 ≤ M := by omega
          have htd' : M.tdiv 10 = M / 10 := Int.tdiv_eq_ediv_of_nonneg hM0
          have hqb : q < 100000 := by omega
          have e3 : IntKind.u64.wrap M = M := u64_id _ (by omega) (by omega)
          have e4 : IntKind.u64.wrap (10 * (M / 10)) = 10 * (M / 10) := u64_id _ (by omega) (by omega)
          have e5 : IntKind.u64.wrap (M - 10 * (M / 10)) = R := by rw [u64_id _ (by omega) (by omega)]; omega
          have e6 : IntKind.u64.wrap (R + 48) = R + 48 := u64_id _ (by omega) (by omega)
          have e7 : (R + 48) % 256 = R + 48 := by omega
          have e8 : IntKind.u64.wrap (M / 10) = M / 10 := u64_id _ (by omega) (by omega)
          have hRN : R = ((n % 10 : Nat) : Int) := by omega
          have hMd : M / 10 = ((n / 10 : Nat) : Int) := by omega
          have hpM : 0 < M := by omega
          have B1 := Lib.hid hRN
          have B2 := Lib.hid hMd
          have hfull : Hid (n / 10 < 10 ^ F ∧ (extD F (n / 10)).length = q ∧ lshD p ds = extD F (n / 10) ++ ((n % 10) :: rest) ∧ (lshD p ds).getD q 0 = n % 10) := by
            show _ ∧ _
            have a1 := A1.out
            have a2 := A2.out
            have a3 := A3.out
            rw [hex.out] at a2 a3
            rw [List.length_append, List.length_singleton] at a2
            rw [Nat.pow_succ] at a1
            have a4 : lshD p ds = extD F (n / 10) ++ ((n % 10) :: rest) := by rw [a3, List.append_assoc]; rfl
            refine ⟨by omega, by omega, a4, ?_⟩
            rw [a4, getD_right (q := q) (by omega) (Nat.le_refl _), Nat.sub_self]; rfl
          clear hRN hMd hn0 hR hpos
          rw [hM]
          have HM := Lib.hid hM
          clear hM hnb
          by_cases h800 : q < 800
          · have h800' : (q : Int) < 800 := by omega
            have c4 := hd.dig q h800
            have z4 := hd.free q
            clear hd hK
            go_wp2_with fail
            go_roundg F
            case measure => omega
            case rel =>
              refine ⟨q, n / 10, putAt g q (R + 48), (n % 10) :: rest, rfl, by rw [B2.out], by omega, hfull.out.1, by omega, hfull.out.2.1, hfull.out.2.2.1, fun j h1 h2 h3 => ?_, A5.out.setDig h800 _, A6.out.setCell _ _⟩
              by_cases e : j = q
              · subst e
                simp only [putAt, if_true]
                rw [hfull.out.2.2.2, B1.out]
              · simp only [putAt, if_neg e]
                exact A4.out j (by omega) h2 h3
          · have h800' : ¬ (q : Int) < 800 := by omega
            have z4 := hd.free 803
            obtain ⟨tr, c4⟩ := hd.tr
            omega
end Go.Proofs.YtaecbclonmhbcaaGreatDoor

namespace Go.Proofs.YtaecbclonmhbcaaGreatDoor
open Go.RowKit
theorem CheatT.kept {w w' : World} {b : Nat} (h : CheatT w b) (hK : Kept b w w') : CheatT w' b := by
  obtain ⟨h13, g, o, cp, hg, h1, h2, h3⟩ := h
  refine ⟨h13, g, o, cp, hg, hK.cell h1 h13, h2, fun k hk hk2 => ?_⟩
  obtain ⟨d, s, cut, a1, a2, a3⟩ := h3 k hk hk2
  exact ⟨d, s, cut, hK.cell a1 hg, hK.cell a2 hg, a3⟩
set_option maxHeartbeats 4000000 in
set_option maxRecDepth 100000 in
theorem shift_left (b : Nat) (f : Nat → Int) (nd : Nat) (dp : Int) (k : Nat) (w : World) (h : DecAt w b f nd dp) (hT : CheatT w b) (hG : DGood f nd) (hk0 : 1 ≤ k) (hk : k ≤ 60) :
    Calls Tryz.prog 206 #[.pointer (some ⟨b, 0, none⟩), .int .i64 k] w fun e w' => e = .returned (.tuple #[]) ∧ ∃ (g : Nat → Int) (nd' : Nat) (t : Nat), DecAt w' b g nd' (IntKind.i64.wrap (dp + t)) ∧ DGood g nd' ∧
      t ≤ 20 ∧ (t = 0 → f 0 < g 0) ∧ Kept b w w' := by
  have HC := Lib.hid (lsh_any b f nd dp k w h hT hG hk0 hk)
  have c1 := h.nd
  have h1 := hG.pos
  have g0 : ((nd : Int) == 0) = false := beq_eq_false_iff_ne.2 (by omega)
  have g1 : (0 : Int) < k := by omega
  have g2 : ¬ (60 : Int) < k := by omega
  have e1 : IntKind.u64.wrap (k : Int) = k := u64_id _ (by omega) (by omega)
  clear h hT hG
  go_enter Tryz.func206, Tryz.ntmps206
  go_wp2
  go_loopg [1] 0 (fun gk v wr => v = .int .i64 k ∧ w = wr)
  case atStart => exact ⟨rfl, rfl⟩
  case round =>
    obtain ⟨rfl, rfl⟩ := hrel
    go_wp2_with (go_at_call 221; refine HC.out.mono ?_; rintro e w1 ⟨rfl, hp⟩)
    exact bodyPost_end (results_none rfl _ _ _) rfl ⟨rfl, hp⟩
set_option maxHeartbeats 4000000 in
set_option maxRecDepth 100000 in
theorem shift_right (b : Nat) (f : Nat → Int) (nd : Nat) (dp : Int) (k : Nat) (w : World) (h : DecAt w b f nd dp) (hG : DGood f nd) (hk0 : 1 ≤ k) (hk : k ≤ 60) :
    Calls Tryz.prog 206 #[.pointer (some ⟨b, 0, none⟩), .int .i64 (-(k : Int))] w fun e w' => e = .returned (.tuple #[]) ∧ ∃ (g : Nat → Int) (nd' : Nat) (r : Int), DecAt w' b g nd' (IntKind.i64.wrap (dp - (r - 1))) ∧ DGood g nd' ∧
      1 ≤ r ∧ r ≤ 2305843009213693952 ∧ (r = 1 → g 0 < f 0) ∧ Kept b w w' := by
  have HC := Lib.hid (rsh_any b f nd dp k w h hG hk0 hk)
  have c1 := h.nd
  have h1 := hG.pos
  have g0 : ((nd : Int) == 0) = false := beq_eq_false_iff_ne.2 (by omega)
  obtain ⟨m, hm⟩ : ∃ m : Int, -(k : Int) = m := ⟨_, rfl⟩
  have g1 : ¬ 0 < m := by omega
  have g2 : m < 0 := by omega
  have g3 : ¬ m < -60 := by omega
  have e0 : IntKind.i64.wrap (-m) = k := by rw [IntKind.wrap_i64]; omega
  have e1 : IntKind.u64.wrap (k : Int) = k := u64_id _ (by omega) (by omega)
  have e2 : -m = (k : Int) := by omega
  rw [hm]
  clear h hG hm
  go_enter Tryz.func206, Tryz.ntmps206
  go_wp2
  go_loopg [1] 0 (fun gk v wr => v = .int .i64 m ∧ w = wr)
  case atStart => exact ⟨rfl, rfl⟩
  case round =>
    obtain ⟨rfl, rfl⟩ := hrel
    go_wp2_with (go_at_call 222; refine HC.out.mono ?_; rintro e w1 ⟨rfl, hp⟩)
    exact bodyPost_end (results_none rfl _ _ _) rfl ⟨rfl, hp⟩
def DecSome (w : World) (b : Nat) : Prop := ∃ (g : Nat → Int) (nd : Nat) (dp : Int), DecAt w b g nd dp ∧ DGood g nd
set_option maxHeartbeats 4000000 in
set_option maxRecDepth 100000 in
theorem shift_any (b : Nat) (k : Int) (w : World) (h : DecSome w b) (hT : CheatT w b) (hk0 : -9223372036854775808 ≤ k) (hk1 : k < 9223372036854775808) :
    Calls Tryz.prog 206 #[.pointer (some ⟨b, 0, none⟩), .int .i64 k] w fun e w' => e = .returned (.tuple #[]) ∧ DecSome w' b ∧ Kept b w w' := by
  obtain ⟨f, nd, dp, hd, hG⟩ := h
  have H := Lib.hid hd
  have HG := Lib.hid hG
  have HT := Lib.hid hT
  have c1 := hd.nd
  have h1 := hG.pos
  have g0 : ((nd : Int) == 0) = false := beq_eq_false_iff_ne.2 (by omega)
  clear hd hT hG
  go_enter Tryz.func206, Tryz.ntmps206
  rcases Int.lt_trichotomy k 0 with hk | hk | hk
  · have g1 : ¬ 0 < k := by omega
    go_wp2
    go_loopg [1] (-k).toNat (fun gk v wr => ∃ (m : Int) (f : Nat → Int) (nd : Nat) (dp : Int), v = .int .i64 m ∧ gk = (-m).toNat ∧ m < 0 ∧ k ≤ m ∧ DecAt wr b f nd dp ∧ DGood f nd ∧ Kept b w wr)
    case atStart => exact ⟨k, f, nd, dp, rfl, rfl, hk, Int.le_refl _, H.out, HG.out, Kept.refl _ _⟩
    case round =>
      clear c1 h1 g0 g1 hk
      obtain ⟨m, f, nd, dp, rfl, hgk, hm, hkm, hd, hG, hK⟩ := hrel
      have A1 := Lib.hid hd
      have A2 := Lib.hid hG
      have A3 := Lib.hid hK
      clear hd hG hK
      by_cases h60 : m < -60
      · have HC := Lib.hid (rsh_any b f nd dp 60 wr A1.out A2.out (by decide) (by decide))
        go_wp2_with (go_at_call 222; refine HC.out.mono ?_; rintro e w1 ⟨rfl, g, nd', r, d1, d2, -, -, -, d3⟩)
        go_roundg (-(m + 60)).toNat
        case measure => omega
        case rel => exact ⟨m + 60, g, nd', _, rfl, rfl, by omega, by omega, d1, d2, A3.out.trans d3⟩
      · obtain ⟨j, hj⟩ : ∃ j : Nat, -m = (j : Int) := ⟨(-m).toNat, by omega⟩
        have HC := Lib.hid (rsh_any b f nd dp j wr A1.out A2.out (by omega) (by omega))
        have e1 : IntKind.u64.wrap (j : Int) = j := u64_id _ (by omega) (by omega)
        have e0 : IntKind.i64.wrap (-m) = j := by rw [IntKind.wrap_i64]; omega
        go_wp2_with (go_at_call 222; refine HC.out.mono ?_; rintro e w1 ⟨rfl, g, nd', r, d1, d2, -, -, -, d3⟩)
        exact bodyPost_end (results_none rfl _ _ _) rfl ⟨rfl, ⟨g, nd', _, d1, d2⟩, A3.out.trans d3⟩
  · subst hk
    go_wp2
    exact bodyPost_end (results_none rfl _ _ _) rfl ⟨rfl, ⟨f, nd, dp, H.out, HG.out⟩, Kept.refl _ _⟩
  · go_wp2
    go_loopg [1] k.toNat (fun gk v wr => ∃ (m : Int) (f : Nat → Int) (nd : Nat) (dp : Int), v = .int .i64 m ∧ gk = m.toNat ∧ 0 < m ∧ m ≤ k ∧ DecAt wr b f nd dp ∧ DGood f nd ∧ Kept b w wr)
    case atStart => exact ⟨k, f, nd, dp, rfl, rfl, hk, Int.le_refl _, H.out, HG.out, Kept.refl _ _⟩
    case round =>
      clear c1 h1 g0 hk
      obtain ⟨m, f, nd, dp, rfl, hgk, hm, hkm, hd, hG, hK⟩ := hrel
      have A1 := Lib.hid hd
      have A2 := Lib.hid hG
      have A3 := Lib.hid hK
      clear hd hG hK
      by_cases h60 : 60 < m
      · have HC := Lib.hid (lsh_any b f nd dp 60 wr A1.out (HT.out.kept A3.out) A2.out (by decide) (by decide))
        go_wp2_with (go_at_call 221; refine HC.out.mono ?_; rintro e w1 ⟨rfl, g, nd', r, d1, d2, -, -, d3⟩)
        go_roundg (m - 60).toNat
        case measure => omega
        case rel => exact ⟨m - 60, g, nd', _, rfl, rfl, by omega, by omega, d1, d2, A3.out.trans d3⟩
      · obtain ⟨j, rfl⟩ : ∃ j : Nat, m = (j : Int) := ⟨m.toNat, by omega⟩
        have HC := Lib.hid (lsh_any b f nd dp j wr A1.out (HT.out.kept A3.out) A2.out (by omega) (by omega))
        have e1 : IntKind.u64.wrap (j : Int) = j := u64_id _ (by omega) (by omega)
        go_wp2_with (go_at_call 221; refine HC.out.mono ?_; rintro e w1 ⟨rfl, g, nd', r, d1, d2, -, -, d3⟩)
        exact bodyPost_end (results_none rfl _ _ _) rfl ⟨rfl, ⟨g, nd', _, d1, d2⟩, A3.out.trans d3⟩
end Go.Proofs.YtaecbclonmhbcaaGreatDoor

namespace Go.Proofs.YtaecbclonmhbcaaGreatDoor
open Go.RowKit
def SomeB (w : World) (e : Ending) (w' : World) : Prop := ∃ (y : Bool) (n : Nat), e = .returned (.bool y) ∧ w' = w.drewN n
def SomeU (w : World) (e : Ending) (w' : World) : Prop := ∃ (y : Int) (n : Nat), e = .returned (.int .u64 y) ∧ w' = w.drewN n
set_option maxHeartbeats 4000000 in
set_option maxRecDepth 100000 in
theorem round_up_any (b : Nat) (f : Nat → Int) (nd : Nat) (dp x : Int) (w : World) (h : DecAt w b f nd dp) (hG : DGood f nd) :
    Calls Tryz.prog 223 #[.pointer (some ⟨b, 0, none⟩), .int .i64 x] w (SomeB w) := by
  have c1 := h.nd
  have h8 := hG.most
  obtain ⟨tr, c3⟩ := h.tr
  rcases Int.lt_or_le x 0 with hx | hx
  · clear h hG
    go_enter Tryz.func223, Tryz.ntmps223
    go_wp2
    all_goals (go_ret; exact ⟨_, 0, rfl, rfl⟩)
  have g1 : ¬ x < 0 := by omega
  rcases Int.lt_or_le x nd with hn | hn
  case inr =>
    clear h hG
    go_enter Tryz.func223, Tryz.ntmps223
    go_wp2
    all_goals (go_ret; exact ⟨_, 0, rfl, rfl⟩)
  case inl =>
    obtain ⟨j, rfl⟩ := Int.eq_ofNat_of_zero_le hx
    have g2 : ¬ (nd : Int) ≤ j := by omega
    have c4 := h.dig j (by omega)
    have d4 := hG.dig j (by omega)
    cases j with
    | zero =>
      clear h hG
      go_enter Tryz.func223, Tryz.ntmps223
      go_wp2
      all_goals (go_ret; exact ⟨_, 0, rfl, rfl⟩)
    | succ j =>
      have c5 := h.dig j (by omega)
      have d5 := hG.dig j (by omega)
      have e1 : ((j + 1 : Nat) : Int) - 1 = j := by omega
      have e2 : IntKind.u8.wrap (f j - 48) = f j - 48 := by rw [IntKind.wrap_u8]; omega
      clear h hG
      go_enter Tryz.func223, Tryz.ntmps223
      go_wp2
      all_goals (go_ret; exact ⟨_, 0, rfl, rfl⟩)
set_option maxHeartbeats 4000000 in
set_option maxRecDepth 100000 in
theorem rounded_any (b : Nat) (w : World) (h : DecSome w b) :
    Calls Tryz.prog 207 #[.pointer (some ⟨b, 0, none⟩)] w (SomeU w) := by
  obtain ⟨f, nd, dp, hd, hG⟩ := h
  have H := Lib.hid hd
  have HG := Lib.hid hG
  have c1 := hd.nd
  have c2 := hd.dp
  have h8 := hG.most
  clear hd hG
  go_enter Tryz.func207, Tryz.ntmps207
  by_cases h20 : 20 < dp
  · go_wp2
    all_goals (go_ret; exact ⟨_, 0, rfl, rfl⟩)
  · go_upto_block 0 with fail
    go_cut [3, 4] from 10 to 36 (fun a3 a4 wx => ∃ (i : Nat) (n : Int), a3 = .int .i64 i ∧ a4 = .int .u64 n ∧ w = wx)
    case first =>
      go_wp2
      go_loopg [3, 4] nd (fun gk v3 v4 wr => ∃ (i : Nat) (n : Int), gk + i = nd ∧ v3 = .int .i64 i ∧ v4 = .int .u64 n ∧ w = wr)
      case atStart => exact ⟨0, 0, rfl, rfl, rfl, rfl⟩
      case round =>
        obtain ⟨i, n, hgk, rfl, rfl, rfl⟩ := hrel
        by_cases hi1 : (i : Int) < dp
        · by_cases hi2 : i < nd
          · have c3 := H.out.dig i (by omega)
            go_wp2
            go_roundg (nd - (i + 1))
            case measure => omega
            case rel => exact ⟨i + 1, _, by omega, by go_num, rfl, rfl⟩
          · go_wp2
            go_meet
            exact ⟨i, n, rfl, rfl, rfl⟩
        · go_wp2
          go_meet
          exact ⟨i, n, rfl, rfl, rfl⟩
    case rest =>
      obtain ⟨i, n, rfl, rfl, rfl⟩ := hcut
      have HR := Lib.hid (round_up_any b f nd dp dp w H.out HG.out)
      go_wp2
      go_loopg [3, 4] (dp - i).toNat (fun gk v3 v4 wr => ∃ (i : Nat) (n : Int), gk = (dp - i).toNat ∧ v3 = .int .i64 i ∧ v4 = .int .u64 n ∧ w = wr)
      case atStart => exact ⟨i, n, rfl, rfl, rfl, rfl⟩
      case round =>
        obtain ⟨i, n, hgk, rfl, rfl, rfl⟩ := hrel
        by_cases hi1 : (i : Int) < dp
        · go_wp2
          go_roundg (dp - (i + 1)).toNat
          case measure => omega
          case rel => exact ⟨i + 1, _, by omega, by go_num, rfl, rfl⟩
        · go_wp2_with (go_at_call 223; refine HR.out.mono ?_; rintro e w1 ⟨y, m, rfl, rfl⟩; cases y)
          all_goals (go_ret; exact ⟨_, _, rfl, rfl⟩)
end Go.Proofs.YtaecbclonmhbcaaGreatDoor

namespace Go.Proofs.YtaecbclonmhbcaaGreatDoor
open Go.Shelf
def sh_lays129_ren : Go.Shelf.Ren := ⟨fun | 129 => 198 | n => n, fun | 53 => 49 | 3 => 3 | 4 => 4 | 46 => 105 | 5 => 5 | 9 => 9 | n => n, fun | n => n⟩
theorem sh_lays129 : Go.Proofs.Lays.n129 Tryz.prog sh_lays129_ren := {
  mixed := by kernel_rfl
  f129 := Tryz.func198.trans (congrArg some (by kernel_rfl))
  t3 := Tryz.underlying3
  a3 := Tryz.isAgg3
  z3 := Tryz.sizeOf3
  v3 := Tryz.zeroValue3
  t4 := Tryz.underlying4
  a4 := Tryz.isAgg4
  z4 := Tryz.sizeOf4
  v4 := Tryz.zeroValue4
  t5 := Tryz.underlying5
  a5 := Tryz.isAgg5
  z5 := Tryz.sizeOf5
  v5 := Tryz.zeroValue5
  t9 := Tryz.underlying9
  a9 := Tryz.isAgg9
  z9 := Tryz.sizeOf9
  v9 := Tryz.zeroValue9
  t46 := Tryz.underlying105
  a46 := Tryz.isAgg105
  z46 := Tryz.sizeOf105
  v46 := Tryz.zeroValue105
  t53 := Tryz.underlying49
  a53 := Tryz.isAgg49
  z53 := Tryz.sizeOf49
  v53 := Tryz.zeroValue49 }
theorem sh_bits_Len64 (x : Int) (w : World) (h0 : 0 ≤ x) (h1 : x ≤ 18446744073709551615) :
    Calls Tryz.prog 198 #[.int .u64 x] w fun e w' => e = .returned (.int .i64 (Lib.bitLen x.toNat)) ∧ w' = w := Any.bits_Len64 sh_lays129 x w h0 h1
def sh_lays264_ren : Go.Shelf.Ren := ⟨fun | 264 => 220 | n => n, fun | 53 => 49 | 46 => 105 | n => n, fun | n => n⟩
theorem sh_lays264 : Go.Proofs.Lays.n264 Tryz.prog sh_lays264_ren := {
  mixed := by kernel_rfl
  f264 := Tryz.func220.trans (congrArg some (by kernel_rfl))
  t46 := Tryz.underlying105
  a46 := Tryz.isAgg105
  z46 := Tryz.sizeOf105
  v46 := Tryz.zeroValue105
  t53 := Tryz.underlying49
  a53 := Tryz.isAgg49
  z53 := Tryz.sizeOf49
  v53 := Tryz.zeroValue49 }
open Go.RowKit Go.Lib in
theorem sh_bits_Mul64 (x y : Nat) (hx : x < 18446744073709551616) (hy : y < 18446744073709551616) (w : World) :
    Calls Tryz.prog 220 #[.int .u64 x, .int .u64 y] w fun e w' => e = .returned (.tuple #[.int .u64 ((x * y / 18446744073709551616 : Nat) : Int), .int .u64 ((x * y % 18446744073709551616 : Nat) : Int)]) ∧ w' = w := Any.bits_Mul64 sh_lays264 x y hx hy w
end Go.Proofs.YtaecbclonmhbcaaGreatDoor

namespace Go.Proofs.YtaecbclonmhbcaaGreatDoor
open Go.RowKit
theorem i64_and63 (x : Int) (h0 : 0 ≤ x) (h1 : x < 64) : bits .and .i64 x 63 = x := by
  rw [show (63 : Int) = 2 ^ 6 - 1 from by decide, bits_mask .i64 63 (by decide) (fun n h0 h1 => by rw [IntKind.wrap_i64]; omega) 6 (by decide) x h0 (by omega)]
  omega
def b2 (b : Bool) : Int := if b then 1 else 0
theorem b2_range (b : Bool) : 0 ≤ b2 b ∧ b2 b ≤ 1 := by cases b <;> decide
set_option maxHeartbeats 1000000 in
theorem bool2_any (b : Bool) (w : World) : Calls Tryz.prog 178 #[.bool b] w fun e w' => e = .returned (.int .u64 (b2 b)) ∧ w = w' := by
  cases b
  · go_enter Tryz.func178, Tryz.ntmps178
    go_wp2
    go_ret
    exact ⟨rfl, rfl⟩
  · go_enter Tryz.func178, Tryz.ntmps178
    go_wp2
    go_ret
    exact ⟨rfl, rfl⟩
def uscF (H M M2 s : Nat) : Int :=
  if IntKind.u64.wrap ((H : Int) / 2 ^ s * 2 ^ s) != H then bits .or .u64 ((H : Int) / 2 ^ s) 1
  else bits .or .u64 (IntKind.u64.wrap ((H : Int) - b2 (decide (M < M2))) / 2 ^ s) (b2 (decide (1 < IntKind.u64.wrap ((M : Int) - M2))))
def uscaleF (x hi lo s : Nat) : Int := uscF (x * hi / 18446744073709551616) (x * hi % 18446744073709551616) (x * lo / 18446744073709551616) s
set_option maxHeartbeats 2000000 in
set_option maxRecDepth 100000 in
theorem uscale_any (x hi lo : Nat) (s : Nat) (hx : x < 18446744073709551616) (hh : hi < 18446744073709551616) (hl : lo < 18446744073709551616) (hs : s < 64) (w : World) (g : Nat)
    (c0 : w.cell? ⟨g, 0, none⟩ = some (.int .u64 hi)) (c1 : w.cell? ⟨g, 1, none⟩ = some (.int .u64 lo)) (c2 : w.cell? ⟨g, 2, none⟩ = some (.int .i64 s)) :
    Calls Tryz.prog 201 #[.int .u64 x, .pointer (some ⟨g, 0, none⟩)] w fun e w' => e = .returned (.int .u64 (uscaleF x hi lo s)) ∧ ∃ n, w' = w.drewN n := by
  have h63 := i64_and63 s (by omega) (by omega)
  unfold uscaleF
  obtain ⟨H, hH⟩ : ∃ H, H = x * hi / 18446744073709551616 := ⟨_, rfl⟩
  obtain ⟨M, hM⟩ : ∃ M, M = x * hi % 18446744073709551616 := ⟨_, rfl⟩
  obtain ⟨M2, hM2⟩ : ∃ M, M = x * lo / 18446744073709551616 := ⟨_, rfl⟩
  obtain ⟨M3, hM3⟩ : ∃ M, M = x * lo % 18446744073709551616 := ⟨_, rfl⟩
  have C1 := sh_bits_Mul64 x hi hx hh w
  have C2 := sh_bits_Mul64 x lo hx hl w
  rw [← hH, ← hM] at C1
  rw [← hM2, ← hM3] at C2
  rw [← hH, ← hM, ← hM2]
  have HC1 := Lib.hid (C1.mono fun e w' (h : _ ∧ _) => (⟨h.1, h.2.symm⟩ : _ ∧ w = w'))
  have HC2 := Lib.hid (C2.mono fun e w' (h : _ ∧ _) => (⟨h.1, h.2.symm⟩ : _ ∧ w = w'))
  have hs0 : (0 : Int) ≤ (s : Int) := by omega
  have hs1 : (s : Int) < 64 := by omega
  clear C1 C2 hH hM hM2 hM3 hx hh hl hs
  cases ht : IntKind.u64.wrap ((H : Int) / 2 ^ s * 2 ^ s) != H with
  | true =>
    have hF : uscF H M M2 s = bits .or .u64 ((H : Int) / 2 ^ s) 1 := by unfold uscF; rw [ht]; rfl
    rw [hF]
    clear hF
    go_enter Tryz.func201, Tryz.ntmps201
    go_wp2_with (go_at_call 220; refine HC1.out.mono ?_; rintro e w1 ⟨rfl, rfl⟩)
    go_ret
    exact ⟨rfl, 0, rfl⟩
  | false =>
    have hF : uscF H M M2 s = bits .or .u64 (IntKind.u64.wrap ((H : Int) - b2 (decide (M < M2))) / 2 ^ s) (b2 (decide (1 < IntKind.u64.wrap ((M : Int) - M2)))) := by unfold uscF; rw [ht]; rfl
    rw [hF]
    clear hF
    obtain ⟨D, hD⟩ : ∃ D, D = b2 (decide (M < M2)) := ⟨_, rfl⟩
    have CB := fun w => bool2_any (decide (M < M2)) w
    rw [← hD] at CB ⊢
    have HB := Lib.hid CB
    clear CB hD
    go_enter Tryz.func201, Tryz.ntmps201
    go_wp2_with (first
      | (go_at_call 220; with_reducible refine HC1.out.mono ?_; rintro e w1 ⟨rfl, rfl⟩)
      | (go_at_call 220; refine HC2.out.mono ?_; rintro e w1 ⟨rfl, rfl⟩)
      | (go_at_call 178; refine (HB.out _).mono ?_; rintro e w1 ⟨rfl, rfl⟩))
    go_quiet ((go_at_call 178; exact Calls.quiet_of_same ((bool2_any _ _).mono fun e w' h => ⟨h.1, h.2.symm⟩)))
    go_wp2
    go_ret
    exact ⟨rfl, _, rfl⟩
set_option maxHeartbeats 1000000 in
theorem l2p_any (p : Int) (w : World) (h0 : -100000 ≤ p) (h1 : p ≤ 100000) : Calls Tryz.prog 199 #[.int .i64 p] w fun e w' => e = .returned (.int .i64 (p * 108853 / 32768)) ∧ w = w' := by
  go_enter Tryz.func199, Tryz.ntmps199
  go_wp2
  go_ret
  exact ⟨rfl, rfl⟩
def unminF (x : Int) : Int := IntKind.u64.wrap (IntKind.u64.wrap (x * 4) - 2)
set_option maxHeartbeats 1000000 in
theorem unmin_any (w : World) (x : Int) : Calls Tryz.prog 203 #[.int .u64 x] w fun e w' => e = .returned (.int .u64 (unminF x)) ∧ w = w' := by
  go_enter Tryz.func203, Tryz.ntmps203
  go_wp2
  go_ret
  exact ⟨rfl, rfl⟩
def roundF (x : Int) : Int := IntKind.u64.wrap (IntKind.u64.wrap (x + 1) + bits BinOp.and IntKind.u64 (x / 4) 1) / 4
set_option maxHeartbeats 1000000 in
theorem round_any (w : World) (x : Int) : Calls Tryz.prog 205 #[.int .u64 x] w fun e w' => e = .returned (.int .u64 (roundF x)) ∧ w = w' := by
  go_enter Tryz.func205, Tryz.ntmps205
  go_wp2
  go_ret
  exact ⟨rfl, rfl⟩
theorem frombits_run (m : Int) (w : World) : (callFunc 179 #[.int .u64 m]).run Tryz.prog w = .ok (.value (.float .f64 m.toNat)) w := by
  rw [run_callFunc_extern Tryz.func179 (by kernel_rfl) (by kernel_rfl) (by kernel_rfl) (e := Extern.MathFloatBits.float64frombits) (by kernel_rfl)]
  rfl
def packF (m e : Int) : Int × Bool :=
  if bits .and .u64 m 4503599627370496 == 0 then (m, false)
  else if 972 ≤ e then (bits .or .u64 (bits .and .u64 m 9223372036854775808) 9218868437227405312, true)
  else (bits .or .u64 (bits .andNot .u64 m 4503599627370496) (IntKind.u64.wrap (IntKind.u64.wrap (wrap64 (1075 + e)) * 4503599627370496)), false)
def rangeV (b : Bool) : Value := if b then .iface 170 (.int .i64 1) else .nilIface
set_option maxHeartbeats 1000000 in
set_option maxRecDepth 100000 in
theorem pack64_any (w : World) (m e : Int) : Calls Tryz.prog 208 #[.int .u64 m, .int .i64 e] w fun e' w' => e' = .returned (.tuple #[.float .f64 (packF m e).1.toNat, rangeV (packF m e).2]) ∧ w = w' := by
  have fb := frombits_run
  cases h0 : bits .and .u64 m 4503599627370496 == 0 with
  | true =>
    have hF : packF m e = (m, false) := by unfold packF; rw [h0]; rfl
    rw [hF]
    clear hF
    go_enter Tryz.func208, Tryz.ntmps208
    go_wp2
    go_ret2
    exact ⟨rfl, rfl⟩
  | false =>
    by_cases h1 : 972 ≤ e
    · have hF : packF m e = (bits .or .u64 (bits .and .u64 m 9223372036854775808) 9218868437227405312, true) := by unfold packF; rw [h0, if_neg (by decide), if_pos h1]
      rw [hF]
      clear hF
      go_enter Tryz.func208, Tryz.ntmps208
      go_wp2
      go_ret2
      exact ⟨rfl, rfl⟩
    · have hF : packF m e = (bits .or .u64 (bits .andNot .u64 m 4503599627370496) (IntKind.u64.wrap (IntKind.u64.wrap (wrap64 (1075 + e)) * 4503599627370496)), false) := by unfold packF; rw [h0, if_neg (by decide), if_neg h1]
      rw [hF]
      clear hF
      go_enter Tryz.func208, Tryz.ntmps208
      go_wp2
      go_ret2
      exact ⟨rfl, rfl⟩
end Go.Proofs.YtaecbclonmhbcaaGreatDoor

namespace Go.Proofs.YtaecbclonmhbcaaGreatDoor
open Go.RowKit
def PreAt (w : World) (g hi lo : Nat) (s : Int) (w' : World) : Prop := w'.heap[g]? = some (.cells #[.int .u64 hi, .int .u64 lo, .int .i64 s] 228 (0, 0)) ∧ Kept g w w'
set_option maxHeartbeats 1000000 in
set_option maxRecDepth 100000 in
theorem prescale_any (w : World) (g : Nat) (e p lp : Int) (hp0 : -348 ≤ p) (hp1 : p ≤ 347) (v0 v1 v2 : Value) (hi lo : Nat) (hg : w.heap[g]? = some (.cells #[v0, v1, v2] 228 (0, 0)))
    (k0 : w.cell? ⟨12, (p + 348).toNat * 2, none⟩ = some (.int .u64 hi)) (k1 : w.cell? ⟨12, (p + 348).toNat * 2 + 1, none⟩ = some (.int .u64 lo)) (_hne : g ≠ 12) :
    Calls Tryz.prog 200 #[.pointer (some ⟨g, 0, none⟩), .int .i64 e, .int .i64 p, .int .i64 lp] w fun e' w' => e' = .returned (.tuple #[]) ∧ PreAt w g hi lo (wrap64 (-wrap64 (wrap64 (e + lp) + 3))) w' := by
  have c0 := cell_of_heap hg 0 rfl
  have c1 := cell_of_heap hg 1 rfl
  have c2 := cell_of_heap hg 2 rfl
  have f0 := free_of_heap hg 0
  have f1 := free_of_heap hg 1
  have f2 := free_of_heap hg 2
  have HG := Lib.hid hg
  clear hg
  go_enter Tryz.func200, Tryz.ntmps200
  go_wp2
  go_end0
  exact ⟨rfl, heap_setCell (heap_setCell (heap_setCell HG.out 0 _) 1 _) 2 _, (((Kept.refl g w).setCell 0 _).setCell 1 _).setCell 2 _⟩
set_option maxHeartbeats 1000000 in
theorem bool2i_any (b : Bool) (w : World) : Calls Tryz.prog 202 #[.bool b] w fun e w' => e = .returned (.int .i64 (b2 b)) ∧ w = w' := by
  cases b
  · go_enter Tryz.func202, Tryz.ntmps202
    go_wp2
    go_ret
    exact ⟨rfl, rfl⟩
  · go_enter Tryz.func202, Tryz.ntmps202
    go_wp2
    go_ret
    exact ⟨rfl, rfl⟩
theorem grown_new {w w1 : World} {o : Obj} (h : Kept w.heap.size (w.alloc o) w1) : w.grownBy w1 none :=
  ⟨h.os, h.tape, h.output, Nat.le_trans (by simp) h.size, fun k hk _ => (h.block k (by simp; omega) (by omega)).trans (heap_alloc_lt hk)⟩
theorem _root_.Go.World.grownBy.drewN' {u v : World} {r : Option Nat} (h : u.grownBy v r) (n : Nat) : u.grownBy (v.drewN n) r := ⟨h.os, h.tape, h.output, h.size, h.block⟩
def pfK (U : Int) : Int := b2 (decide (unminF 9007199254740992 ≤ U))
def pfU (U : Int) : Int := bits .or .u64 (U / 2 ^ (pfK U).toNat) (bits .and .u64 U 1)
def pfEnd (E U sign : Int) : Int × Bool := packF (bits .or .u64 sign (roundF (pfU U))) (-(E - pfK U))
def pfE (d : Nat) (p : Int) : Int := min 1074 (53 - (Lib.bitLen d : Int) - p * 108853 / 32768)
def pfS (d : Nat) (p : Int) : Nat := (61 - pfE d p - Lib.bitLen d - p * 108853 / 32768).toNat
def pf64F (d : Nat) (p sign : Int) (hi lo : Nat) : Int × Bool :=
  if 64 ≤ pfS d p then (bits .or .u64 sign 0, false)
  else pfEnd (pfE d p) (uscaleF (d * 2 ^ (64 - Lib.bitLen d) % 18446744073709551616) hi lo (pfS d p)) sign
theorem bitLenAux_le : ∀ f x, Lib.bitLenAux f x ≤ f
  | 0, _ => Nat.le_refl _
  | f + 1, x => by
    simp only [Lib.bitLenAux]
    split
    · omega
    · have := bitLenAux_le f (x / 2); omega
theorem bitLen_le (x : Nat) : Lib.bitLen x ≤ 64 := bitLenAux_le 64 x
theorem bitLen_pos (d : Nat) (h : d ≠ 0) (hd : d < 18446744073709551616) : 1 ≤ Lib.bitLen d := by
  rw [Lib.bitLen_half d h (by omega)]; omega
set_option maxHeartbeats 2000000 in
set_option maxRecDepth 100000 in
theorem parseFloat64_any (w : World) (d : Nat) (p sign : Int) (hp0 : -348 ≤ p) (hp1 : p ≤ 347) (hd0 : d ≠ 0) (hd : d < 18446744073709551616) (hi lo : Nat) (hhi : hi < 18446744073709551616) (hlo : lo < 18446744073709551616)
    (k0 : w.cell? ⟨12, (p + 348).toNat * 2, none⟩ = some (.int .u64 hi)) (k1 : w.cell? ⟨12, (p + 348).toNat * 2 + 1, none⟩ = some (.int .u64 lo)) :
    Calls Tryz.prog 181 #[.int .u64 d, .int .i64 p, .int .u64 sign] w fun e' w' => e' = .returned (.tuple #[.float .f64 (pf64F d p sign hi lo).1.toNat, rangeV (pf64F d p sign hi lo).2]) ∧ w.grownBy w' none := by
  have hF : pf64F d p sign hi lo = if 64 ≤ pfS d p then (bits .or .u64 sign 0, false) else pfEnd (pfE d p) (uscaleF (d * 2 ^ (64 - Lib.bitLen d) % 18446744073709551616) hi lo (pfS d p)) sign := rfl
  have b1 := bitLen_pos d hd0 hd
  have b2' := bitLen_le d
  have hE0 : pfE d p = min 1074 (53 - (Lib.bitLen d : Int) - p * 108853 / 32768) := rfl
  have hS0 : pfS d p = (61 - pfE d p - Lib.bitLen d - p * 108853 / 32768).toNat := rfl
  have l1 : -1200 ≤ p * 108853 / 32768 := by omega
  have l2 : p * 108853 / 32768 ≤ 1200 := by omega
  have CB := sh_bits_Len64 d w (by omega) (by omega)
  rw [Int.toNat_natCast] at CB
  have CL := l2p_any p w (by omega) (by omega)
  generalize pfE d p = E at hF hE0 hS0
  generalize pfS d p = S at hF hS0
  generalize Lib.bitLen d = B at hF hE0 hS0 CB b1 b2'
  generalize p * 108853 / 32768 = LP at hE0 hS0 CL l1 l2
  have HCB := Lib.hid (CB.mono fun e w' (h : _ ∧ _) => (⟨h.1, h.2.symm⟩ : _ ∧ w = w'))
  have HCL := Lib.hid CL
  have hs12 : 12 < w.heap.size := World.block_lt_of_cell? w _ k0
  have e1 : E ≤ 1074 := by omega
  have e2 : E ≤ 53 - B - LP := by omega
  have e3 : -2000 ≤ E := by omega
  have hS1 : (S : Int) = 61 - E - B - LP := by omega
  have HS : RowKit.Hid (wrap64 (-wrap64 (wrap64 (E - (64 - (B : Int)) + LP) + 3)) = (S : Int)) := by show _ = _; unfold wrap64; omega
  have hE := hE0.symm
  obtain ⟨X, hX⟩ : ∃ X : Nat, X = d * 2 ^ (64 - B) % 18446744073709551616 := ⟨_, rfl⟩
  have hXw : IntKind.u64.wrap ((d : Int) * 2 ^ (64 - B)) = (X : Int) := by
    rw [hX, IntKind.wrap_u64, Int.natCast_emod, Int.natCast_mul, Int.natCast_pow]; rfl
  have hXl : X < 18446744073709551616 := by rw [hX]; exact Nat.mod_lt _ (by decide)
  rw [← hX] at hF
  rw [hF]
  have HXL := Lib.hid hXl
  have HH := Lib.hid hhi
  have HL := Lib.hid hlo
  clear CB CL hd hd0 hS0 hS1 hE0 hF hX hXl hhi hlo
  by_cases h64 : 64 ≤ S
  · rw [if_pos h64]
    have h64' : 64 ≤ (S : Int) := by omega
    have fb := frombits_run
    clear hXw
    go_enter Tryz.func181, Tryz.ntmps181
    go_wp2_with (first
      | (go_at_call 198; refine HCB.out.mono ?_; rintro e w1 ⟨rfl, rfl⟩)
      | (go_at_call 199; refine HCL.out.mono ?_; rintro e w1 ⟨rfl, rfl⟩)
      | (go_at_call 200; refine (prescale_any _ w.heap.size _ p LP hp0 hp1 _ _ _ hi lo (heap_alloc_new w _) ((World.grownBy_alloc w _ none).cell k0 (by simp)) ((World.grownBy_alloc w _ none).cell k1 (by simp)) (by omega)).mono ?_; rintro e w1 ⟨rfl, hg1, hk1⟩; rw [HS.out] at hg1; have z2 := cell_of_heap hg1 2 rfl; have HK := Lib.hid hk1; clear hg1 hk1))
    go_ret2
    exact ⟨rfl, grown_new HK.out⟩
  · rw [if_neg h64]
    have h64' : ¬ 64 ≤ (S : Int) := by omega
    have HLT := Lib.hid (show S < 64 by omega)
    obtain ⟨U, hU⟩ : ∃ U, U = uscaleF X hi lo S := ⟨_, rfl⟩
    obtain ⟨K, hK⟩ : ∃ K, K = pfK U := ⟨_, rfl⟩
    have hKr := b2_range (decide (unminF 9007199254740992 ≤ U))
    have hend : pfEnd E U sign = packF (bits .or .u64 sign (roundF (bits .or .u64 (U / 2 ^ K.toNat) (bits .and .u64 U 1)))) (-(E - K)) := by rw [hK]; rfl
    rw [← hU, hend]
    have CK := fun w => bool2i_any (decide (unminF 9007199254740992 ≤ U)) w
    rw [show b2 (decide (unminF 9007199254740992 ≤ U)) = K from hK.symm] at hKr CK
    obtain ⟨hK0, hK1⟩ := hKr
    have HCK := Lib.hid CK
    have HU := Lib.hid hU
    clear hend hU hK CK
    generalize hN : unminF 9007199254740992 = N at HCK
    have HN := Lib.hid hN
    clear hN
    go_enter Tryz.func181, Tryz.ntmps181
    go_wp2_with (first
      | (go_at_call 198; refine HCB.out.mono ?_; rintro e w1 ⟨rfl, rfl⟩)
      | (go_at_call 199; refine HCL.out.mono ?_; rintro e w1 ⟨rfl, rfl⟩)
      | (go_at_call 200; refine (prescale_any _ w.heap.size _ p LP hp0 hp1 _ _ _ hi lo (heap_alloc_new w _) ((World.grownBy_alloc w _ none).cell k0 (by simp)) ((World.grownBy_alloc w _ none).cell k1 (by simp)) (by omega)).mono ?_; rintro e w1 ⟨rfl, hg1, hk1⟩; rw [HS.out] at hg1; have z0 := cell_of_heap hg1 0 rfl; have z1 := cell_of_heap hg1 1 rfl; have z2 := cell_of_heap hg1 2 rfl; have HK := Lib.hid hk1; clear hg1 hk1)
      | (go_at_call 201; refine (uscale_any X hi lo S HXL.out HH.out HL.out HLT.out _ w.heap.size z0 z1 z2).mono ?_; rintro e w2 ⟨he, nq, rfl⟩; rw [← HU.out] at he; subst he)
      | (go_at_call 203; refine (unmin_any _ _).mono ?_; rintro e w3 ⟨he, rfl⟩; rw [HN.out] at he; subst he)
      | (go_at_call 202; refine (HCK.out _).mono ?_; rintro e w3 ⟨rfl, rfl⟩)
      | (go_at_call 205; refine (round_any _ _).mono ?_; rintro e w3 ⟨rfl, rfl⟩)
      | (go_at_call 208; refine (pack64_any _ _ _).mono ?_; rintro e w3 ⟨rfl, rfl⟩))
    go_ret2
    exact ⟨rfl, (grown_new HK.out).drewN' _⟩
end Go.Proofs.YtaecbclonmhbcaaGreatDoor

namespace Go.Proofs.YtaecbclonmhbcaaGreatDoor
open Go.RowKit
theorem frombits32_run (m : Int) (w : World) : (callFunc 173 #[.int .u32 m]).run Tryz.prog w = .ok (.value (.float .f32 m.toNat)) w := by
  rw [run_callFunc_extern Tryz.func173 (by kernel_rfl) (by kernel_rfl) (by kernel_rfl) (e := Extern.MathFloatBits.float32frombits) (by kernel_rfl)]
  rfl
def pack32F (m e : Int) : Int × Bool :=
  if bits .and .u32 m 8388608 == 0 then (m, false)
  else if 105 ≤ e then (bits .or .u32 (bits .and .u32 m 2147483648) 2139095040, true)
  else (bits .or .u32 (bits .andNot .u32 m 8388608) (IntKind.u32.wrap (IntKind.u32.wrap (wrap64 (150 + e)) * 8388608)), false)
set_option maxHeartbeats 1000000 in
set_option maxRecDepth 100000 in
theorem pack32_any (w : World) (m e : Int) : Calls Tryz.prog 204 #[.int .u32 m, .int .i64 e] w fun e' w' => e' = .returned (.tuple #[.float .f32 (pack32F m e).1.toNat, rangeV (pack32F m e).2]) ∧ w = w' := by
  have fb := frombits32_run
  cases h0 : bits .and .u32 m 8388608 == 0 with
  | true =>
    have hF : pack32F m e = (m, false) := by unfold pack32F; rw [h0]; rfl
    rw [hF]
    clear hF
    go_enter Tryz.func204, Tryz.ntmps204
    go_wp2
    go_ret2
    exact ⟨rfl, rfl⟩
  | false =>
    by_cases h1 : 105 ≤ e
    · have hF : pack32F m e = (bits .or .u32 (bits .and .u32 m 2147483648) 2139095040, true) := by unfold pack32F; rw [h0, if_neg (by decide), if_pos h1]
      rw [hF]
      clear hF
      go_enter Tryz.func204, Tryz.ntmps204
      go_wp2
      go_ret2
      exact ⟨rfl, rfl⟩
    · have hF : pack32F m e = (bits .or .u32 (bits .andNot .u32 m 8388608) (IntKind.u32.wrap (IntKind.u32.wrap (wrap64 (150 + e)) * 8388608)), false) := by unfold pack32F; rw [h0, if_neg (by decide), if_neg h1]
      rw [hF]
      clear hF
      go_enter Tryz.func204, Tryz.ntmps204
      go_wp2
      go_ret2
      exact ⟨rfl, rfl⟩
def pgK (U : Int) : Int := b2 (decide (unminF 16777216 ≤ U))
def pgU (U : Int) : Int := bits .or .u64 (U / 2 ^ (pgK U).toNat) (bits .and .u64 U 1)
def pgEnd (E U sign : Int) : Int × Bool := pack32F (bits .or .u32 sign (IntKind.u32.wrap (roundF (pgU U)))) (-(E - pgK U))
def pgE (d : Nat) (p : Int) : Int := min 149 (24 - (Lib.bitLen d : Int) - p * 108853 / 32768)
def pgS (d : Nat) (p : Int) : Nat := (61 - pgE d p - Lib.bitLen d - p * 108853 / 32768).toNat
def pf32F (d : Nat) (p sign : Int) (hi lo : Nat) : Int × Bool :=
  if 64 ≤ pgS d p then (bits .or .u32 sign 0, false)
  else pgEnd (pgE d p) (uscaleF (d * 2 ^ (64 - Lib.bitLen d) % 18446744073709551616) hi lo (pgS d p)) sign
set_option maxHeartbeats 2000000 in
set_option maxRecDepth 100000 in
theorem parseFloat32_any (w : World) (d : Nat) (p sign : Int) (hp0 : -348 ≤ p) (hp1 : p ≤ 347) (hd0 : d ≠ 0) (hd : d < 18446744073709551616) (hi lo : Nat) (hhi : hi < 18446744073709551616) (hlo : lo < 18446744073709551616)
    (k0 : w.cell? ⟨12, (p + 348).toNat * 2, none⟩ = some (.int .u64 hi)) (k1 : w.cell? ⟨12, (p + 348).toNat * 2 + 1, none⟩ = some (.int .u64 lo)) :
    Calls Tryz.prog 175 #[.int .u64 d, .int .i64 p, .int .u32 sign] w fun e' w' => e' = .returned (.tuple #[.float .f32 (pf32F d p sign hi lo).1.toNat, rangeV (pf32F d p sign hi lo).2]) ∧ w.grownBy w' none := by
  have hF : pf32F d p sign hi lo = if 64 ≤ pgS d p then (bits .or .u32 sign 0, false) else pgEnd (pgE d p) (uscaleF (d * 2 ^ (64 - Lib.bitLen d) % 18446744073709551616) hi lo (pgS d p)) sign := rfl
  have b1 := bitLen_pos d hd0 hd
  have b2' := bitLen_le d
  have hE0 : pgE d p = min 149 (24 - (Lib.bitLen d : Int) - p * 108853 / 32768) := rfl
  have hS0 : pgS d p = (61 - pgE d p - Lib.bitLen d - p * 108853 / 32768).toNat := rfl
  have l1 : -1200 ≤ p * 108853 / 32768 := by omega
  have l2 : p * 108853 / 32768 ≤ 1200 := by omega
  have CB := sh_bits_Len64 d w (by omega) (by omega)
  rw [Int.toNat_natCast] at CB
  have CL := l2p_any p w (by omega) (by omega)
  generalize pgE d p = E at hF hE0 hS0
  generalize pgS d p = S at hF hS0
  generalize Lib.bitLen d = B at hF hE0 hS0 CB b1 b2'
  generalize p * 108853 / 32768 = LP at hE0 hS0 CL l1 l2
  have HCB := Lib.hid (CB.mono fun e w' (h : _ ∧ _) => (⟨h.1, h.2.symm⟩ : _ ∧ w = w'))
  have HCL := Lib.hid CL
  have hs12 : 12 < w.heap.size := World.block_lt_of_cell? w _ k0
  have e1 : E ≤ 149 := by omega
  have e2 : E ≤ 24 - B - LP := by omega
  have e3 : -2000 ≤ E := by omega
  have hS1 : (S : Int) = 61 - E - B - LP := by omega
  have HS : RowKit.Hid (wrap64 (-wrap64 (wrap64 (E - (64 - (B : Int)) + LP) + 3)) = (S : Int)) := by show _ = _; unfold wrap64; omega
  have hE := hE0.symm
  obtain ⟨X, hX⟩ : ∃ X : Nat, X = d * 2 ^ (64 - B) % 18446744073709551616 := ⟨_, rfl⟩
  have hXw : IntKind.u64.wrap ((d : Int) * 2 ^ (64 - B)) = (X : Int) := by
    rw [hX, IntKind.wrap_u64, Int.natCast_emod, Int.natCast_mul, Int.natCast_pow]; rfl
  have hXl : X < 18446744073709551616 := by rw [hX]; exact Nat.mod_lt _ (by decide)
  rw [← hX] at hF
  rw [hF]
  have HXL := Lib.hid hXl
  have HH := Lib.hid hhi
  have HL := Lib.hid hlo
  clear CB CL hd hd0 hS0 hS1 hE0 hF hX hXl hhi hlo
  by_cases h64 : 64 ≤ S
  · rw [if_pos h64]
    have h64' : 64 ≤ (S : Int) := by omega
    have fb := frombits32_run
    clear hXw
    go_enter Tryz.func175, Tryz.ntmps175
    go_wp2_with (first
      | (go_at_call 198; refine HCB.out.mono ?_; rintro e w1 ⟨rfl, rfl⟩)
      | (go_at_call 199; refine HCL.out.mono ?_; rintro e w1 ⟨rfl, rfl⟩)
      | (go_at_call 200; refine (prescale_any _ w.heap.size _ p LP hp0 hp1 _ _ _ hi lo (heap_alloc_new w _) ((World.grownBy_alloc w _ none).cell k0 (by simp)) ((World.grownBy_alloc w _ none).cell k1 (by simp)) (by omega)).mono ?_; rintro e w1 ⟨rfl, hg1, hk1⟩; rw [HS.out] at hg1; have z2 := cell_of_heap hg1 2 rfl; have HK := Lib.hid hk1; clear hg1 hk1))
    go_ret2
    exact ⟨rfl, grown_new HK.out⟩
  · rw [if_neg h64]
    have h64' : ¬ 64 ≤ (S : Int) := by omega
    have HLT := Lib.hid (show S < 64 by omega)
    obtain ⟨U, hU⟩ : ∃ U, U = uscaleF X hi lo S := ⟨_, rfl⟩
    obtain ⟨K, hK⟩ : ∃ K, K = pgK U := ⟨_, rfl⟩
    have hKr := b2_range (decide (unminF 16777216 ≤ U))
    have hend : pgEnd E U sign = pack32F (bits .or .u32 sign (IntKind.u32.wrap (roundF (bits .or .u64 (U / 2 ^ K.toNat) (bits .and .u64 U 1))))) (-(E - K)) := by rw [hK]; rfl
    rw [← hU, hend]
    have CK := fun w => bool2i_any (decide (unminF 16777216 ≤ U)) w
    rw [show b2 (decide (unminF 16777216 ≤ U)) = K from hK.symm] at hKr CK
    obtain ⟨hK0, hK1⟩ := hKr
    have HCK := Lib.hid CK
    have HU := Lib.hid hU
    clear hend hU hK CK
    generalize hN : unminF 16777216 = N at HCK
    have HN := Lib.hid hN
    clear hN
    go_enter Tryz.func175, Tryz.ntmps175
    go_wp2_with (first
      | (go_at_call 198; refine HCB.out.mono ?_; rintro e w1 ⟨rfl, rfl⟩)
      | (go_at_call 199; refine HCL.out.mono ?_; rintro e w1 ⟨rfl, rfl⟩)
      | (go_at_call 200; refine (prescale_any _ w.heap.size _ p LP hp0 hp1 _ _ _ hi lo (heap_alloc_new w _) ((World.grownBy_alloc w _ none).cell k0 (by simp)) ((World.grownBy_alloc w _ none).cell k1 (by simp)) (by omega)).mono ?_; rintro e w1 ⟨rfl, hg1, hk1⟩; rw [HS.out] at hg1; have z0 := cell_of_heap hg1 0 rfl; have z1 := cell_of_heap hg1 1 rfl; have z2 := cell_of_heap hg1 2 rfl; have HK := Lib.hid hk1; clear hg1 hk1)
      | (go_at_call 201; refine (uscale_any X hi lo S HXL.out HH.out HL.out HLT.out _ w.heap.size z0 z1 z2).mono ?_; rintro e w2 ⟨he, nq, rfl⟩; rw [← HU.out] at he; subst he)
      | (go_at_call 203; refine (unmin_any _ _).mono ?_; rintro e w3 ⟨he, rfl⟩; rw [HN.out] at he; subst he)
      | (go_at_call 202; refine (HCK.out _).mono ?_; rintro e w3 ⟨rfl, rfl⟩)
      | (go_at_call 205; refine (round_any _ _).mono ?_; rintro e w3 ⟨rfl, rfl⟩)
      | (go_at_call 204; refine (pack32_any _ _ _).mono ?_; rintro e w3 ⟨rfl, rfl⟩))
    go_ret2
    exact ⟨rfl, (grown_new HK.out).drewN' _⟩
end Go.Proofs.YtaecbclonmhbcaaGreatDoor
