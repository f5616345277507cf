/- internal/strconv.prefixIsLessThan. internal/strconv.leftShift. internal/strconv.decimal's Shift. internal/strconv.decimal's RoundedInteger, shouldRoundUp. -/
import Derived.Test.YtaecbclonmhbcaaGreatDoorG15
set_option linter.unusedVariables false
set_option linter.unusedSimpArgs false
/- internal/strconv.prefixIsLessThan. -/
namespace Go.Proofs.YtaecbclonmhbcaaGreatDoor
open Go.RowKit

/-- The string spells the digits. -/
def Spells (s : ByteArray) (cut : List Nat) : Prop := s.size = cut.length ∧ ∀ i (h : i < s.size), (s[i].toNat : Int) = (cut.getD i 0 : Nat) + 48

theorem lessP_drop_end {ds cut : List Nat} {k : Nat} (h : cut.length ≤ k) : lessP (ds.drop k) (cut.drop k) = false := by
  rw [List.drop_eq_nil_of_le h]; cases ds.drop k <;> rfl
theorem drop_getD {l : List Nat} {k : Nat} (h : k < l.length) : l.drop k = l.getD k 0 :: l.drop (k + 1) := by
  rw [List.drop_eq_getElem_cons h]; simp [List.getD, h]
theorem lessP_drop_short {ds cut : List Nat} {k : Nat} (h : ds.length ≤ k) (h1 : k < cut.length) : lessP (ds.drop k) (cut.drop k) = true := by
  rw [List.drop_eq_nil_of_le h, drop_getD h1]; rfl
theorem lessP_drop_same {ds cut : List Nat} {k : Nat} (h : k < ds.length) (h1 : k < cut.length) (e : ds.getD k 0 = cut.getD k 0) : lessP (ds.drop k) (cut.drop k) = lessP (ds.drop (k + 1)) (cut.drop (k + 1)) := by
  rw [drop_getD h, drop_getD h1, lessP, if_pos e]
theorem lessP_drop_other {ds cut : List Nat} {k : Nat} (h : k < ds.length) (h1 : k < cut.length) (e : ds.getD k 0 ≠ cut.getD k 0) : lessP (ds.drop k) (cut.drop k) = decide (ds.getD k 0 < cut.getD k 0) := by
  rw [drop_getD h, drop_getD h1, lessP, if_neg e]

set_option maxHeartbeats 2000000 in
set_option maxRecDepth 100000 in
theorem prefix_any (b : Nat) (ds cut : List Nat) (nd cp : Nat) (s : ByteArray) (w : World) (hn : ds.length = nd) (h8 : nd ≤ 800) (hs : Spells s cut) (hs8 : s.size ≤ 800)
    (hc : ∀ i, i < nd → w.cell? ⟨b, i, none⟩ = some (.int .u8 ((ds.getD i 0 : Nat) + 48))) :
    Calls Tryz.prog 237 #[.slice (some ⟨b, 0, none⟩) nd cp, .string s] w fun e w' => e = .returned (.bool (lessP ds cut)) ∧ ∃ m, w' = w.drewN m := by
  have HN := Lib.hid hn
  have HS := Lib.hid hs
  have HC := Lib.hid hc
  clear hn hs hc
  go_enter Tryz.func237, Tryz.ntmps237
  go_wp2
  go_loopg [5] s.size (fun g v wr => ∃ k : Nat, g + k = s.size ∧ v = .int .i64 k ∧ lessP ds cut = lessP (ds.drop k) (cut.drop k) ∧ ∃ n, wr = w.drewN n)
  case atStart => exact ⟨0, rfl, rfl, rfl, 0, rfl⟩
  case round =>
    obtain ⟨k, hg, rfl, hl, n, rfl⟩ := hrel
    have HL := Lib.hid hl
    clear hl
    by_cases hks : k < s.size
    case neg =>
      have hks' : s.size ≤ k := by omega
      go_wp2
      go_ret
      have e := HL.out
      rw [lessP_drop_end (by rw [← HS.out.1]; exact hks')] at e
      rw [e]
      exact ⟨rfl, n, rfl⟩
    case pos =>
      by_cases hkn : k < nd
      case neg =>
        have hkn' : nd ≤ k := by omega
        go_wp2
        go_ret
        have e := HL.out
        rw [lessP_drop_short (by rw [HN.out]; exact hkn') (by rw [← HS.out.1]; exact hks)] at e
        rw [e]
        exact ⟨rfl, n, rfl⟩
      case pos =>
        have hkn' : ¬ nd ≤ k := by omega
        have c := HC.out k hkn
        obtain ⟨x, hx⟩ : ∃ x, ds.getD k 0 = x := ⟨_, rfl⟩
        obtain ⟨y, hy⟩ : ∃ y, (s[k].toNat : Int) = y := ⟨_, rfl⟩
        rw [hx] at c
        by_cases he : (x : Int) + 48 = y
        · have he' : (((x : Int) + 48) != y) = false := by simp [he]
          go_wp2
          go_quiet (fail)
          go_wp2
          go_roundg (s.size - (k + 1))
          case measure => omega
          case rel =>
            have e1 := HS.out.2 k hks
            rw [hy] at e1
            refine ⟨k + 1, by omega, by go_num, ?_, _, rfl⟩
            rw [HL.out]
            exact lessP_drop_same (by rw [HN.out]; exact hkn) (by rw [← HS.out.1]; exact hks) (by omega)
        · have he' : (((x : Int) + 48) != y) = true := bne_iff_ne.2 he
          go_wp2
          go_quiet (fail)
          go_wp2
          go_quiet (fail)
          go_wp2
          have e1 := HS.out.2 k hks
          rw [hy] at e1
          refine bodyPost_ret (v := .bool (decide ((x : Int) + 48 < y))) (by simp [results, Tryz.results237, go_sem]) rfl ⟨?_, _, by rw [World.drewN_drewN, World.drewN_drewN]⟩
          rw [HL.out, lessP_drop_other (by rw [HN.out]; exact hkn) (by rw [← HS.out.1]; exact hks) (by omega), hx]
          have e2 : decide ((x : Int) + 48 < y) = decide (x < cut.getD k 0) := decide_eq_decide.2 (by omega)
          rw [e2]
end Go.Proofs.YtaecbclonmhbcaaGreatDoor

/- internal/strconv.leftShift. -/
namespace Go.Proofs.YtaecbclonmhbcaaGreatDoor
open Go.RowKit

/-- The cheat sheet, in some block other than the decimal's. -/
structure CheatT (w : World) (b : Nat) : Prop where
  ne : 13 ≠ b
  at_ : ∃ g o cp, g ≠ b ∧ w.cell? ⟨13, 0, none⟩ = some (.slice (some ⟨g, o, none⟩) 61 cp) ∧ 61 ≤ cp ∧ ∀ k, 1 ≤ k → k ≤ 60 →
    ∃ (delta : Nat) (s : ByteArray) (cut : List Nat), w.cell? ⟨g, o + k * 2, none⟩ = some (.int .i64 delta) ∧ w.cell? ⟨g, o + k * 2 + 1, none⟩ = some (.string s) ∧ Spells s cut ∧ s.size ≤ 800 ∧ Cheat k delta cut

theorem lshC_step {p : Nat} {ds : List Nat} {i : Nat} (h : i < ds.length) : lshC p (ds.drop i) =
    (((lshC p (ds.drop (i + 1))).1 + ds.getD i 0 * p) / 10, (((lshC p (ds.drop (i + 1))).1 + ds.getD i 0 * p) % 10) :: (lshC p (ds.drop (i + 1))).2) := by
  rw [drop_getD h]; rfl
theorem DigL.drop {l : List Nat} (h : DigL l) (k : Nat) : DigL (l.drop k) := fun x hx => h x (List.mem_of_mem_drop hx)
theorem DigL.getD {l : List Nat} (h : DigL l) (k : Nat) : l.getD k 0 ≤ 9 := by
  by_cases hk : k < l.length
  · have : l.getD k 0 = l[k] := by simp [List.getD, hk]
    rw [this]; exact h _ (List.getElem_mem hk)
  · have : l.getD k 0 = 0 := by simp [List.getD, hk]
    omega
theorem getD_right {a c : List Nat} {q j : Nat} (h : a.length = q) (hj : q ≤ j) : (a ++ c).getD j 0 = c.getD (j - q) 0 := by
  subst h
  simp only [List.getD, List.getElem?_append_right hj]
theorem getD_cons_sub {x : Nat} {l : List Nat} {i j : Nat} (h : i + 1 ≤ j) : (x :: l).getD (j - i) 0 = l.getD (j - (i + 1)) 0 := by
  have : j - i = (j - (i + 1)) + 1 := by omega
  rw [this]; rfl

theorem DecAt.setNd' {w : World} {b : Nat} {f : Nat → Int} {nd : Nat} {dp : Int} (h : DecAt w b f nd dp) (k : Nat) (x : Int) (hx : x = k) : DecAt (w.setCell ⟨b, 800, none⟩ (.int .i64 x)) b f k dp := by
  subst hx; exact h.setNd k
/-- d.d[0:d.nd]. -/
theorem slice800 (b nd : Nat) (h : nd ≤ 800) (W : World) : (Instr.sliceAt 211 (.pointer (some ⟨b, 0, none⟩)) (some (.int .i64 0)) (some (.int .i64 nd)) none).run Tryz.prog W = .ok (.slice (some ⟨b, 0, none⟩) nd 800) W := by
  have hl : Tryz.prog.arrayLen 211 = 800 := by kernel_rfl
  have he : Tryz.prog.elem 211 = 5 := by kernel_rfl
  have hu : Tryz.prog.underlying 211 = some (.array (Tryz.prog.arrayLen 211) (Tryz.prog.elem 211)) := by rw [hl, he]; kernel_rfl
  have hs : (sizeOf 5).run Tryz.prog W = .ok 1 W := by show _ = _; kernel_rfl
  rw [run_sliceAt_array_lh (P := Tryz.prog) W 211 ⟨b, 0, none⟩ hu .i64 .i64 0 nd (by decide) (by omega) (by rw [hl]; omega), he, hs, hl]
  simp [Result.andThen, slicedAt, Addr.add]

set_option maxHeartbeats 4000000 in
set_option maxRecDepth 100000 in
theorem lsh_any (b : Nat) (f : Nat → Int) (nd : Nat) (dp : Int) (k : Nat) (w : World) (h : DecAt w b f nd dp) (hT : CheatT w b) (hG : DGood f nd) (hk0 : 1 ≤ k) (hk : k ≤ 60) :
    Calls Tryz.prog 221 #[.pointer (some ⟨b, 0, none⟩), .int .u64 k] w fun e w' => e = .returned (.tuple #[]) ∧ ∃ (g : Nat → Int) (nd' : Nat) (t : Nat), DecAt w' b g nd' (IntKind.i64.wrap (dp + t)) ∧ DGood g nd' ∧
      t ≤ 20 ∧ (t = 0 → f 0 < g 0) ∧ Kept b w w' := by
  obtain ⟨c, o, cp, hcb, hc13, hcp, hrow⟩ := hT.at_
  obtain ⟨delta, s, cut, hr1, hr2, hS, hs8, hCh⟩ := hrow k hk0 hk
  obtain ⟨ds, hlen, hds⟩ : ∃ ds : List Nat, ds.length = nd ∧ ∀ i, i < nd → f i = (ds.getD i 0 : Nat) + 48 := by
    refine ⟨(List.range nd).map fun i => (f i - 48).toNat, by simp, fun i hi => ?_⟩
    have := hG.dig i hi
    simp [List.getD, hi]
    omega
  have H := Lib.hid h
  have GG := Lib.hid hG
  have c1 := h.nd
  have c2 := h.dp
  have h1 := hG.pos
  have h8 := hG.most
  have HP : Hid (∀ n : Nat, Calls Tryz.prog 237 #[.slice (some ⟨b, 0, none⟩) nd 800, .string s] (w.drewN n) fun e w' => e = .returned (.bool (lessP ds cut)) ∧ ∃ m, w' = (w.drewN n).drewN m) :=
    fun n => prefix_any b ds cut nd 800 s (w.drewN n) hlen h8 hS hs8 (fun i hi => by rw [← hds i hi]; exact h.dig i (by omega))
  have HL := Lib.hid hlen
  have HDS := Lib.hid hds
  have HC := Lib.hid hCh
  have hd18 : delta ≤ 20 := by
    have e1 := hCh.lo
    have e2 := Nat.pow_le_pow_right (n := 2) (by decide) hk
    have e3 : 10 ^ delta < 10 ^ 20 := by omega
    have := (Nat.pow_lt_pow_iff_right (by decide)).1 e3
    omega
  have hd1 := hCh.pos
  clear h hG hrow hT hS hlen hds hCh
  obtain ⟨P, hP⟩ : ∃ P : Int, (2 : Int) ^ k = P := ⟨_, rfl⟩
  have hP0 : 2 ≤ P := by rw [← hP]; exact pow2_least hk0
  have hP1 : P ≤ 1152921504606846976 := by rw [← hP]; exact pow2_most hk
  obtain ⟨lp, hlp⟩ : ∃ lp, lessP ds cut = lp := ⟨_, rfl⟩
  rw [hlp] at HP
  have hsl := slice800 b nd h8
  go_enter Tryz.func221, Tryz.ntmps221
  go_upto_region 1 with fail
  go_wp2
  go_quiet ((go_at_call 237; exact Calls.quiet_of (HP.out _)))
  go_upto_if 30 with fail
  go_cut [4] from 31 to 32 (fun a4 wx => ∃ t : Nat, a4 = .int .i64 t ∧ t = delta - (if lp then 1 else 0) ∧ wx = w.drewN nq)
  case first =>
    cases lp
    · go_wp2_with fail
      go_meet
      exact ⟨delta, rfl, rfl, rfl⟩
    · go_wp2_with fail
      go_meet
      exact ⟨delta - 1, by congr 1; omega, rfl, rfl⟩
  case rest =>
    obtain ⟨t, rfl, ht, rfl⟩ := hcut
    obtain ⟨p, hp⟩ : ∃ p : Nat, 2 ^ k = p := ⟨_, rfl⟩
    have hpP : P = (p : Int) := by rw [← hP, ← hp]; simp
    have hdl : DigL ds := fun x hx => by
      obtain ⟨i, hi, rfl⟩ := List.getElem_of_mem hx
      have e1 := GG.out.dig i (by rw [← HL.out]; exact hi)
      have e2 := HDS.out i (by rw [← HL.out]; exact hi)
      have e3 : ds.getD i 0 = ds[i] := by simp [List.getD, hi]
      omega
    obtain ⟨d0, ds', hcons⟩ : ∃ d0 ds', ds = d0 :: ds' := by
      cases ds with
      | nil => have := HL.out; simp at this; omega
      | cons a l => exact ⟨a, l, rfl⟩
    have hd0 : d0 ≠ 0 := by
      have e1 := GG.out.head
      have e2 := HDS.out 0 (by omega)
      rw [hcons] at e2
      simp at e2
      omega
    have hlsh : (lshD p ds).length = nd + t := by
      have e := HC.out.length (d := d0) (ds := ds') (by rw [← hcons]; exact hdl) hd0
      rw [← hcons, hp, hlp] at e
      have e2 := HL.out
      rw [hcons] at e2
      rw [List.length_cons] at e2
      have h3 : (if lp = true then 1 else 0) ≤ delta := by split <;> omega
      omega
    have htd : t ≤ delta := by omega
    have HLS := Lib.hid hlsh
    have HDL := Lib.hid hdl
    have HCO := Lib.hid hcons
    have HD0 := Lib.hid hd0
    have HTT := Lib.hid ht
    have HPP := Lib.hid hpP
    have HPK := Lib.hid hp
    have hpp : 0 < p := by omega
    clear hlsh hdl hcons hd0 ht hp hlp hpP
    have HCR : Hid (∀ i, (lshC p (ds.drop i)).1 < p) := fun i => lshC_carry hpp (HDL.out.drop i)
    go_upto_block 0 with fail
    have HD1 := Lib.hid (H.out.drewN nq)
    have HK1 := Lib.hid ((Kept.refl b w).drewN nq)
    clear c1 c2 hsl hr1 hr2 hc13
    go_cut [6, 7] from 45 to 84 (fun a6 a7 wx => ∃ (g : Nat → Int), a6 = .int .i64 t ∧ a7 = .int .u64 ((lshC p ds).1 : Nat) ∧
      (∀ j, j < nd → j + t < 800 → g (j + t) = ((lshC p ds).2.getD j 0 : Nat) + 48) ∧ DecAt wx b g nd dp ∧ Kept b w wx)
    case first =>
      go_wp2_with fail
      go_loopg [5, 6, 7] nd (fun gk v5 v6 v7 wr => ∃ (i q C : Nat) (r : Int) (g : Nat → Int), gk = i ∧ i ≤ nd ∧ r + 1 = i ∧ q = i + t ∧ C = (lshC p (ds.drop i)).1 ∧ v5 = .int .i64 r ∧ v6 = .int .i64 q ∧ v7 = .int .u64 C ∧
        (∀ j, j < i → g j = (ds.getD j 0 : Nat) + 48) ∧ (∀ j, i ≤ j → j < nd → j + t < 800 → g (j + t) = ((lshC p (ds.drop i)).2.getD (j - i) 0 : Nat) + 48) ∧ DecAt wr b g nd dp ∧ Kept b w wr)
      case atStart =>
        refine ⟨nd, nd + t, 0, (nd : Int) - 1, f, rfl, Nat.le_refl _, by omega, rfl, ?_, rfl, ?_, rfl, HDS.out, fun j h1 h2 => absurd h2 (by omega), HD1.out, HK1.out⟩
        · rw [List.drop_eq_nil_of_le (by rw [HL.out]; exact Nat.le_refl _)]; rfl
        · first | rfl | (congr 1; push_cast; rfl) | trace_state
      case round =>
        obtain ⟨i, q, C, r, g, hgk, hin, hr, hq, hC, rfl, rfl, rfl, hg1, hg2, hd, hK⟩ := hrel
        have A1 := Lib.hid hg1
        have A2 := Lib.hid hg2
        have A3 := Lib.hid hd
        have A4 := Lib.hid hK
        have A5 := Lib.hid hC
        have A6 := Lib.hid hq
        clear hg1 hg2 hC hq
        cases i with
        | zero =>
          obtain rfl : r = -1 := by omega
          clear hd hK
          go_wp2_with fail
          go_meet
          have e1 := A6.out
          have e2 := A5.out
          refine ⟨g, by rw [e1]; simp, by rw [e2]; rfl, fun j h1 h2 => ?_, A3.out, A4.out⟩
          exact A2.out j (Nat.zero_le _) h1 h2
        | succ i =>
          obtain rfl : r = (i : Int) := by omega
          obtain ⟨q, rfl⟩ : ∃ q', q = q' + 1 := ⟨q - 1, by have := A6.out; omega⟩
          have hqi : q = i + t := by have := A6.out; omega
          have c3 := hd.dig i (by omega)
          rw [A1.out i (by omega)] at c3
          obtain ⟨x, hx⟩ : ∃ x, ds.getD i 0 = x := ⟨_, rfl⟩
          have hx9 : x ≤ 9 := by rw [← hx]; exact HDL.out.getD i
          rw [hx] at c3
          have hCp : C < p := by rw [A5.out]; exact HCR.out _
          obtain ⟨N, hN⟩ : ∃ N, C + x * p = N := ⟨_, rfl⟩
          have hN10 : N < 10 * p := by
            have : x * p ≤ 9 * p := Nat.mul_le_mul_right _ hx9
            omega
          have hNP := HPP.out
          have hst := lshC_step (p := p) (ds := ds) (i := i) (by rw [HL.out]; omega)
          rw [← A5.out, hx, hN] at hst
          obtain ⟨M, hM⟩ : ∃ M : Int, (C : Int) + x * P = M := ⟨_, rfl⟩
          have hMN : M = (N : Int) := by rw [← hM, ← hN, hNP]; push_cast; rfl
          obtain ⟨R, hR⟩ : ∃ R : Int, M % 10 = R := ⟨_, rfl⟩
          have e0 : IntKind.u64.wrap ((x : Int) + 48) = x + 48 := u64_id _ (by omega) (by omega)
          have e1 : IntKind.u64.wrap (x : Int) = x := u64_id _ (by omega) (by omega)
          have e2 : IntKind.u64.wrap ((x : Int) * P) = x * P := by
            have h1 : (x : Int) * P ≤ 9 * P := Int.mul_le_mul_of_nonneg_right (by omega) (by omega)
            have h2 : 0 ≤ (x : Int) * P := Int.mul_nonneg (by omega) (by omega)
            exact u64_id _ h2 (by omega)
          have e3 : IntKind.u64.wrap M = M := u64_id _ (by omega) (by omega)
          have e4 : IntKind.u64.wrap (10 * (M / 10)) = 10 * (M / 10) := u64_id _ (by omega) (by omega)
          have e5 : IntKind.u64.wrap (M - 10 * (M / 10)) = R := by rw [u64_id _ (by omega) (by omega)]; omega
          have e6 : IntKind.u64.wrap (R + 48) = R + 48 := u64_id _ (by omega) (by omega)
          have e7 : (R + 48) % 256 = R + 48 := by omega
          have e8 : IntKind.u64.wrap (M / 10) = M / 10 := u64_id _ (by omega) (by omega)
          have hRN : R = ((N % 10 : Nat) : Int) := by omega
          have hM0 : 0 ≤ M := by omega
          have htd : M.tdiv 10 = M / 10 := Int.tdiv_eq_ediv_of_nonneg hM0
          have hqb : q < 100000 := by omega
          have B1 := Lib.hid hst
          have B2 := Lib.hid hMN
          have B3 := Lib.hid hRN
          have B4 := Lib.hid hqi
          have B5 := Lib.hid hx
          clear hst hMN hRN hqi hN10 hN hCp hx9 hR hNP hx
          by_cases h800 : q < 800
          · have h800' : (q : Int) < 800 := by omega
            have c4 := hd.dig q h800
            have z4 := hd.free q
            clear hd hK
            go_wp2_with fail
            go_roundg i
            case measure => omega
            case rel =>
              have b4 := B4.out
              refine ⟨i, q, _, _, putAt g q (R + 48), rfl, by omega, by omega, b4, rfl, rfl, rfl, ?_, fun j hj => ?_, fun j h1 h2 h3 => ?_, A3.out.setDig h800 _, A4.out.setCell _ _⟩
              · rw [B1.out, B2.out]; simp
              · simp only [putAt, if_neg (show ¬ j = q by omega)]; exact A1.out j (by omega)
              · rw [B1.out]
                by_cases e : j = i
                · subst e
                  simp only [putAt, if_pos (show j + t = q by omega), Nat.sub_self]
                  rw [B3.out]; rfl
                · simp only [putAt, if_neg (show ¬ j + t = q by omega)]
                  rw [A2.out j (by omega) h2 h3]
                  rw [getD_cons_sub (by omega)]
          · have h800' : ¬ (q : Int) < 800 := by omega
            have z4 := hd.free 803
            obtain ⟨tr, c4⟩ := hd.tr
            clear hd hK
            by_cases hR0 : R = 0
            · have hR1 : (R != 0) = false := by simp [hR0]
              have HR0 := Lib.hid hR0
              clear hR0
              go_wp2_with fail
              go_roundg i
              case measure => omega
              case rel =>
                have b4 := B4.out
                refine ⟨i, q, _, _, g, rfl, by omega, by omega, b4, rfl, rfl, rfl, ?_, fun j hj => A1.out j (by omega), fun j h1 h2 h3 => ?_, A3.out, A4.out⟩
                · rw [B1.out, B2.out]; simp
                · rw [B1.out, A2.out j (by omega) h2 h3, getD_cons_sub (by omega)]
            · have hR1 : (R != 0) = true := bne_iff_ne.2 hR0
              clear hR0
              go_wp2_with fail
              go_roundg i
              case measure => omega
              case rel =>
                have b4 := B4.out
                refine ⟨i, q, _, _, g, rfl, by omega, by omega, b4, rfl, rfl, rfl, ?_, fun j hj => A1.out j (by omega), fun j h1 h2 h3 => ?_, A3.out.setTr _, A4.out.setCell _ _⟩
                · rw [B1.out, B2.out]; simp
                · rw [B1.out, A2.out j (by omega) h2 h3, getD_cons_sub (by omega)]
    case rest =>
      obtain ⟨g, rfl, rfl, hg, hd, hK⟩ := hcut
      have HG1 := Lib.hid hg
      have HD2 := Lib.hid hd
      have HK2 := Lib.hid hK
      have hC0 : Hid ((lshC p ds).1 < 10 ^ 20) := by
        have e1 := HCR.out 0
        have e2 := HPP.out
        rw [List.drop_zero] at e1
        show _ < _
        omega
      have hx20 : Hid ((extD 20 (lshC p ds).1).length = t) := by
        have e := HLS.out
        show _ = _
        unfold lshD at e
        rw [List.length_append, lshC_length, HL.out] at e
        omega
      obtain ⟨C, hC⟩ : ∃ C, (lshC p ds).1 = C := ⟨_, rfl⟩
      rw [hC] at hC0 hx20
      have HCC := Lib.hid hC
      clear hg hd hK
      rw [hC]
      clear hC
      go_wp2_with fail
      go_loopg [6, 7] 20 (fun gk v6 v7 wr => ∃ (q n : Nat) (g : Nat → Int) (rest : List Nat), v6 = .int .i64 q ∧ v7 = .int .u64 n ∧ q ≤ t ∧ n < 10 ^ gk ∧ n ≤ C ∧ (extD gk n).length = q ∧ lshD p ds = extD gk n ++ rest ∧
        (∀ j, q ≤ j → j < 800 → j < nd + t → g j = ((lshD p ds).getD j 0 : Nat) + 48) ∧ DecAt wr b g nd dp ∧ Kept b w wr)
      case atStart =>
        refine ⟨t, C, g, (lshC p ds).2, rfl, rfl, Nat.le_refl _, hC0.out, Nat.le_refl _, hx20.out, by unfold lshD; rw [HCC.out], fun j h1 h2 h3 => ?_, HD2.out, HK2.out⟩
        obtain ⟨i, rfl⟩ : ∃ i, j = i + t := ⟨j - t, by omega⟩
        rw [HG1.out i (by omega) h2]
        unfold lshD
        rw [HCC.out, getD_right hx20.out (by omega), Nat.add_sub_cancel]
      case round =>
        obtain ⟨q, n, g, rest, rfl, rfl, hqt, hn, hnC, hq, hsp, hg, hd, hK⟩ := hrel
        have A1 := Lib.hid hn
        have A2 := Lib.hid hq
        have A3 := Lib.hid hsp
        have A4 := Lib.hid hg
        have A5 := Lib.hid hd
        have A6 := Lib.hid hK
        have hnb : (n : Int) < 18446744073709551616 := by
          have e1 := HCR.out 0
          have e2 := HPP.out
          have e3 := HCC.out
          rw [List.drop_zero] at e1
          omega
        clear hn hq hsp hg
        by_cases hn0 : n = 0
        case pos =>
          subst hn0
          have hq0 : q = 0 := by rw [← A2.out]; cases gk <;> simp [extD]
          subst hq0
          have c1 := hd.nd
          have c2 := hd.dp
          have z0 := hd.free 800
          have z1 := hd.free 801
          have htb : t ≤ 20 := by omega
          obtain ⟨D, hD⟩ : ∃ D, IntKind.i64.wrap (dp + t) = D := ⟨_, rfl⟩
          have hhead : Hid (∃ e es, lshD p ds = e :: es ∧ e ≠ 0 ∧ (t = 0 → d0 < e)) := by
            show ∃ _, _
            have e1 := HDL.out
            rw [HCO.out] at e1
            have e2 := HPK.out
            have hp2 : 2 ≤ p := by have := HPP.out; omega
            have hp20 : p < 10 ^ 20 := by have := HPP.out; omega
            obtain ⟨e, es, h1, h2⟩ := lshD_head hpp hp20 e1 HD0.out
            rw [HCO.out]
            refine ⟨e, es, h1, h2, fun ht0 => ?_⟩
            have e3 := HLS.out
            have e4 := HL.out
            rw [HCO.out] at e3 e4
            rw [List.length_cons] at e4
            obtain ⟨e', es', h3, h4⟩ := lshD_grows hp2 HD0.out (by rw [e3, ht0]; omega)
            rw [h1] at h3
            injection h3 with h5 h6
            subst h5
            exact h4
          have hg0 : Hid (49 ≤ g 0 ∧ (t = 0 → f 0 < g 0)) := by
            show _ ∧ _
            obtain ⟨e, es, h1, h2, h3⟩ := hhead.out
            have e1 := A4.out 0 (Nat.le_refl _) (by decide) (by omega)
            rw [h1] at e1
            have e2 : (e :: es).getD 0 0 = e := rfl
            rw [e2] at e1
            have e4 := HDS.out 0 (by omega)
            rw [HCO.out] at e4
            have e5 : (d0 :: ds').getD 0 0 = d0 := rfl
            rw [e5] at e4
            refine ⟨by omega, fun ht0 => ?_⟩
            have := h3 ht0
            omega
          have hgd : Hid (∀ j, j < 800 → j < nd + t → 48 ≤ g j ∧ g j ≤ 57) := fun j h1 h2 => by
            have e1 := A4.out j (Nat.zero_le _) h1 h2
            have e2 := (lshD_dig p ds).getD j
            omega
          have HDD := Lib.hid hD
          by_cases hge : 800 ≤ nd + t
          · have hge' : (800 : Int) ≤ (nd : Int) + t := by omega
            have HDT := Lib.hid (((A5.out.setNd' (nd + t) ((nd : Int) + t) (by push_cast; rfl)).setNd' 800 800 rfl).setDp D)
            have HKT := Lib.hid (((A6.out.setCell 800 (.int .i64 ((nd : Int) + t))).setCell 800 (.int .i64 800)).setCell 801 (.int .i64 D))
            clear hd hK
            go_wp2_with (go_at_call 238; refine (trim_any b g 800 D _ HDT.out (by have := hg0.out.1; omega) (by decide) (Nat.le_refl _)).mono ?_; rintro e w1 ⟨rfl, nd', ht1, ht2, ht3, ht4⟩)
            exact bodyPost_end (results_none rfl _ _ _) rfl ⟨rfl, g, nd', t, by rw [HDD.out]; exact ht3, ⟨ht1, by omega, fun i hi => hgd.out i (by omega) (by omega), hg0.out.1⟩, htb, hg0.out.2, HKT.out.trans ht4⟩
          · have hge' : ¬ (800 : Int) ≤ (nd : Int) + t := by omega
            have HDT := Lib.hid ((A5.out.setNd' (nd + t) ((nd : Int) + t) (by push_cast; rfl)).setDp D)
            have HKT := Lib.hid ((A6.out.setCell 800 (.int .i64 ((nd : Int) + t))).setCell 801 (.int .i64 D))
            clear hd hK
            go_wp2_with (go_at_call 238; refine (trim_any b g (nd + t) D _ HDT.out (by have := hg0.out.1; omega) (by omega) (by omega)).mono ?_; rintro e w1 ⟨rfl, nd', ht1, ht2, ht3, ht4⟩)
            exact bodyPost_end (results_none rfl _ _ _) rfl ⟨rfl, g, nd', t, by rw [HDD.out]; exact ht3, ⟨ht1, by omega, fun i hi => hgd.out i (by omega) (by omega), hg0.out.1⟩, htb, hg0.out.2, HKT.out.trans ht4⟩
        case neg =>
          have hpos : 0 < (n : Int) := by omega
          obtain ⟨F, rfl⟩ : ∃ F, gk = F + 1 := by
            cases gk with
            | zero => have := A1.out; simp at this; omega
            | succ F => exact ⟨F, rfl⟩
          have hex : Hid (extD (F + 1) n = extD F (n / 10) ++ [n % 10]) := by show _ = _; simp only [extD, if_neg hn0]
          obtain ⟨q, rfl⟩ : ∃ q', q = q' + 1 := ⟨q - 1, by have := A2.out; rw [hex.out] at this; simp at this; omega⟩
          obtain ⟨M, hM⟩ : ∃ M : Int, (n : Int) = M := ⟨_, rfl⟩
          obtain ⟨R, hR⟩ : ∃ R : Int, M % 10 = R := ⟨_, rfl⟩
          have hM0 : 0 ≤ M := by omega
          have htd' : M.tdiv 10 = M / 10 := Int.tdiv_eq_ediv_of_nonneg hM0
          have hqb : q < 100000 := by omega
          have e3 : IntKind.u64.wrap M = M := u64_id _ (by omega) (by omega)
          have e4 : IntKind.u64.wrap (10 * (M / 10)) = 10 * (M / 10) := u64_id _ (by omega) (by omega)
          have e5 : IntKind.u64.wrap (M - 10 * (M / 10)) = R := by rw [u64_id _ (by omega) (by omega)]; omega
          have e6 : IntKind.u64.wrap (R + 48) = R + 48 := u64_id _ (by omega) (by omega)
          have e7 : (R + 48) % 256 = R + 48 := by omega
          have e8 : IntKind.u64.wrap (M / 10) = M / 10 := u64_id _ (by omega) (by omega)
          have hRN : R = ((n % 10 : Nat) : Int) := by omega
          have hMd : M / 10 = ((n / 10 : Nat) : Int) := by omega
          have hpM : 0 < M := by omega
          have B1 := Lib.hid hRN
          have B2 := Lib.hid hMd
          have hfull : Hid (n / 10 < 10 ^ F ∧ (extD F (n / 10)).length = q ∧ lshD p ds = extD F (n / 10) ++ ((n % 10) :: rest) ∧ (lshD p ds).getD q 0 = n % 10) := by
            show _ ∧ _
            have a1 := A1.out
            have a2 := A2.out
            have a3 := A3.out
            rw [hex.out] at a2 a3
            rw [List.length_append, List.length_singleton] at a2
            rw [Nat.pow_succ] at a1
            have a4 : lshD p ds = extD F (n / 10) ++ ((n % 10) :: rest) := by rw [a3, List.append_assoc]; rfl
            refine ⟨by omega, by omega, a4, ?_⟩
            rw [a4, getD_right (q := q) (by omega) (Nat.le_refl _), Nat.sub_self]; rfl
          clear hRN hMd hn0 hR hpos
          rw [hM]
          have HM := Lib.hid hM
          clear hM hnb
          by_cases h800 : q < 800
          · have h800' : (q : Int) < 800 := by omega
            have c4 := hd.dig q h800
            have z4 := hd.free q
            clear hd hK
            go_wp2_with fail
            go_roundg F
            case measure => omega
            case rel =>
              refine ⟨q, n / 10, putAt g q (R + 48), (n % 10) :: rest, rfl, by rw [B2.out], by omega, hfull.out.1, by omega, hfull.out.2.1, hfull.out.2.2.1, fun j h1 h2 h3 => ?_, A5.out.setDig h800 _, A6.out.setCell _ _⟩
              by_cases e : j = q
              · subst e
                simp only [putAt, if_true]
                rw [hfull.out.2.2.2, B1.out]
              · simp only [putAt, if_neg e]
                exact A4.out j (by omega) h2 h3
          · have h800' : ¬ (q : Int) < 800 := by omega
            have z4 := hd.free 803
            obtain ⟨tr, c4⟩ := hd.tr
            omega
end Go.Proofs.YtaecbclonmhbcaaGreatDoor

/- internal/strconv.decimal's Shift. -/
namespace Go.Proofs.YtaecbclonmhbcaaGreatDoor
open Go.RowKit

theorem CheatT.kept {w w' : World} {b : Nat} (h : CheatT w b) (hK : Kept b w w') : CheatT w' b := by
  obtain ⟨h13, g, o, cp, hg, h1, h2, h3⟩ := h
  refine ⟨h13, g, o, cp, hg, hK.cell h1 h13, h2, fun k hk hk2 => ?_⟩
  obtain ⟨d, s, cut, a1, a2, a3⟩ := h3 k hk hk2
  exact ⟨d, s, cut, hK.cell a1 hg, hK.cell a2 hg, a3⟩

set_option maxHeartbeats 4000000 in
set_option maxRecDepth 100000 in
theorem shift_left (b : Nat) (f : Nat → Int) (nd : Nat) (dp : Int) (k : Nat) (w : World) (h : DecAt w b f nd dp) (hT : CheatT w b) (hG : DGood f nd) (hk0 : 1 ≤ k) (hk : k ≤ 60) :
    Calls Tryz.prog 206 #[.pointer (some ⟨b, 0, none⟩), .int .i64 k] w fun e w' => e = .returned (.tuple #[]) ∧ ∃ (g : Nat → Int) (nd' : Nat) (t : Nat), DecAt w' b g nd' (IntKind.i64.wrap (dp + t)) ∧ DGood g nd' ∧
      t ≤ 20 ∧ (t = 0 → f 0 < g 0) ∧ Kept b w w' := by
  have HC := Lib.hid (lsh_any b f nd dp k w h hT hG hk0 hk)
  have c1 := h.nd
  have h1 := hG.pos
  have g0 : ((nd : Int) == 0) = false := beq_eq_false_iff_ne.2 (by omega)
  have g1 : (0 : Int) < k := by omega
  have g2 : ¬ (60 : Int) < k := by omega
  have e1 : IntKind.u64.wrap (k : Int) = k := u64_id _ (by omega) (by omega)
  clear h hT hG
  go_enter Tryz.func206, Tryz.ntmps206
  go_wp2
  go_loopg [1] 0 (fun gk v wr => v = .int .i64 k ∧ w = wr)
  case atStart => exact ⟨rfl, rfl⟩
  case round =>
    obtain ⟨rfl, rfl⟩ := hrel
    go_wp2_with (go_at_call 221; refine HC.out.mono ?_; rintro e w1 ⟨rfl, hp⟩)
    exact bodyPost_end (results_none rfl _ _ _) rfl ⟨rfl, hp⟩

set_option maxHeartbeats 4000000 in
set_option maxRecDepth 100000 in
theorem shift_right (b : Nat) (f : Nat → Int) (nd : Nat) (dp : Int) (k : Nat) (w : World) (h : DecAt w b f nd dp) (hG : DGood f nd) (hk0 : 1 ≤ k) (hk : k ≤ 60) :
    Calls Tryz.prog 206 #[.pointer (some ⟨b, 0, none⟩), .int .i64 (-(k : Int))] w fun e w' => e = .returned (.tuple #[]) ∧ ∃ (g : Nat → Int) (nd' : Nat) (r : Int), DecAt w' b g nd' (IntKind.i64.wrap (dp - (r - 1))) ∧ DGood g nd' ∧
      1 ≤ r ∧ r ≤ 2305843009213693952 ∧ (r = 1 → g 0 < f 0) ∧ Kept b w w' := by
  have HC := Lib.hid (rsh_any b f nd dp k w h hG hk0 hk)
  have c1 := h.nd
  have h1 := hG.pos
  have g0 : ((nd : Int) == 0) = false := beq_eq_false_iff_ne.2 (by omega)
  obtain ⟨m, hm⟩ : ∃ m : Int, -(k : Int) = m := ⟨_, rfl⟩
  have g1 : ¬ 0 < m := by omega
  have g2 : m < 0 := by omega
  have g3 : ¬ m < -60 := by omega
  have e0 : IntKind.i64.wrap (-m) = k := by rw [IntKind.wrap_i64]; omega
  have e1 : IntKind.u64.wrap (k : Int) = k := u64_id _ (by omega) (by omega)
  have e2 : -m = (k : Int) := by omega
  rw [hm]
  clear h hG hm
  go_enter Tryz.func206, Tryz.ntmps206
  go_wp2
  go_loopg [1] 0 (fun gk v wr => v = .int .i64 m ∧ w = wr)
  case atStart => exact ⟨rfl, rfl⟩
  case round =>
    obtain ⟨rfl, rfl⟩ := hrel
    go_wp2_with (go_at_call 222; refine HC.out.mono ?_; rintro e w1 ⟨rfl, hp⟩)
    exact bodyPost_end (results_none rfl _ _ _) rfl ⟨rfl, hp⟩

/-- Good digits still. -/
def DecSome (w : World) (b : Nat) : Prop := ∃ (g : Nat → Int) (nd : Nat) (dp : Int), DecAt w b g nd dp ∧ DGood g nd

set_option maxHeartbeats 4000000 in
set_option maxRecDepth 100000 in
theorem shift_any (b : Nat) (k : Int) (w : World) (h : DecSome w b) (hT : CheatT w b) (hk0 : -9223372036854775808 ≤ k) (hk1 : k < 9223372036854775808) :
    Calls Tryz.prog 206 #[.pointer (some ⟨b, 0, none⟩), .int .i64 k] w fun e w' => e = .returned (.tuple #[]) ∧ DecSome w' b ∧ Kept b w w' := by
  obtain ⟨f, nd, dp, hd, hG⟩ := h
  have H := Lib.hid hd
  have HG := Lib.hid hG
  have HT := Lib.hid hT
  have c1 := hd.nd
  have h1 := hG.pos
  have g0 : ((nd : Int) == 0) = false := beq_eq_false_iff_ne.2 (by omega)
  clear hd hT hG
  go_enter Tryz.func206, Tryz.ntmps206
  rcases Int.lt_trichotomy k 0 with hk | hk | hk
  · have g1 : ¬ 0 < k := by omega
    go_wp2
    go_loopg [1] (-k).toNat (fun gk v wr => ∃ (m : Int) (f : Nat → Int) (nd : Nat) (dp : Int), v = .int .i64 m ∧ gk = (-m).toNat ∧ m < 0 ∧ k ≤ m ∧ DecAt wr b f nd dp ∧ DGood f nd ∧ Kept b w wr)
    case atStart => exact ⟨k, f, nd, dp, rfl, rfl, hk, Int.le_refl _, H.out, HG.out, Kept.refl _ _⟩
    case round =>
      clear c1 h1 g0 g1 hk
      obtain ⟨m, f, nd, dp, rfl, hgk, hm, hkm, hd, hG, hK⟩ := hrel
      have A1 := Lib.hid hd
      have A2 := Lib.hid hG
      have A3 := Lib.hid hK
      clear hd hG hK
      by_cases h60 : m < -60
      · have HC := Lib.hid (rsh_any b f nd dp 60 wr A1.out A2.out (by decide) (by decide))
        go_wp2_with (go_at_call 222; refine HC.out.mono ?_; rintro e w1 ⟨rfl, g, nd', r, d1, d2, -, -, -, d3⟩)
        go_roundg (-(m + 60)).toNat
        case measure => omega
        case rel => exact ⟨m + 60, g, nd', _, rfl, rfl, by omega, by omega, d1, d2, A3.out.trans d3⟩
      · obtain ⟨j, hj⟩ : ∃ j : Nat, -m = (j : Int) := ⟨(-m).toNat, by omega⟩
        have HC := Lib.hid (rsh_any b f nd dp j wr A1.out A2.out (by omega) (by omega))
        have e1 : IntKind.u64.wrap (j : Int) = j := u64_id _ (by omega) (by omega)
        have e0 : IntKind.i64.wrap (-m) = j := by rw [IntKind.wrap_i64]; omega
        go_wp2_with (go_at_call 222; refine HC.out.mono ?_; rintro e w1 ⟨rfl, g, nd', r, d1, d2, -, -, -, d3⟩)
        exact bodyPost_end (results_none rfl _ _ _) rfl ⟨rfl, ⟨g, nd', _, d1, d2⟩, A3.out.trans d3⟩
  · subst hk
    go_wp2
    exact bodyPost_end (results_none rfl _ _ _) rfl ⟨rfl, ⟨f, nd, dp, H.out, HG.out⟩, Kept.refl _ _⟩
  · go_wp2
    go_loopg [1] k.toNat (fun gk v wr => ∃ (m : Int) (f : Nat → Int) (nd : Nat) (dp : Int), v = .int .i64 m ∧ gk = m.toNat ∧ 0 < m ∧ m ≤ k ∧ DecAt wr b f nd dp ∧ DGood f nd ∧ Kept b w wr)
    case atStart => exact ⟨k, f, nd, dp, rfl, rfl, hk, Int.le_refl _, H.out, HG.out, Kept.refl _ _⟩
    case round =>
      clear c1 h1 g0 hk
      obtain ⟨m, f, nd, dp, rfl, hgk, hm, hkm, hd, hG, hK⟩ := hrel
      have A1 := Lib.hid hd
      have A2 := Lib.hid hG
      have A3 := Lib.hid hK
      clear hd hG hK
      by_cases h60 : 60 < m
      · have HC := Lib.hid (lsh_any b f nd dp 60 wr A1.out (HT.out.kept A3.out) A2.out (by decide) (by decide))
        go_wp2_with (go_at_call 221; refine HC.out.mono ?_; rintro e w1 ⟨rfl, g, nd', r, d1, d2, -, -, d3⟩)
        go_roundg (m - 60).toNat
        case measure => omega
        case rel => exact ⟨m - 60, g, nd', _, rfl, rfl, by omega, by omega, d1, d2, A3.out.trans d3⟩
      · obtain ⟨j, rfl⟩ : ∃ j : Nat, m = (j : Int) := ⟨m.toNat, by omega⟩
        have HC := Lib.hid (lsh_any b f nd dp j wr A1.out (HT.out.kept A3.out) A2.out (by omega) (by omega))
        have e1 : IntKind.u64.wrap (j : Int) = j := u64_id _ (by omega) (by omega)
        go_wp2_with (go_at_call 221; refine HC.out.mono ?_; rintro e w1 ⟨rfl, g, nd', r, d1, d2, -, -, d3⟩)
        exact bodyPost_end (results_none rfl _ _ _) rfl ⟨rfl, ⟨g, nd', _, d1, d2⟩, A3.out.trans d3⟩
end Go.Proofs.YtaecbclonmhbcaaGreatDoor

/- internal/strconv.decimal's RoundedInteger, shouldRoundUp. -/
namespace Go.Proofs.YtaecbclonmhbcaaGreatDoor
open Go.RowKit

def SomeB (w : World) (e : Ending) (w' : World) : Prop := ∃ (y : Bool) (n : Nat), e = .returned (.bool y) ∧ w' = w.drewN n
def SomeU (w : World) (e : Ending) (w' : World) : Prop := ∃ (y : Int) (n : Nat), e = .returned (.int .u64 y) ∧ w' = w.drewN n

set_option maxHeartbeats 4000000 in
set_option maxRecDepth 100000 in
theorem round_up_any (b : Nat) (f : Nat → Int) (nd : Nat) (dp x : Int) (w : World) (h : DecAt w b f nd dp) (hG : DGood f nd) :
    Calls Tryz.prog 223 #[.pointer (some ⟨b, 0, none⟩), .int .i64 x] w (SomeB w) := by
  have c1 := h.nd
  have h8 := hG.most
  obtain ⟨tr, c3⟩ := h.tr
  rcases Int.lt_or_le x 0 with hx | hx
  · clear h hG
    go_enter Tryz.func223, Tryz.ntmps223
    go_wp2
    all_goals (go_ret; exact ⟨_, 0, rfl, rfl⟩)
  have g1 : ¬ x < 0 := by omega
  rcases Int.lt_or_le x nd with hn | hn
  case inr =>
    clear h hG
    go_enter Tryz.func223, Tryz.ntmps223
    go_wp2
    all_goals (go_ret; exact ⟨_, 0, rfl, rfl⟩)
  case inl =>
    obtain ⟨j, rfl⟩ := Int.eq_ofNat_of_zero_le hx
    have g2 : ¬ (nd : Int) ≤ j := by omega
    have c4 := h.dig j (by omega)
    have d4 := hG.dig j (by omega)
    cases j with
    | zero =>
      clear h hG
      go_enter Tryz.func223, Tryz.ntmps223
      go_wp2
      all_goals (go_ret; exact ⟨_, 0, rfl, rfl⟩)
    | succ j =>
      have c5 := h.dig j (by omega)
      have d5 := hG.dig j (by omega)
      have e1 : ((j + 1 : Nat) : Int) - 1 = j := by omega
      have e2 : IntKind.u8.wrap (f j - 48) = f j - 48 := by rw [IntKind.wrap_u8]; omega
      clear h hG
      go_enter Tryz.func223, Tryz.ntmps223
      go_wp2
      all_goals (go_ret; exact ⟨_, 0, rfl, rfl⟩)

set_option maxHeartbeats 4000000 in
set_option maxRecDepth 100000 in
theorem rounded_any (b : Nat) (w : World) (h : DecSome w b) :
    Calls Tryz.prog 207 #[.pointer (some ⟨b, 0, none⟩)] w (SomeU w) := by
  obtain ⟨f, nd, dp, hd, hG⟩ := h
  have H := Lib.hid hd
  have HG := Lib.hid hG
  have c1 := hd.nd
  have c2 := hd.dp
  have h8 := hG.most
  clear hd hG
  go_enter Tryz.func207, Tryz.ntmps207
  by_cases h20 : 20 < dp
  · go_wp2
    all_goals (go_ret; exact ⟨_, 0, rfl, rfl⟩)
  · go_upto_block 0 with fail
    go_cut [3, 4] from 10 to 36 (fun a3 a4 wx => ∃ (i : Nat) (n : Int), a3 = .int .i64 i ∧ a4 = .int .u64 n ∧ w = wx)
    case first =>
      go_wp2
      go_loopg [3, 4] nd (fun gk v3 v4 wr => ∃ (i : Nat) (n : Int), gk + i = nd ∧ v3 = .int .i64 i ∧ v4 = .int .u64 n ∧ w = wr)
      case atStart => exact ⟨0, 0, rfl, rfl, rfl, rfl⟩
      case round =>
        obtain ⟨i, n, hgk, rfl, rfl, rfl⟩ := hrel
        by_cases hi1 : (i : Int) < dp
        · by_cases hi2 : i < nd
          · have c3 := H.out.dig i (by omega)
            go_wp2
            go_roundg (nd - (i + 1))
            case measure => omega
            case rel => exact ⟨i + 1, _, by omega, by go_num, rfl, rfl⟩
          · go_wp2
            go_meet
            exact ⟨i, n, rfl, rfl, rfl⟩
        · go_wp2
          go_meet
          exact ⟨i, n, rfl, rfl, rfl⟩
    case rest =>
      obtain ⟨i, n, rfl, rfl, rfl⟩ := hcut
      have HR := Lib.hid (round_up_any b f nd dp dp w H.out HG.out)
      go_wp2
      go_loopg [3, 4] (dp - i).toNat (fun gk v3 v4 wr => ∃ (i : Nat) (n : Int), gk = (dp - i).toNat ∧ v3 = .int .i64 i ∧ v4 = .int .u64 n ∧ w = wr)
      case atStart => exact ⟨i, n, rfl, rfl, rfl, rfl⟩
      case round =>
        obtain ⟨i, n, hgk, rfl, rfl, rfl⟩ := hrel
        by_cases hi1 : (i : Int) < dp
        · go_wp2
          go_roundg (dp - (i + 1)).toNat
          case measure => omega
          case rel => exact ⟨i + 1, _, by omega, by go_num, rfl, rfl⟩
        · go_wp2_with (go_at_call 223; refine HR.out.mono ?_; rintro e w1 ⟨y, m, rfl, rfl⟩; cases y)
          all_goals (go_ret; exact ⟨_, _, rfl, rfl⟩)
end Go.Proofs.YtaecbclonmhbcaaGreatDoor
