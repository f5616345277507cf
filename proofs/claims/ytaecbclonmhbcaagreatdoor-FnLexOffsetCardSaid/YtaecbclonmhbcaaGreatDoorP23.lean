/- internal/strconv.decimal's set over whatever bytes. Printed by gen_dcx.py. internal/strconv.atof64, atof32 over whatever bytes. Printed by gen_atx.py out of At6, At3. base64.NewEncoding over the standard alphabet. base64's small functions: the encoding, its lengths, the digits put together, the bytes put down. What every statement of the seat ends with: the listed errors, the arguments that stay, the reading behind the call. What a listed variable holds, read off its datum: a slice of elements, an array of pairs, floats. No program. A row of the cheat sheet, told by a reckoning. No program. -/
import Derived.Test.YtaecbclonmhbcaaGreatDoorP16
import Derived.Test.YtaecbclonmhbcaaGreatDoorP19
import Derived.Test.YtaecbclonmhbcaaGreatDoorP20
import Derived.Test.YtaecbclonmhbcaaGreatDoorP22
import Derived.Test.YtaecbclonmhbcaaGreatDoorProg
import Derived.Test.YtaecbclonmhbcaaGreatDoorP01
import Derived.Test.YtaecbclonmhbcaaGreatDoorP14
import Derived.Deep.MidRow
import Derived.Lib.BufferWrite
import Derived.Lib.SlBuf
import Derived.Laws.CopyOwn
import Derived.Deep.DeepCutAuto
import Derived.Deep.LoopGhost
import Derived.WalkMore
import Derived.Test.YtaecbclonmhbcaaGreatDoorRows
import Derived.Stop.LaidTwo
import Derived.ChangeStays
import Derived.ProofKit
import Derived.OpenShut
import Derived.ReadAgain
import Derived.MakeChecks
import Derived.Lib.LaidPrint
import Derived.ChangeArms
set_option linter.unusedVariables false
set_option linter.unusedSimpArgs false
namespace Go.Proofs.YtaecbclonmhbcaaGreatDoor
open Go.RowKit
set_option maxHeartbeats 8000000 in
set_option maxRecDepth 100000 in
theorem set_all (b : Nat) (s : ByteArray) (f : Nat → Int) (w : World) (h : DecAt w b f 0 0) (hs : s.size ≤ 100000) :
    Calls Tryz.prog 176 #[.pointer (some ⟨b, 0, none⟩), .string s] w (SetPost b w) := by
  have H := Lib.hid (((h.setNeg false).setTr false))
  have HK0 := Lib.hid (((Kept.refl b w).setCell 802 (.bool false)).setCell 803 (.bool false))
  have z2 := h.free 802
  have z3 := h.free 803
  obtain ⟨x2, c2⟩ := h.neg
  obtain ⟨x3, c3⟩ := h.tr
  clear h
  go_enter Tryz.func176, Tryz.ntmps176
  by_cases hs0 : s.size = 0
  · have hse : s = ByteArray.empty := by first | exact ByteArray.size_eq_zero_iff.1 hs0 | (cases s; simp_all [ByteArray.size]; rfl)
    subst hse
    go_wp2
    all_goals (go_ret; exact ⟨false, rfl, fun h => absurd h (by decide), HK0.out⟩)
  have hse : ¬ s = ByteArray.empty := by intro e; rw [e] at hs0; exact hs0 (by decide)
  have hs1 : 0 < s.size := by omega
  go_upto_block 0 with fail
  go_cut [5] from 23 to 33 (fun a5 wx => ∃ k : Nat, a5 = .int .i64 k ∧ k ≤ 1 ∧ DecAt wx b f 0 0 ∧ Kept b w wx)
  case first =>
    go_wp2_with fail
    all_goals
      go_meet
      first
        | exact ⟨1, rfl, by decide, H.out, HK0.out⟩
        | exact ⟨1, rfl, by decide, H.out.setNeg true, HK0.out.setCell _ _⟩
        | exact ⟨0, rfl, by decide, H.out, HK0.out⟩
  case rest =>
    clear z2 z3 c2 c3 H HK0 hse
    obtain ⟨k0, rfl, hk0, hd, hK⟩ := hcut
    have H := Lib.hid hd
    have HK0 := Lib.hid hK
    clear hd hK
    go_upto_block 1 with fail
    go_cut [5, 6, 7] from 34 to 116 (fun a5 a6 a7 wx => SetI b s w a5 a6 a7 wx)
    case first =>
      go_wp2_with fail
      go_loopg [5, 6, 7] (s.size - k0) (fun gk a5 a6 a7 wr => (∃ k : Nat, a5 = .int .i64 k ∧ gk = s.size - k) ∧ SetI b s w a5 a6 a7 wr)
      case atStart => exact ⟨⟨k0, rfl, rfl⟩, k0, 0, false, false, f, 0, rfl, rfl, rfl, by omega, by omega, by omega, by omega, H.out, .inl rfl, HK0.out⟩
      case round =>
        obtain ⟨⟨k', hk', hgk⟩, k, nd, sd, sg, g, dp, rfl, rfl, rfl, hk, hnd, hdp0, hdp1, hd, hG, hK⟩ := hrel
        obtain rfl : k' = k := by injection hk' with _ e; omega
        have A1 := Lib.hid hd
        have A2 := Lib.hid hG
        have A3 := Lib.hid hK
        clear hk'
        by_cases hlt : k' < s.size
        case neg =>
          clear hd hG hK
          obtain rfl : k' = s.size := by omega
          go_wp2_with fail
          go_meet
          exact ⟨s.size, nd, sd, sg, g, dp, rfl, rfl, rfl, Nat.le_refl _, hnd, hdp0, hdp1, A1.out, A2.out, A3.out⟩
        case pos =>
          have c1 := hd.nd
          have c2 := hd.dp
          have z0 := hd.free 800
          have z1 := hd.free 801
          obtain ⟨c, hq⟩ : ∃ c, (s[k'].toNat : Int) = c := ⟨_, rfl⟩
          by_cases h95 : c = 95
          · subst h95
            clear hd hG hK
            go_wp2_with fail
            go_roundg (s.size - (k' + 1))
            case measure => omega
            case rel => exact ⟨⟨k' + 1, by go_num, rfl⟩, k' + 1, nd, sd, sg, g, dp, by go_num, rfl, rfl, by omega, by omega, by omega, by omega, A1.out, A2.out, A3.out⟩
          have g95 : (c == 95) = false := beq_eq_false_iff_ne.2 h95
          clear h95
          by_cases h46 : c = 46
          · subst h46
            clear hd hG hK
            cases sd
            · go_wp2_with fail
              go_roundg (s.size - (k' + 1))
              case measure => omega
              case rel => exact ⟨⟨k' + 1, by go_num, rfl⟩, k' + 1, nd, true, sg, g, nd, by go_num, rfl, rfl, by omega, by omega, by omega, by omega, A1.out.setDp _, A2.out, A3.out.setCell _ _⟩
            · go_wp2_with fail
              all_goals (go_ret; exact ⟨false, rfl, fun h => absurd h (by decide), A3.out⟩)
          have g46 : (c == 46) = false := beq_eq_false_iff_ne.2 h46
          by_cases hdg : 48 ≤ c ∧ c ≤ 57
          · obtain ⟨hd0, hd1⟩ := hdg
            clear h46
            by_cases hz : c = 48 ∧ nd = 0
            · obtain ⟨rfl, rfl⟩ := hz
              clear hd hG hK
              go_wp2_with fail
              go_roundg (s.size - (k' + 1))
              case measure => omega
              case rel => exact ⟨⟨k' + 1, by go_num, rfl⟩, k' + 1, 0, sd, true, g, dp - 1, by go_num, rfl, rfl, by omega, by omega, by omega, by omega, A1.out.setDp _, .inl rfl, A3.out.setCell _ _⟩
            · have HZ := Lib.hid hz
              by_cases h8 : nd < 800
              · have h8' : (nd : Int) < 800 := by omega
                have c4 := hd.dig nd h8
                have z4 := hd.free nd
                have HG2 := Lib.hid (good_add hG h8 hd0 hd1 hz)
                clear hd hG hK hz
                rcases Classical.em (c = 48) with h48 | h48
                · subst h48
                  have hnd0 : ((nd : Int) == 0) = false := beq_eq_false_iff_ne.2 (by have := HZ.out; omega)
                  go_wp2_with fail
                  go_region
                  go_wp2_with fail
                  go_roundg (s.size - (k' + 1))
                  case measure => omega
                  case rel => exact ⟨⟨k' + 1, by go_num, rfl⟩, k' + 1, nd + 1, sd, true, _, dp, by go_num, rfl, rfl, by omega, by omega, by omega, by omega, ((A1.out.setDig h8 _).setNd' (nd + 1) _ (by push_cast; rfl)).drew, .inr HG2.out, ((A3.out.setCell _ _).setCell _ _).drew⟩
                · have h48' : (c == 48) = false := beq_eq_false_iff_ne.2 h48
                  clear h48
                  go_wp2_with fail
                  go_region
                  go_wp2_with fail
                  go_roundg (s.size - (k' + 1))
                  case measure => omega
                  case rel => exact ⟨⟨k' + 1, by go_num, rfl⟩, k' + 1, nd + 1, sd, true, _, dp, by go_num, rfl, rfl, by omega, by omega, by omega, by omega, ((A1.out.setDig h8 _).setNd' (nd + 1) _ (by push_cast; rfl)).drew, .inr HG2.out, ((A3.out.setCell _ _).setCell _ _).drew⟩
              · have h8' : ¬ (nd : Int) < 800 := by omega
                have z4 := hd.free 803
                obtain ⟨tr, c4⟩ := hd.tr
                clear hd hG hK hz
                rcases Classical.em (c = 48) with h48 | h48
                · subst h48
                  have hnd0 : ((nd : Int) == 0) = false := beq_eq_false_iff_ne.2 (by omega)
                  go_wp2_with fail
                  go_roundg (s.size - (k' + 1))
                  case measure => omega
                  case rel => exact ⟨⟨k' + 1, by go_num, rfl⟩, k' + 1, nd, sd, true, g, dp, by go_num, rfl, rfl, by omega, by omega, by omega, by omega, A1.out, A2.out, A3.out⟩
                · have h48' : (c == 48) = false := beq_eq_false_iff_ne.2 h48
                  have h48'' : (c != 48) = true := bne_iff_ne.2 h48
                  clear h48
                  go_wp2_with fail
                  go_roundg (s.size - (k' + 1))
                  case measure => omega
                  case rel => exact ⟨⟨k' + 1, by go_num, rfl⟩, k' + 1, nd, sd, true, g, dp, by go_num, rfl, rfl, by omega, by omega, by omega, by omega, A1.out.setTr _, A2.out, A3.out.setCell _ _⟩
          · have hnd' : c < 48 ∨ 57 < c := by omega
            clear h46 hdg hd hG hK
            rcases hnd' with h | h
            · go_wp2_with fail
              go_meet
              exact ⟨k', nd, sd, sg, g, dp, rfl, rfl, rfl, hk, hnd, hdp0, hdp1, A1.out, A2.out, A3.out⟩
            · go_wp2_with fail
              go_meet
              exact ⟨k', nd, sd, sg, g, dp, rfl, rfl, rfl, hk, hnd, hdp0, hdp1, A1.out, A2.out, A3.out⟩
    case rest =>
      clear H HK0
      obtain ⟨k, nd, sd, sg, g, dp, rfl, rfl, rfl, hk, hnd, hdp0, hdp1, hd, hG, hK⟩ := hcut
      have A1 := Lib.hid hd
      have A2 := Lib.hid hG
      have A3 := Lib.hid hK
      have c1 := hd.nd
      have c2 := hd.dp
      have z1 := hd.free 801
      clear hd hG hK
      cases sg
      · go_wp2_with fail
        all_goals (go_ret; exact ⟨false, rfl, fun h => absurd h (by decide), A3.out⟩)
      go_upto_if 120 with fail
      go_cut [] from 121 to 127 (fun wx => ∃ dp1 : Int, DecAt wx b g nd dp1 ∧ Kept b w wx)
      case first =>
        cases sd
        · go_wp2_with fail
          go_meet
          exact ⟨_, A1.out.setDp _, A3.out.setCell _ _⟩
        · go_wp2_with fail
          go_meet
          exact ⟨_, A1.out, A3.out⟩
      case rest =>
        clear c1 c2 z1 A1 A3
        obtain ⟨dp1, hd, hK⟩ := hcut
        have A1 := Lib.hid hd
        have K3 := Lib.hid hK
        clear hd hK hdp0 hdp1
        by_cases hk2 : k < s.size
        case neg =>
          go_wp2_with fail
          all_goals (go_ret; first | exact ⟨true, rfl, fun _ => ⟨g, nd, dp1, A1.out, A2.out⟩, K3.out⟩ | exact ⟨false, rfl, fun h => absurd h (by decide), K3.out⟩)
        case pos =>
          obtain ⟨L, hL⟩ : ∃ L, bits .or .u8 (s[k].toNat : Int) 32 = L := ⟨_, rfl⟩
          cases hE : L == 101
          case false =>
            go_wp2_with (go_at_call 160; refine (lower_any _ _).mono ?_; rintro e w1 ⟨rfl, rfl⟩)
            all_goals (go_ret; first | exact ⟨true, rfl, fun _ => ⟨g, nd, dp1, A1.out, A2.out⟩, K3.out⟩ | exact ⟨false, rfl, fun h => absurd h (by decide), K3.out⟩)
          case true =>
            by_cases hk3 : k + 1 < s.size
            case neg =>
              have hk3' : ¬ (k : Int) + 1 < (s.size : Int) := by omega
              go_wp2_with (go_at_call 160; refine (lower_any _ _).mono ?_; rintro e w1 ⟨rfl, rfl⟩)
              all_goals (go_ret; exact ⟨false, rfl, fun h => absurd h (by decide), K3.out⟩)
            case pos =>
              have hk3' : (k : Int) + 1 < (s.size : Int) := by omega
              go_upto_if 138 with (go_at_call 160; refine (lower_any _ _).mono ?_; rintro e w1 ⟨rfl, rfl⟩)
              go_cut [5] from 121 to 219 (fun a5 wx => ∃ (q : Nat) (dp2 : Int), a5 = .int .i64 q ∧ DecAt wx b g nd dp2 ∧ Kept b w wx)
              case rest =>
                clear A1 K3 hk2 hk3 hk3' hL hE
                obtain ⟨q, dp2, rfl, hd, hK⟩ := hcut
                have A1 := Lib.hid hd
                have K3 := Lib.hid hK
                clear hd hK
                go_wp2_with fail
                all_goals (go_ret; first | exact ⟨true, rfl, fun _ => ⟨g, nd, dp2, A1.out, A2.out⟩, K3.out⟩ | exact ⟨false, rfl, fun h => absurd h (by decide), K3.out⟩)
              case first =>
                go_upto_block 4 with fail
                go_cut [5, 8] from 148 to 155 (fun a5 a8 wx => ∃ (j : Nat) (es : Int), a5 = .int .i64 j ∧ a8 = .int .i64 es ∧ k + 1 ≤ j ∧ j ≤ k + 2 ∧ wx = wc)
                case first =>
                  go_wp2_with fail
                  all_goals
                    go_meet
                    first
                      | exact ⟨k + 2, 1, by go_num, rfl, by omega, by omega, rfl⟩
                      | exact ⟨k + 2, -1, by go_num, rfl, by omega, by omega, rfl⟩
                      | exact ⟨k + 1, 1, by go_num, rfl, by omega, by omega, rfl⟩
                case rest =>
                  obtain ⟨j, es, rfl, rfl, hj0, hj1, rfl⟩ := hcut
                  by_cases hj : j < s.size
                  case neg =>
                    have hj' : ¬ (j : Int) < (s.size : Int) := by omega
                    go_wp2_with fail
                    all_goals (go_ret; exact ⟨false, rfl, fun h => absurd h (by decide), K3.out⟩)
                  case pos =>
                    obtain ⟨c, hq⟩ : ∃ c, (s[j].toNat : Int) = c := ⟨_, rfl⟩
                    by_cases hc0 : c < 48
                    · go_wp2_with fail
                      all_goals (go_ret; exact ⟨false, rfl, fun h => absurd h (by decide), K3.out⟩)
                    by_cases hc1 : 57 < c
                    · go_wp2_with fail
                      all_goals (go_ret; exact ⟨false, rfl, fun h => absurd h (by decide), K3.out⟩)
                    have hc0' : 48 ≤ c := by omega
                    have hc1' : c ≤ 57 := by omega
                    go_upto_block 5 with fail
                    go_cut [5, 9] from 156 to 209 (fun a5 a9 wx => ∃ q e : Nat, a5 = .int .i64 q ∧ a9 = .int .i64 e ∧ q ≤ s.size ∧ e ≤ 99999 ∧ wx = wc)
                    case first =>
                      go_wp2_with fail
                      go_loop [5, 9] (fun a5 a9 => ∃ q e : Nat, a5 = .int .i64 q ∧ a9 = .int .i64 e ∧ q ≤ s.size ∧ e ≤ 99999) (fun a5 _ => s.size - (intOf a5).toNat)
                      case atStart => exact ⟨j, 0, rfl, rfl, by omega, by decide⟩
                      case round =>
                        clear hq hj
                        obtain ⟨q, e, rfl, rfl, hq0, he0⟩ := hrel
                        by_cases hql : q < s.size
                        case neg =>
                          have hql' : ¬ (q : Int) < (s.size : Int) := by omega
                          go_wp2_with fail
                          go_meet
                          exact ⟨q, e, rfl, rfl, hq0, he0, rfl⟩
                        case pos =>
                          obtain ⟨d, hqd⟩ : ∃ d, (s[q].toNat : Int) = d := ⟨_, rfl⟩
                          by_cases h95 : d = 95
                          · subst h95
                            go_wp2_with fail
                            go_round
                            case rel => exact ⟨q + 1, e, by go_num, rfl, by omega, he0⟩
                            case measure => simp [intOf]; omega
                          have g95 : (d == 95) = false := beq_eq_false_iff_ne.2 h95
                          clear h95
                          by_cases hd0 : d < 48
                          · go_wp2_with fail
                            go_meet
                            exact ⟨q, e, rfl, rfl, hq0, he0, rfl⟩
                          by_cases hd1 : 57 < d
                          · go_wp2_with fail
                            go_meet
                            exact ⟨q, e, rfl, rfl, hq0, he0, rfl⟩
                          have hd0' : 48 ≤ d := by omega
                          have hd1' : d ≤ 57 := by omega
                          by_cases he1 : e < 10000
                          · have he1' : (e : Int) < 10000 := by omega
                            go_wp2_with fail
                            go_round
                            case rel => exact ⟨q + 1, (e * 10 + d - 48).toNat, by go_num, by rw [Int.toNat_of_nonneg (by omega)], by omega, by omega⟩
                            case measure => simp [intOf]; omega
                          · have he1' : ¬ (e : Int) < 10000 := by omega
                            go_wp2_with fail
                            go_round
                            case rel => exact ⟨q + 1, e, by go_num, rfl, by omega, he0⟩
                            case measure => simp [intOf]; omega
                    case rest =>
                      obtain ⟨q, e, rfl, rfl, hq0, he0, rfl⟩ := hcut
                      have c2 := A1.out.dp
                      have z1 := A1.out.free 801
                      go_wp2_with fail
                      go_meet
                      exact ⟨q, _, rfl, A1.out.setDp _, K3.out.setCell _ _⟩
end Go.Proofs.YtaecbclonmhbcaaGreatDoor

namespace Go.Proofs.YtaecbclonmhbcaaGreatDoor
open Go.RowKit
set_option maxHeartbeats 8000000 in
set_option maxRecDepth 100000 in
theorem atof64_all (s : ByteArray) (w : World) (hs : s.size ≤ 100000) (hF : FlT w) :
    Calls Tryz.prog 165 #[.string s] w (FlPost .f64 s w) := by
  have HS := Lib.hid (special_all s w hs)
  have HR := Lib.hid (readFloat_all s w hs)
  have HF := Lib.hid hF
  have HK0 := Lib.hid (Kept.refl w.heap.size w)
  obtain ⟨y, c7⟩ := hF.opt
  clear hF
  go_enter Tryz.func165, Tryz.ntmps165
  go_upto_if 32 with (go_at_call 169; refine HS.out.mono ?_; rintro e w1 ⟨x0, n0, ok0, rfl, hn0, hn1, rfl⟩)
  cases ok0
  case true =>
    obtain ⟨k0, rfl⟩ := Int.eq_ofNat_of_zero_le hn0
    have hk0 : k0 ≤ s.size := by omega
    clear hn0 hn1
    go_wp2_with fail
    all_goals (exact bodyPost_ret (results_three rfl _ _ _) rfl ⟨_, k0, _, rfl, hk0, .inl rfl, HK0.out⟩)
  clear hn0 hn1
  go_upto_if 46 with (go_at_call 170; refine HR.out.mono ?_; rintro e w1 ⟨m, exp, neg, tr, hex, i, ok, rfl, hm0, hm1, hm2, he0, he1, hi, rfl⟩)
  cases ok
  · go_wp2
    all_goals (refine bodyPost_ret (v := .tuple #[.float .f64 0, .int .i64 i, .iface 170 (.int .i64 2)]) (by simp [results, Tryz.results165, go_sem]) rfl ⟨0, i, _, rfl, hi, .inr (.inr rfl), HK0.out⟩)
  cases hex
  case true =>
    have HX := Lib.hid (hex_64 (s.extract 0 i) w m exp neg tr hm0 hm1 HF.out)
    go_wp2_with (go_at_call 171; refine HX.out.mono ?_; rintro e w1 ⟨x1, er, k1, rfl, her, rfl⟩; have HER := Lib.hid her; clear her)
    all_goals (exact bodyPost_ret (results_three rfl _ _ _) rfl ⟨_, i, _, rfl, hi, HER.out, HK0.out.drewN _⟩)
  have hm3 : m < 10000000000000000000 := hm2 rfl
  clear hm2
  go_upto_if 64 with fail
  go_cut [3, 4] from 65 to 124 (fun a3 a4 wx => a3 = .int .i64 i ∧ a4 = .nilIface ∧ Kept w.heap.size w wx)
  case first =>
    cases y
    · go_wp2_with fail
      go_meet
      exact ⟨rfl, rfl, HK0.out⟩
    have hfb := frombits_run
    obtain ⟨sg, hsg⟩ : ∃ sg, IntKind.u64.wrap (b2 neg * 9223372036854775808) = sg := ⟨_, rfl⟩
    by_cases hmz : m = 0
    · subst hmz
      go_wp2_with (go_at_call 178; refine (bool2_any _ _).mono ?_; rintro e w1 ⟨rfl, rfl⟩)
      all_goals (exact bodyPost_ret (results_three rfl _ _ _) rfl ⟨_, i, _, rfl, hi, .inl rfl, HK0.out⟩)
    have g0 : (m == 0) = false := beq_eq_false_iff_ne.2 hmz
    by_cases h310 : 310 < exp
    · go_wp2_with (go_at_call 178; refine (bool2_any _ _).mono ?_; rintro e w1 ⟨rfl, rfl⟩)
      all_goals (exact bodyPost_ret (results_three rfl _ _ _) rfl ⟨_, i, _, rfl, hi, .inr (.inl rfl), HK0.out⟩)
    by_cases h345 : exp < -345
    · go_wp2_with (go_at_call 178; refine (bool2_any _ _).mono ?_; rintro e w1 ⟨rfl, rfl⟩)
      all_goals (exact bodyPost_ret (results_three rfl _ _ _) rfl ⟨_, i, _, rfl, hi, .inl rfl, HK0.out⟩)
    have hw1 : IntKind.u64.wrap (m + 1) = m + 1 := u64_id _ (by omega) (by omega)
    cases tr
    · have HX : Hid (Calls Tryz.prog 180 #[.int .u64 m, .int .i64 exp, .bool neg] w (SomeFB .f64 w)) := by
        obtain ⟨T, hT⟩ := HF.out.p64
        exact exact64_any w m exp neg HF.out.i64.1 T hT
      have HP1 := Lib.hid (fun n => pf64_any (w.drewN n) (HF.out.kept (HK0.out.drewN n) (Nat.le_refl _)) m exp sg (by omega) (by omega) (by omega) (by omega))
      go_wp2_with (first
        | (go_at_call 178; refine (bool2_any _ _).mono ?_; rintro e w1 ⟨rfl, rfl⟩)
        | (go_at_call 180; refine HX.out.mono ?_; rintro e w1 ⟨f, ok, n, rfl, rfl⟩; cases ok)
        | (go_at_call 181; refine (HP1.out _).mono ?_; rintro e w1 ⟨f, r, rfl, hk⟩; have HKA := Lib.hid hk; have HRE := Lib.hid (rangeV_err r); clear hk))
      all_goals first
        | exact bodyPost_ret (results_three rfl _ _ _) rfl ⟨_, i, _, rfl, hi, HRE.out, (HK0.out.drewN _).trans HKA.out⟩
        | exact bodyPost_ret (results_three rfl _ _ _) rfl ⟨_, i, _, rfl, hi, .inl rfl, HK0.out.drewN _⟩
    · have HP1 := Lib.hid (pf64_any w HF.out m exp sg (by omega) (by omega) (by omega) (by omega))
      have hfq := run_feq .f64
      have HP2 : Hid (∀ W, Kept w.heap.size w W → Calls Tryz.prog 181 #[.int .u64 (m + 1), .int .i64 exp, .int .u64 sg] W (PfPost .f64 W)) := fun W hW =>
        pf64_any W (HF.out.kept hW (Nat.le_refl _)) (m + 1) exp sg (by omega) (by omega) (by omega) (by omega)
      go_wp2_with (first
        | (go_at_call 178; refine (bool2_any _ _).mono ?_; rintro e w1 ⟨rfl, rfl⟩)
        | (go_at_call 181; refine (HP2.out _ HKA.out).mono ?_; rintro e w2 ⟨f2, r2, rfl, hk⟩; have HKB := Lib.hid (HKA.out.into hk rfl); clear hk)
        | (go_at_call 181; refine HP1.out.mono ?_; rintro e w1 ⟨f, r, rfl, hk⟩; have HKA := Lib.hid hk; have HRE := Lib.hid (rangeV_err r); clear hk))
      all_goals first
        | (go_meet; exact ⟨rfl, rfl, HKB.out⟩)
        | exact bodyPost_ret (results_three rfl _ _ _) rfl ⟨_, i, _, rfl, hi, HRE.out, HKB.out⟩
  case rest =>
    obtain ⟨rfl, rfl, hcut⟩ := hcut
    have HKC := Lib.hid hcut
    clear hcut
    have hes : (s.extract 0 i).size ≤ 100000 := by rw [ByteArray.size_extract]; omega
    have HST := Lib.hid (set_all wc.heap.size (s.extract 0 i) (fun _ => 0) (wc.alloc (.cells decRow 213 (0, 0))) (dec_new wc) hes)
    have HFW := Lib.hid (HF.out.kept HKC.out (Nat.le_refl _))
    have hal := alloc_dec wc
    have hfb := frombits_run
    clear hes
    go_wp2_with (first
      | (go_at_call 176; refine HST.out.mono ?_; rintro e w3 ⟨ok, rfl, hd, hk⟩; have HD3 := Lib.hid hd; have HK3 := Lib.hid (((Kept.refl wc.heap.size wc).alloc _).trans hk); clear hd hk; cases ok)
      | (go_at_call 177; refine (fb64_of wc w3 HFW.out HK3.out (HD3.out (by trivial))).mono ?_; rintro e w4 ⟨y, o, rfl, hk⟩; have HK4 := Lib.hid (HKC.out.into (HK3.out.trans hk) rfl); clear hk; cases o))
    all_goals first
      | exact bodyPost_ret (results_three rfl _ _ _) rfl ⟨_, i, _, rfl, hi, .inl rfl, HK4.out⟩
      | exact bodyPost_ret (results_three rfl _ _ _) rfl ⟨_, i, _, rfl, hi, .inr (.inl rfl), HK4.out⟩
      | exact bodyPost_ret (results_three rfl _ _ _) rfl ⟨_, i, _, rfl, hi, .inr (.inr rfl), HKC.out.into HK3.out rfl⟩
      | trace_state
set_option maxHeartbeats 8000000 in
set_option maxRecDepth 100000 in
theorem atof32_all (s : ByteArray) (w : World) (hs : s.size ≤ 100000) (hF : FlT w) :
    Calls Tryz.prog 164 #[.string s] w (FlPost .f32 s w) := by
  have HS := Lib.hid (special_all s w hs)
  have HR := Lib.hid (readFloat_all s w hs)
  have HF := Lib.hid hF
  have HK0 := Lib.hid (Kept.refl w.heap.size w)
  obtain ⟨y, c7⟩ := hF.opt
  clear hF
  go_enter Tryz.func164, Tryz.ntmps164
  go_upto_if 32 with (go_at_call 169; refine HS.out.mono ?_; rintro e w1 ⟨x0, n0, ok0, rfl, hn0, hn1, rfl⟩)
  cases ok0
  case true =>
    obtain ⟨k0, rfl⟩ := Int.eq_ofNat_of_zero_le hn0
    have hk0 : k0 ≤ s.size := by omega
    clear hn0 hn1
    have hnf := run_narrowF
    go_wp2_with fail
    all_goals (exact bodyPost_ret (results_three rfl _ _ _) rfl ⟨_, k0, _, rfl, hk0, .inl rfl, HK0.out.drewN _⟩)
  clear hn0 hn1
  go_upto_if 47 with (go_at_call 170; refine HR.out.mono ?_; rintro e w1 ⟨m, exp, neg, tr, hex, i, ok, rfl, hm0, hm1, hm2, he0, he1, hi, rfl⟩)
  cases ok
  · go_wp2
    all_goals (refine bodyPost_ret (v := .tuple #[.float .f32 0, .int .i64 i, .iface 170 (.int .i64 2)]) (by simp [results, Tryz.results164, go_sem]) rfl ⟨0, i, _, rfl, hi, .inr (.inr rfl), HK0.out⟩)
  cases hex
  case true =>
    have HX := Lib.hid (hex_32 (s.extract 0 i) w m exp neg tr hm0 hm1 HF.out)
    have hnf := run_narrowF
    go_wp2_with (go_at_call 171; refine HX.out.mono ?_; rintro e w1 ⟨x1, er, k1, rfl, her, rfl⟩; have HER := Lib.hid her; clear her)
    all_goals (exact bodyPost_ret (results_three rfl _ _ _) rfl ⟨_, i, _, rfl, hi, HER.out, HK0.out.drewN _⟩)
  have hm3 : m < 10000000000000000000 := hm2 rfl
  clear hm2
  go_upto_if 66 with fail
  go_cut [3, 4] from 67 to 126 (fun a3 a4 wx => a3 = .int .i64 i ∧ a4 = .nilIface ∧ Kept w.heap.size w wx)
  case first =>
    cases y
    · go_wp2_with fail
      go_meet
      exact ⟨rfl, rfl, HK0.out⟩
    have hfb := frombits32_run
    obtain ⟨sg, hsg⟩ : ∃ sg, IntKind.u32.wrap (b2 neg * 2147483648) = sg := ⟨_, rfl⟩
    by_cases hmz : m = 0
    · subst hmz
      go_wp2_with (go_at_call 172; refine (bool2s_any _ _).mono ?_; rintro e w1 ⟨rfl, rfl⟩)
      all_goals (exact bodyPost_ret (results_three rfl _ _ _) rfl ⟨_, i, _, rfl, hi, .inl rfl, HK0.out⟩)
    have g0 : (m == 0) = false := beq_eq_false_iff_ne.2 hmz
    by_cases h310 : 40 < exp
    · go_wp2_with (go_at_call 172; refine (bool2s_any _ _).mono ?_; rintro e w1 ⟨rfl, rfl⟩)
      all_goals (exact bodyPost_ret (results_three rfl _ _ _) rfl ⟨_, i, _, rfl, hi, .inr (.inl rfl), HK0.out⟩)
    by_cases h345 : exp < -70
    · go_wp2_with (go_at_call 172; refine (bool2s_any _ _).mono ?_; rintro e w1 ⟨rfl, rfl⟩)
      all_goals (exact bodyPost_ret (results_three rfl _ _ _) rfl ⟨_, i, _, rfl, hi, .inl rfl, HK0.out⟩)
    have hw1 : IntKind.u64.wrap (m + 1) = m + 1 := u64_id _ (by omega) (by omega)
    cases tr
    · have HX : Hid (Calls Tryz.prog 174 #[.int .u64 m, .int .i64 exp, .bool neg] w (SomeFB .f32 w)) := by
        obtain ⟨T, hT⟩ := HF.out.p32
        exact exact32_any w m exp neg T hT
      have HP1 := Lib.hid (fun n => pf32_any (w.drewN n) (HF.out.kept (HK0.out.drewN n) (Nat.le_refl _)) m exp sg (by omega) (by omega) (by omega) (by omega))
      go_wp2_with (first
        | (go_at_call 172; refine (bool2s_any _ _).mono ?_; rintro e w1 ⟨rfl, rfl⟩)
        | (go_at_call 174; refine HX.out.mono ?_; rintro e w1 ⟨f, ok, n, rfl, rfl⟩; cases ok)
        | (go_at_call 175; refine (HP1.out _).mono ?_; rintro e w1 ⟨f, r, rfl, hk⟩; have HKA := Lib.hid hk; have HRE := Lib.hid (rangeV_err r); clear hk))
      all_goals first
        | exact bodyPost_ret (results_three rfl _ _ _) rfl ⟨_, i, _, rfl, hi, HRE.out, (HK0.out.drewN _).trans HKA.out⟩
        | exact bodyPost_ret (results_three rfl _ _ _) rfl ⟨_, i, _, rfl, hi, .inl rfl, HK0.out.drewN _⟩
    · have HP1 := Lib.hid (pf32_any w HF.out m exp sg (by omega) (by omega) (by omega) (by omega))
      have hfq := run_feq .f32
      have HP2 : Hid (∀ W, Kept w.heap.size w W → Calls Tryz.prog 175 #[.int .u64 (m + 1), .int .i64 exp, .int .u32 sg] W (PfPost .f32 W)) := fun W hW =>
        pf32_any W (HF.out.kept hW (Nat.le_refl _)) (m + 1) exp sg (by omega) (by omega) (by omega) (by omega)
      go_wp2_with (first
        | (go_at_call 172; refine (bool2s_any _ _).mono ?_; rintro e w1 ⟨rfl, rfl⟩)
        | (go_at_call 175; refine (HP2.out _ HKA.out).mono ?_; rintro e w2 ⟨f2, r2, rfl, hk⟩; have HKB := Lib.hid (HKA.out.into hk rfl); clear hk)
        | (go_at_call 175; refine HP1.out.mono ?_; rintro e w1 ⟨f, r, rfl, hk⟩; have HKA := Lib.hid hk; have HRE := Lib.hid (rangeV_err r); clear hk))
      all_goals first
        | (go_meet; exact ⟨rfl, rfl, HKB.out⟩)
        | exact bodyPost_ret (results_three rfl _ _ _) rfl ⟨_, i, _, rfl, hi, HRE.out, HKB.out⟩
  case rest =>
    obtain ⟨rfl, rfl, hcut⟩ := hcut
    have HKC := Lib.hid hcut
    clear hcut
    have hes : (s.extract 0 i).size ≤ 100000 := by rw [ByteArray.size_extract]; omega
    have HST := Lib.hid (set_all wc.heap.size (s.extract 0 i) (fun _ => 0) (wc.alloc (.cells decRow 213 (0, 0))) (dec_new wc) hes)
    have HFW := Lib.hid (HF.out.kept HKC.out (Nat.le_refl _))
    have hal := alloc_dec wc
    have hfb := frombits32_run
    clear hes
    go_wp2_with (first
      | (go_at_call 176; refine HST.out.mono ?_; rintro e w3 ⟨ok, rfl, hd, hk⟩; have HD3 := Lib.hid hd; have HK3 := Lib.hid (((Kept.refl wc.heap.size wc).alloc _).trans hk); clear hd hk; cases ok)
      | (go_at_call 177; refine (fb32_of wc w3 HFW.out HK3.out (HD3.out (by trivial))).mono ?_; rintro e w4 ⟨y, o, rfl, hk⟩; have HK4 := Lib.hid (HKC.out.into (HK3.out.trans hk) rfl); clear hk; cases o))
    all_goals first
      | exact bodyPost_ret (results_three rfl _ _ _) rfl ⟨_, i, _, rfl, hi, .inl rfl, HK4.out⟩
      | exact bodyPost_ret (results_three rfl _ _ _) rfl ⟨_, i, _, rfl, hi, .inr (.inl rfl), HK4.out⟩
      | exact bodyPost_ret (results_three rfl _ _ _) rfl ⟨_, i, _, rfl, hi, .inr (.inr rfl), HKC.out.into HK3.out rfl⟩
      | trace_state
end Go.Proofs.YtaecbclonmhbcaaGreatDoor

namespace Go.Proofs.YtaecbclonmhbcaaGreatDoor
open Go.RowKit
structure EncAt (w : World) (e : Nat) : Prop where
  dm : ∀ c : Nat, c < 256 → ∃ v : Nat, v ≤ 255 ∧ w.cell? ⟨e, 64 + c, none⟩ = some (.int .u8 v)
  pad : w.cell? ⟨e, 320, none⟩ = some (.int .i32 61)
  strict : w.cell? ⟨e, 321, none⟩ = some (.bool false)
theorem EncAt.keep {w w' : World} {e : Nat} (h : EncAt w e) (hk : w'.heap[e]? = w.heap[e]?) : EncAt w' e := by
  have hc : ∀ i, w'.cell? ⟨e, i, none⟩ = w.cell? ⟨e, i, none⟩ := fun i => by simp [World.cell?, hk]
  refine ⟨fun c hcc => ?_, by rw [hc]; exact h.pad, by rw [hc]; exact h.strict⟩
  obtain ⟨v, h1, h2⟩ := h.dm c hcc
  exact ⟨v, h1, by rw [hc]; exact h2⟩
noncomputable def encC0 : Array Value := Tryz.zeroCells153
theorem slice64 (b : Nat) (W : World) : (Instr.sliceAt 150 (.pointer (some ⟨b, 0, none⟩)) none none none).run Tryz.prog W = .ok (.slice (some ⟨b, 0, none⟩) 64 64) W := by
  show _ = _
  kernel_rfl
theorem slice256 (b : Nat) (W : World) : (Instr.sliceAt 151 (.pointer (some ⟨b, 64, none⟩)) none none none).run Tryz.prog W = .ok (.slice (some ⟨b, 64, none⟩) 256 256) W := by
  show _ = _
  kernel_rfl
def alS : ByteArray := ⟨#[65, 66, 67, 68, 69, 70, 71, 72, 73, 74, 75, 76, 77, 78, 79, 80, 81, 82, 83, 84, 85, 86, 87, 88, 89, 90, 97, 98, 99, 100, 101, 102, 103, 104, 105, 106, 107, 108, 109, 110, 111, 112, 113, 114, 115, 116, 117, 118, 119, 120, 121, 122, 48, 49, 50, 51, 52, 53, 54, 55, 56, 57, 43, 47]⟩
def alN (k : Nat) : Nat := (alS.data.toList.getD k 0).toNat
theorem al_good : ((List.range 64).all fun k => decide (alN k < 256) && alN k != 10 && alN k != 13 && (List.range k).all fun j => alN j != alN k) = true := by kernel_rfl
theorem al_k {k : Nat} (h : k < 64) : alN k < 256 ∧ alN k ≠ 10 ∧ alN k ≠ 13 ∧ ∀ j, j < k → alN j ≠ alN k := by
  have := List.all_eq_true.1 al_good k (List.mem_range.2 h)
  simp only [Bool.and_eq_true, decide_eq_true_eq, bne_iff_ne, List.all_eq_true] at this
  exact ⟨this.1.1.1, this.1.1.2, this.1.2, fun j hj => this.2 j (List.mem_range.2 hj)⟩
theorem al_index (k : Nat) (h : k < 64) (W : World) : (Instr.index 9 (.string alS) (.int .i64 k)).run Tryz.prog W = .ok (.int .u8 (alN k)) W := by
  have hs : alS.size = 64 := rfl
  have hk : k < alS.data.toList.length := h
  have e : alN k = (alS[k]'h).toNat := by
    unfold alN
    rw [List.getD_eq_getElem?_getD, List.getElem?_eq_getElem hk]
    rfl
  simp [Instr.index, asIntOf, run_underlying Tryz.underlying9, hs, e, h]
  rfl
noncomputable def encC1 : Array Value := encC0.setIfInBounds 320 (.int .i32 61)
noncomputable def encC2 : Array Value := (encC1.toList.take 0 ++ Lib.byteCells alS.data.toList ++ encC1.toList.drop (0 + alS.size)).toArray
def mapS : ByteArray := ⟨(List.replicate 256 (255 : UInt8)).toArray⟩
noncomputable def encC3 : Array Value := (encC2.toList.take 64 ++ Lib.byteCells mapS.data.toList ++ encC2.toList.drop (64 + mapS.size)).toArray
theorem c1_size : encC1.size = 322 := by kernel_rfl
theorem c2_size : encC2.size = 322 := by kernel_rfl
theorem map_size : mapS.size = 256 := by kernel_rfl
theorem c3_dm : ((List.range 256).all fun c => match encC3[64 + c]? with | some (.int .u8 255) => true | _ => false) = true := by kernel_rfl
theorem c3_at {c : Nat} (h : c < 256) : encC3[64 + c]? = some (.int .u8 255) := by
  have := List.all_eq_true.1 c3_dm c (List.mem_range.2 h)
  revert this
  generalize encC3[64 + c]? = o
  intro this
  match o, this with
  | some (.int .u8 255), _ => rfl
theorem c3_pad : encC3[320]? = some (.int .i32 61) := by kernel_rfl
theorem c3_strict : encC3[321]? = some (.bool false) := by kernel_rfl
structure EncI (w wr : World) (e k : Nat) : Prop where
  dm : ∀ c : Nat, c < 256 → ∃ v : Nat, v ≤ 255 ∧ wr.cell? ⟨e, 64 + c, none⟩ = some (.int .u8 v) ∧ ((∀ j, j < k → alN j ≠ c) → v = 255)
  pad : wr.cell? ⟨e, 320, none⟩ = some (.int .i32 61)
  strict : wr.cell? ⟨e, 321, none⟩ = some (.bool false)
  free : ∀ i, wr.frozen? ⟨e, i, none⟩ = false
  below : Below e w wr
theorem EncI.step {w wr : World} {e k : Nat} (h : EncI w wr e k) (hk : k < 64) (n : Nat) : EncI w ((wr.drewN n).setCell ⟨e, 64 + alN k, none⟩ (.int .u8 k)) e (k + 1) := by
  have g0 := (al_k hk).1
  refine ⟨fun c hcc => ?_, cell_set_other (w := wr.drewN n) h.pad (by omega), cell_set_other (w := wr.drewN n) h.strict (by omega), free_set (w := wr.drewN n) h.free, h.below.trans ⟨rfl, rfl, rfl, by simp, fun j hj => heap_setCell_other (w := wr.drewN n) _ _ (by omega)⟩⟩
  obtain ⟨v, h1, h2, h3⟩ := h.dm c hcc
  by_cases hx : alN k = c
  · subst hx
    exact ⟨k, by omega, cell_set_same (w := wr.drewN n) h2, fun hj => absurd rfl (hj k (by omega))⟩
  · exact ⟨v, h1, cell_set_other (w := wr.drewN n) h2 (by omega), fun hj => h3 fun j hjk => hj j (by omega)⟩
theorem copy_al {W : World} {g : Nat} (h : W.heap[g]? = some (.cells encC1 153 (0, 0))) (ty : TypeId) :
    (Builtin.copy_ #[22, 9] ty #[.slice (some ⟨g, 0, none⟩) 64 64, .string alS]).run Tryz.prog W = .ok (goInt alS.size) (W.setRow g encC2) :=
  Lib.run_copy_row_string (P := Tryz.prog) W 22 9 ty 5 g 0 64 64 alS encC1 153 Tryz.underlying22 (by kernel_rfl) h (by decide) (by rw [c1_size]; decide)
theorem copy_map {W : World} {g : Nat} (h : W.heap[g]? = some (.cells encC2 153 (0, 0))) (ty : TypeId) :
    (Builtin.copy_ #[22, 9] ty #[.slice (some ⟨g, 64, none⟩) 256 256, .string mapS]).run Tryz.prog W = .ok (goInt mapS.size) (W.setRow g encC3) :=
  Lib.run_copy_row_string (P := Tryz.prog) W 22 9 ty 5 g 64 256 256 mapS encC2 153 Tryz.underlying22 (by kernel_rfl) h (by rw [map_size]; decide) (by rw [map_size, c2_size]; decide)
set_option maxHeartbeats 4000000 in
set_option maxRecDepth 100000 in
theorem newEnc_any (w : World) : Calls Tryz.prog 135 #[.string alS] w fun e w' => e = .returned (.pointer (some ⟨w.heap.size, 0, none⟩)) ∧ EncAt w' w.heap.size ∧ Below w.heap.size w w' ∧ w.heap.size < w'.heap.size := by
  have hs64 := slice64 w.heap.size
  have hs256 := slice256 w.heap.size
  have h2 : (w.alloc (.cells encC1 153 (0, 0))).heap[w.heap.size]? = some (.cells encC1 153 (0, 0)) := heap_alloc_new w _
  have h3 := setRow_heap _ w.heap.size encC1 encC2 153 (0, 0) h2
  have h4 := setRow_heap _ w.heap.size encC2 encC3 153 (0, 0) h3
  have hb0 : Below w.heap.size w ((w.alloc (.cells encC1 153 (0, 0))).setRow w.heap.size encC2 |>.setRow w.heap.size encC3) :=
    below_setRow (below_setRow ((Below.refl _ _).alloc (Nat.le_refl _) _) (Nat.le_refl _) _) (Nat.le_refl _) _
  obtain ⟨W2, hW2⟩ : ∃ W2, W2 = (w.alloc (.cells encC1 153 (0, 0))).setRow w.heap.size encC2 := ⟨_, rfl⟩
  rw [← hW2] at h3 h4 hb0
  obtain ⟨W3, hW3⟩ : ∃ W3, W3 = W2.setRow w.heap.size encC3 := ⟨_, rfl⟩
  have hcp1 : (Builtin.copy_ #[22, 9] 3 #[.slice (some ⟨w.heap.size, 0, none⟩) 64 64, .string alS]).run Tryz.prog (w.alloc (.cells (Tryz.zeroCells153.setIfInBounds 320 (.int .i32 61)) 153 (0, 0))) = .ok (goInt alS.size) W2 := by rw [hW2]; exact copy_al h2 3
  have hcp2 : ∀ B, B = mapS → (Builtin.copy_ #[22, 9] 3 #[.slice (some ⟨w.heap.size, 64, none⟩) 256 256, .string B]).run Tryz.prog W2 = .ok (goInt mapS.size) W3 := by
    intro B hB
    rw [hB, hW3]
    exact copy_map h3 3
  have HCP2 := Lib.hid hcp2
  rw [← hW3] at h4 hb0
  have HI : RowKit.Hid (EncI w W3 w.heap.size 0) :=
    ⟨fun c hc => ⟨255, by decide, cell_of_heap h4 _ (c3_at hc), fun _ => rfl⟩, cell_of_heap h4 _ c3_pad, cell_of_heap h4 _ c3_strict, fun i => free_of_heap h4 i, hb0⟩
  clear h2 h3 h4 hb0 hcp2 hW2 hW3
  have hsz : (alS.size : Int) = 64 := rfl
  go_enter Tryz.func135, Tryz.ntmps135
  go_wp2
  rw [HCP2.out _ (by show _ = _; kernel_rfl)]
  clear hs64 hs256 hcp1 HCP2
  go_wp2
  go_loopw [4] (fun i wr => ∃ k : Nat, i = .int .i64 k ∧ k ≤ 64 ∧ EncI w wr w.heap.size k) (fun i _ => 64 - (intOf i).toNat)
  case atStart => exact ⟨0, rfl, by decide, HI.out⟩
  case round =>
    obtain ⟨k, rfl, hk, hI⟩ := hrel
    have HK := Lib.hid hI
    by_cases hlt : k < 64
    case neg =>
      obtain rfl : k = 64 := by omega
      clear hI
      go_wp2
      go_ret
      exact ⟨rfl, ⟨fun c hc => by obtain ⟨v, h1, h2, -⟩ := HK.out.dm c hc; exact ⟨v, h1, h2⟩, HK.out.pad, HK.out.strict⟩, HK.out.below, by have := World.block_lt_of_cell? _ _ HK.out.pad; exact this⟩
    case pos =>
      obtain ⟨g0, g1, g2, g3⟩ := al_k hlt
      have hix := al_index k hlt
      obtain ⟨v, hv, hc, hv'⟩ := hI.dm _ g0
      obtain rfl := hv' (fun j hj e => g3 j hj e)
      have hfr := hI.free (64 + alN k)
      have hw : IntKind.u8.wrap (k : Int) = k := IntWalk.u8_in _ (by omega)
      have n10 : ((alN k : Int) == 10) = false := beq_eq_false_iff_ne.2 (by omega)
      have n13 : ((alN k : Int) == 13) = false := beq_eq_false_iff_ne.2 (by omega)
      have hc' : wr.cell? ⟨w.heap.size, 64 + alN k, none⟩ = some (.int .u8 255) := hc
      clear hI hv hv' hc
      go_wp2
      go_quiet (fail)
      go_wp2
      go_region
      go_wp2
      go_roundw
      case rel => exact ⟨k + 1, by go_num, by omega, HK.out.step hlt _⟩
      case measure => simp [intOf]; omega
end Go.Proofs.YtaecbclonmhbcaaGreatDoor

namespace Go.Proofs.YtaecbclonmhbcaaGreatDoor
open Go.RowKit
set_option maxHeartbeats 1000000 in
set_option maxRecDepth 100000 in
theorem stdEnc_any (w : World) : Calls Tryz.prog 112 #[] w fun e w' => e = .returned (.pointer (some ⟨w.heap.size, 0, none⟩)) ∧ EncAt w' w.heap.size ∧ Below w.heap.size w w' ∧ w.heap.size < w'.heap.size := by
  go_enter Tryz.func112, Tryz.ntmps112
  go_wp2_with (go_at_call 135; refine (newEnc_any _).mono ?_; rintro e w1 ⟨rfl, h1, h2, h3⟩)
  go_ret
  exact ⟨rfl, h1, h2, h3⟩
set_option maxHeartbeats 1000000 in
theorem decLen_any (n : Nat) (hn : n ≤ 100000) (w : World) : Calls Tryz.prog 136 #[.int .i64 n, .int .i32 61] w fun e w' => e = .returned (.int .i64 ((n / 4 * 3 : Nat) : Int)) ∧ w = w' := by
  have t1 : (n : Int).tdiv 4 = ((n / 4 : Nat) : Int) := by rw [Int.tdiv_eq_ediv_of_nonneg (by omega)]; omega
  have t2 : IntKind.i64.wrap ((n / 4 : Nat) : Int) = ((n / 4 : Nat) : Int) := IntWalk.i64_in _ (by omega)
  have t3 : IntKind.i64.wrap (((n / 4 : Nat) : Int) * 3) = ((n / 4 * 3 : Nat) : Int) := by rw [IntWalk.i64_in _ (by omega)]; omega
  go_enter Tryz.func136, Tryz.ntmps136
  go_wp2
  go_ret
  exact ⟨rfl, rfl⟩
set_option maxHeartbeats 1000000 in
theorem decodedLen_any {w : World} {e : Nat} (h : EncAt w e) (n : Nat) (hn : n ≤ 100000) : Calls Tryz.prog 113 #[.pointer (some ⟨e, 0, none⟩), .int .i64 n] w fun e w' => e = .returned (.int .i64 ((n / 4 * 3 : Nat) : Int)) ∧ w = w' := by
  have c := h.pad
  go_enter Tryz.func113, Tryz.ntmps113
  go_wp2_with (go_at_call 136; refine (decLen_any n hn _).mono ?_; rintro e w1 ⟨rfl, rfl⟩)
  go_ret
  exact ⟨rfl, rfl⟩
structure DstAt (w : World) (d L : Nat) : Prop where
  cell : ∀ i, i < L → ∃ v, w.cell? ⟨d, i, none⟩ = some (.int .u8 v)
  free : ∀ i, w.frozen? ⟨d, i, none⟩ = false
theorem DstAt.set {w : World} {d L : Nat} (h : DstAt w d L) (j : Nat) (v : Int) : DstAt (w.setCell ⟨d, j, none⟩ (.int .u8 v)) d L :=
  ⟨fun i hi => by
    obtain ⟨x, hx⟩ := h.cell i hi
    by_cases e : i = j
    · subst e; exact ⟨v, cell_set_same hx⟩
    · exact ⟨x, cell_set_other hx e⟩, free_set h.free⟩
theorem DstAt.drewN {w : World} {d L : Nat} (h : DstAt w d L) (n : Nat) : DstAt (w.drewN n) d L := ⟨h.cell, h.free⟩
def Wrote (d L : Nat) (w w' : World) : Prop := DstAt w' d L ∧ Kept d w w'
set_option maxHeartbeats 4000000 in
set_option maxRecDepth 100000 in
theorem put64_any {w : World} {d L : Nat} (h : DstAt w d L) (o n c : Nat) (h8 : 8 ≤ n) (hL : o + n ≤ L) (x : Int) : Calls Tryz.prog 138 #[.slice (some ⟨d, o, none⟩) n c, .int .u64 x] w fun e w' => e = .returned (.tuple #[]) ∧ Wrote d L w w' := by
  have H := Lib.hid h
  obtain ⟨v0, c0⟩ := h.cell o (by omega)
  obtain ⟨v1, c1⟩ := h.cell (o + 1) (by omega)
  obtain ⟨v2, c2⟩ := h.cell (o + 2) (by omega)
  obtain ⟨v3, c3⟩ := h.cell (o + 3) (by omega)
  obtain ⟨v4, c4⟩ := h.cell (o + 4) (by omega)
  obtain ⟨v5, c5⟩ := h.cell (o + 5) (by omega)
  obtain ⟨v6, c6⟩ := h.cell (o + 6) (by omega)
  obtain ⟨v7, c7⟩ := h.cell (o + 7) (by omega)
  have f := h.free
  have l0 : (0 : Int) < n := by omega
  have l1 : (1 : Int) < n := by omega
  have l2 : (2 : Int) < n := by omega
  have l3 : (3 : Int) < n := by omega
  have l4 : (4 : Int) < n := by omega
  have l5 : (5 : Int) < n := by omega
  have l6 : (6 : Int) < n := by omega
  have l7 : (7 : Int) < n := by omega
  clear h
  go_enter Tryz.func138, Tryz.ntmps138
  go_wp2
  refine bodyPost_end (results_none rfl _ _ _) rfl ⟨rfl, ?_, ?_⟩
  · iterate 8 refine DstAt.set ?_ _ _
    exact H.out
  · iterate 8 refine Kept.setCell ?_ _ _
    exact Kept.refl d w
set_option maxHeartbeats 4000000 in
set_option maxRecDepth 100000 in
theorem put32_any {w : World} {d L : Nat} (h : DstAt w d L) (o n c : Nat) (h8 : 4 ≤ n) (hL : o + n ≤ L) (x : Int) : Calls Tryz.prog 141 #[.slice (some ⟨d, o, none⟩) n c, .int .u32 x] w fun e w' => e = .returned (.tuple #[]) ∧ Wrote d L w w' := by
  have H := Lib.hid h
  obtain ⟨v0, c0⟩ := h.cell o (by omega)
  obtain ⟨v1, c1⟩ := h.cell (o + 1) (by omega)
  obtain ⟨v2, c2⟩ := h.cell (o + 2) (by omega)
  obtain ⟨v3, c3⟩ := h.cell (o + 3) (by omega)
  have f := h.free
  have l0 : (0 : Int) < n := by omega
  have l1 : (1 : Int) < n := by omega
  have l2 : (2 : Int) < n := by omega
  have l3 : (3 : Int) < n := by omega
  clear h
  go_enter Tryz.func141, Tryz.ntmps141
  go_wp2
  refine bodyPost_end (results_none rfl _ _ _) rfl ⟨rfl, ?_, ?_⟩
  · iterate 4 refine DstAt.set ?_ _ _
    exact H.out
  · iterate 4 refine Kept.setCell ?_ _ _
    exact Kept.refl d w
end Go.Proofs.YtaecbclonmhbcaaGreatDoor

namespace Go.Proofs.YtaecbclonmhbcaaGreatDoor
open Go.RowKit Go.WideShapes Go.ChangeShapes
def BytesArg (w : World) (v : Value) (l : List Int) : Prop := (l = [] ∧ ∃ a c, v = .slice (some a) 0 c) ∨ BytesAt w (fun _ => False) v l
theorem kids : Kids Tryz.prog (· < Tryz.prog.types.size) := kids_rows (by kernel_rfl) (by kernel_rfl)
theorem full : ∀ t e, t < Tryz.prog.types.size → Tryz.prog.underlying t = some (.slice e) → 0 < Tryz.prog.cellsOf e := slices_full_of Tryz.prog (by kernel_rfl)
theorem own : ownKnob Tryz.prog.godebug = none := by kernel_rfl
noncomputable def laidL : List (String × DataW Unit) := Rows.fnLexDelimsRow.laid
theorem star191 : "*" ++ "errors.errorString" = "*errors.errorString" := by decide
theorem row191 (u : TypeId) (h : Tryz.prog.typeName? 3 u = some "*errors.errorString") : u = 191 :=
  typeName_ptr_named (nm := "errors.errorString") (by rw [star191]; kernel_rfl) (by kernel_rfl) (by decide) u (by rw [star191]; exact h)
theorem gEOF : Tryz.prog.globalNamed "io.EOF" = some 1 := by kernel_rfl
theorem gOther : Tryz.prog.globalNamed "pub-duolect/impl.errOther" = some 0 := by kernel_rfl
theorem env_of_laid {W : World} (h : laidMetH Tryz.prog laidL W) :
    ∃ (ae ao : Addr) (c0 c1 : Array Value) (t0 t1 : TypeId), Env W ⟨ae, fun _ => False⟩ ao ∧ 1 < W.heap.size ∧ W.heap[ae.block]? = some (.cells c0 t0 (0, 0)) ∧ W.heap[ao.block]? = some (.cells c1 t1 (0, 0)) := by
  rw [MakeChecks.laidMetH_plain _ _ _ (by kernel_rfl)] at h
  have h12 := h.tail.tail.tail.tail.tail.tail.tail.tail.tail.tail.tail.tail
  obtain ⟨a0, a1, s0, s1, c0, c1, t0, t1, hv0, hv1, -, -, -, -, -, -, hne, hb0, hb1⟩ := laid_sentinels2 h12 gEOF (by kernel_rfl) gOther (by kernel_rfl) Tryz.underlying63 row191 Tryz.underlying191 Tryz.underlying193 rfl rfl Tryz.underlying9 (by kernel_rfl) (by kernel_rfl)
  have e0 : W.cell? ⟨1, 0, none⟩ = some (.iface 191 (.pointer (some a0))) := by have := World.var?_cell gEOF hv0 0; simpa using this
  have e1 : W.cell? ⟨0, 0, none⟩ = some (.iface 191 (.pointer (some a1))) := by have := World.var?_cell gOther hv1 0; simpa using this
  exact ⟨a0, a1, c0, c1, t0, t1, ⟨e0, e1, hne⟩, World.block_lt_of_cell? W _ e0, hb0, hb1⟩
section
variable {H : Type} {enc : TypeId × Value → H}
theorem args_stay {W W' : World} (hb : Below W.heap.size W W') {sp' : Nat → Bool} : ∀ {ts : List TypeId} {vs : List Value} {ds : List (DataW H)} {ps : List MemPlace}, (∀ t ∈ ts, t < Tryz.prog.types.size) →
    DataW.TrodAll enc Tryz.prog W 0 (fun _ => true) true ts vs ds ps → (∀ p ∈ ps, p.block < W.heap.size) → (∀ p ∈ ps, sp' p.block = true) → DataW.TrodAll enc Tryz.prog W' 0 sp' true ts vs ds ps
  | [], [], [], _, _, h, _, _ => h
  | _ :: _, _ :: _, _ :: _, _, hT, ⟨p, q, h1, h2, e⟩, hl, hs => by
    subst e
    obtain ⟨n, hn⟩ := h1
    refine ⟨p, q, ⟨n, ?_⟩, args_stay hb (fun t ht => hT t (List.mem_cons_of_mem _ ht)) h2 (fun x hx => hl x (List.mem_append_right _ hx)) (fun x hx => hs x (List.mem_append_right _ hx)), rfl⟩
    exact DataW.trod_stays kids (fun {t e} => full t e) (fun h => by cases h) (hT _ (List.mem_cons_self ..)) hn (fun x hx => hb.same (hl x (List.mem_append_left _ hx))) (fun x hx => hs x (List.mem_append_left _ hx))
set_option maxRecDepth 100000 in
theorem law_post {f : Func} {s : ChangeSpec} {W W' : World} {args : Array Value} {ds gs : List (DataW H)} {before : List MemPlace}
    (hW : DataW.Whole enc Tryz.prog f.params.toList s.vars false W args.toList ds gs before) (hv : s.vars = []) (hr : f.resultTypes = #[4]) (hf : ∀ t ∈ f.params.toList, t < Tryz.prog.types.size)
    (hs : s.fn H (ds ++ gs) = { results := [.lit (.bool true)], args := ds }) (hb : Below W.heap.size W W') :
    s.post enc Tryz.prog f false true false false W args (.bool true) W' := by
  have hlt : ∀ p ∈ before, p.block < W.heap.size := fun p hp => hW.lt p hp
  have hold : ∀ p ∈ before, (fun b => decide (b < W.heap.size)) p.block = true := fun p hp => by simpa using hlt p hp
  have hW' := hW
  obtain ⟨pa, pv, hA, hV, hps, hz, hn⟩ := hW
  rw [hv] at hV
  obtain ⟨hg, hpv⟩ := trodVars_none hV
  subst hpv
  rw [List.append_nil] at hps
  subst hps
  have hres : ∀ (b : Nat) (sp : Nat → Bool) (hd : Bool), DataW.TrodAll enc Tryz.prog W' b sp hd f.resultTypes.toList ((Value.bool true).resultList f.resultTypes.size) (s.fn H (ds ++ gs)).results [] := fun b sp hd => by
    rw [hr, hs]; exact trodAll_mk1 (shut_bool Tryz.underlying4 _)
  have hargs : ∀ sp : Nat → Bool, (∀ p ∈ before, sp p.block = true) → DataW.TrodAll enc Tryz.prog W' 0 sp true f.params.toList args.toList (s.fn H (ds ++ gs)).args before := fun sp hsp => by
    rw [hs]; exact args_stay hb hf hA hlt hsp
  have hvars : ∀ sp : Nat → Bool, DataW.TrodVars enc Tryz.prog W' sp s.vars (s.fn H (ds ++ gs)).vars [] := fun sp => by
    rw [hs, hv]; rfl
  refine ⟨ds, gs, before, [], before, [], hW', hres _ _ _, hargs _ hold, hvars _, World.keptBut_mono (fun p hp => ⟨hp, ?_⟩) (hb.frame (· ∈ before)), fun _ => ?_⟩
  · exact Or.inr (by simpa using hp)
  · have hok : ∀ (j : Nat) (t : TypeId) (r : Value), f.resultTypes[j]? = some t → ((Value.bool true).resultList f.resultTypes.size)[j]? = some r → Value.okWide Tryz.prog W' .any 0 t r :=
      ok_one hr rfl (okWide_bool_mk Tryz.underlying4 _)
    refine ⟨hok, _, _, ([] ++ before) ++ [], ⟨[] ++ before, [], trodAll_append (hargs _ (fun _ _ => rfl)) (hres _ _ _), hvars _, rfl, ?_, ?_⟩, ?_⟩
    · intro b off hp
      have hin : MemPlace.cell b off ∈ before := by simpa using hp
      rw [hb.frozen (hlt _ hin)]
      exact hz b off hin
    · intro ha
      have := hn ha
      simpa using this
    · intro p hp _
      simpa using hp
theorem cells5 : Tryz.prog.cellsOf 5 = 1 := by kernel_rfl
set_option maxRecDepth 100000 in
theorem bytes_arg {W : World} {base : Nat} {v : Value} {d : DataW H} {p : List MemPlace} (hval : Value.okWide Tryz.prog W .any base 22 v) (h : DataW.Trod enc Tryz.prog W 0 (fun _ => true) true 22 v d p) :
    ∃ (a : Option Addr) (n cap : Nat) (l : List Int), v = .slice a n cap ∧ BytesArg W (.slice a n cap) l ∧ Bytes l ∧ n = l.length := by
  obtain ⟨a0, len, cap, rfl⟩ := okWide_slice Tryz.underlying22 hval
  obtain ⟨fuel, hf⟩ := h
  rcases open_ints Tryz.underlying22 Tryz.underlying5 cells5 hf with ⟨hcs, -⟩ | ⟨a, len', cap', zs, hcs, -, hl, -, hz, -, hcell, hwz⟩
  · simp [Value.cells] at hcs
    obtain ⟨rfl, rfl, rfl⟩ := hcs
    exact ⟨none, 0, 0, [], rfl, .inr (.inl ⟨rfl, rfl⟩), fun i => by simp, rfl⟩
  · simp [Value.cells] at hcs
    obtain ⟨rfl, rfl, rfl⟩ := hcs
    simp only [if_true] at hz
    by_cases h0 : len = 0
    · subst h0
      exact ⟨some a, 0, cap, [], rfl, .inl ⟨rfl, _, _, rfl⟩, fun i => by simp, rfl⟩
    have hsp : a.spot = none := by simpa [Addr.add] using World.cell?_spot (hcell 0 (by omega))
    obtain ⟨b, o, sp⟩ := a
    simp only at hsp
    subst hsp
    have hlen : (zs.take len).length = len := by rw [List.length_take]; omega
    refine ⟨some ⟨b, o, none⟩, len, cap, zs.take len, rfl, .inr (.inr ⟨b, o, cap, by rw [hlen], by rw [hlen]; exact hl, ⟨id, World.block_lt_of_cell? W _ (hcell 0 (by omega))⟩, fun i hi => ?_⟩), fun i => ?_, hlen.symm⟩
    · rw [hlen] at hi
      have := hcell i (by omega)
      rw [show (⟨b, o, none⟩ : Addr).add i = ⟨b, o + i, none⟩ by unfold Addr.add; split <;> simp_all] at this
      rw [this]
      simp [List.getD, hi]
    · by_cases hi : i < (zs.take len).length
      · rw [List.getD, List.getElem?_eq_getElem hi]
        exact bounds_u8 (hwz _ (List.mem_of_mem_take (List.getElem_mem hi)))
      · simp [List.getD, List.getElem?_eq_none (Nat.le_of_not_lt hi)]
end
end Go.Proofs.YtaecbclonmhbcaaGreatDoor

namespace Go.Proofs.YtaecbclonmhbcaaGreatDoor
open Go.RowKit Go.Lib
section
variable {H : Type} {enc : TypeId × Value → H} {P : Program} {w : World} {base : Nat} {spare : Nat → Bool} {held : Bool} {fuel : Nat} {t : TypeId} {cs : List Value} {x : DataW H × List MemPlace}
theorem trod_float {k : FloatKind} (ht : P.underlying t = some (.float k)) (h : DataW.trod enc P w base spare held fuel t cs = some x) : ∃ n, cs = [.float k n] := by
  cases fuel with
  | zero => simp [DataW.trod] at h
  | succ n =>
    unfold DataW.trod at h
    rw [ht] at h
    split at h <;> simp_all
theorem slice_of_reads {name : String} {g : Nat} {e : TypeId} {ds : List (DataW Unit)} (hn : P.globalNamed name = some g) (hy : (P.globals[g]?).map (·.type) = some t)
    (ht : P.underlying t = some (.slice e)) (hc : 0 < P.cellsOf e) (hl : 0 < ds.length) (h : VarReads P w name (.slice ds [])) :
    ∃ R o cap, w.cell? ⟨g, 0, none⟩ = some (.slice (some ⟨R, o, none⟩) ds.length cap) ∧ ds.length ≤ cap ∧ R < w.heap.size ∧ ∀ i, i < ds.length → ∃ (ce : List Value) (f : Nat) (d : DataW Unit) (p : List MemPlace), ds[i]? = some d ∧ ce.length = P.cellsOf e ∧
      (∀ j, j < P.cellsOf e → w.cell? ⟨R, o + i * P.cellsOf e + j, none⟩ = ce[j]?) ∧ DataW.trod (fun _ => ()) P w 0 (fun _ => true) false f e ce = some (d, p) := by
  obtain ⟨g', t', cs, fuel, p, hg, hty, hvar, hd⟩ := h
  obtain rfl := Option.some.inj (hn.symm.trans hg)
  obtain rfl := Option.some.inj (hy.symm.trans hty)
  rcases DataW.trod_slice ht hd with ⟨_, hx⟩ | ⟨a, len, cap, el, rs, m, rfl, hcs, hx, _, hlc, _, hel, helem, hsp, _⟩
  · cases hx
  have e0 := congrArg Prod.fst hx
  simp only [DataW.slice.injEq] at e0
  obtain ⟨eE, eR⟩ := e0
  have hlen : len = ds.length := by
    have := congrArg List.length eE
    simp at this
    omega
  have hcell : ∀ i, i < ds.length → ∃ (ce : List Value) (d : DataW Unit) (q : List MemPlace), ds[i]? = some d ∧ ce.length = P.cellsOf e ∧ (∀ j, j < P.cellsOf e → w.cell? ((a.add (i * P.cellsOf e)).add j) = ce[j]?) ∧ DataW.trod (fun _ => ()) P w 0 (fun _ => true) false m e ce = some (d, q) := by
    intro i hi
    have h1 := helem i (by omega)
    obtain ⟨b, hb⟩ : ∃ b, el[i]? = some b := ⟨el[i]'(by omega), List.getElem?_eq_getElem (by omega)⟩
    rw [hb] at h1
    obtain ⟨ce, hce, hte⟩ := Option.bind_eq_some_iff.1 h1
    obtain ⟨_, hcl, hcc⟩ := World.cells?_some hce
    refine ⟨ce, b.1, b.2, ?_, hcl, hcc, hte⟩
    have := congrArg (·[i]?) eE
    simp [hb] at this
    exact this
  obtain ⟨R, o, sR⟩ := a
  have hspot : sR = none := by
    obtain ⟨ce, d, q, _, hcl, hcc, _⟩ := hcell 0 hl
    have h00 := hcc 0 hc
    have hx : (Addr.add (Addr.add ⟨R, o, sR⟩ (0 * P.cellsOf e)) 0) = ⟨R, o, sR⟩ := by simp [Addr.add]
    rw [hx, List.getElem?_eq_getElem (by omega)] at h00
    exact Go.Proofs.cell_spot h00
  subst hspot
  have hadd : ∀ i j, (Addr.add (Addr.add ⟨R, o, none⟩ i) j) = ⟨R, o + i + j, none⟩ := fun i j => by rw [Addr.add_lit, Addr.add_lit]
  refine ⟨R, o, cap, ?_, by omega, ?_, fun i hi => ?_⟩
  · rw [World.var?_cell hg hvar 0, ← Array.getElem?_toList, hcs, hlen]
    rfl
  · obtain ⟨ce, d, q, _, hcl, hcc, _⟩ := hcell 0 hl
    have h00 := hcc 0 hc
    rw [hadd, List.getElem?_eq_getElem (by omega)] at h00
    exact World.block_lt_of_cell? w _ h00
  · obtain ⟨ce, d, q, h1, h2, h3, h4⟩ := hcell i hi
    exact ⟨ce, m, d, q, h1, h2, fun j hj => by rw [← hadd]; exact h3 j hj, h4⟩
theorem var_of_reads {name : String} {g : Nat} {d : DataW Unit} (hn : P.globalNamed name = some g) (hy : (P.globals[g]?).map (·.type) = some t) (h : VarReads P w name d) :
    ∃ (cs : List Value) (f : Nat) (p : List MemPlace), DataW.trod (fun _ => ()) P w 0 (fun _ => true) false f t cs = some (d, p) ∧ ∀ i, w.cell? ⟨g, i, none⟩ = cs[i]? := by
  obtain ⟨g', t', cs, fuel, p, hg, hty, hvar, hd⟩ := h
  obtain rfl := Option.some.inj (hn.symm.trans hg)
  obtain rfl := Option.some.inj (hy.symm.trans hty)
  exact ⟨cs.toList, fuel, p, hd, fun i => by rw [World.var?_cell hg hvar i, Array.getElem?_toList]⟩
end
end Go.Proofs.YtaecbclonmhbcaaGreatDoor

namespace Go.Proofs.YtaecbclonmhbcaaGreatDoor
def cheatB (k delta : Nat) (cut : List Nat) : Bool :=
  cut.all (fun d => decide (d ≤ 9)) && endsD cut && decide (numD cut * 2 ^ k = 10 ^ k) && decide (cut.length + delta = k + 1) && decide (10 ^ delta ≤ 10 * 2 ^ k) && decide (2 ^ k < 10 ^ delta) && decide (0 < delta) && decide (k < 61)
theorem cheat_of {k delta : Nat} {cut : List Nat} (h : cheatB k delta cut = true) : Cheat k delta cut := by
  simp only [cheatB, Bool.and_eq_true, decide_eq_true_eq, List.all_eq_true] at h
  obtain ⟨⟨⟨⟨⟨⟨⟨h1, h2⟩, h3⟩, h4⟩, h5⟩, h6⟩, h7⟩, h8⟩ := h
  exact ⟨h1, h2, h3, h4, h5, h6, h7, h8⟩
end Go.Proofs.YtaecbclonmhbcaaGreatDoor
