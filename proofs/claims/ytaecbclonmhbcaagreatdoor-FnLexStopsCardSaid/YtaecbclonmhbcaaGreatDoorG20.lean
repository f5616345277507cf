/- internal/strconv.decimal's set over bytes of numbers. Printed by gen_set.py. -/
import Derived.Test.YtaecbclonmhbcaaGreatDoorG16
import Derived.Test.YtaecbclonmhbcaaGreatDoorG19
set_option linter.unusedVariables false
set_option linter.unusedSimpArgs false
/- internal/strconv.decimal's set over bytes of numbers. Printed by gen_set.py. -/
namespace Go.Proofs.YtaecbclonmhbcaaGreatDoor
open Go.RowKit

/-- What set leaves. -/
def SetPost (b : Nat) (w : World) (e : Ending) (w' : World) : Prop :=
  ∃ ok : Bool, e = .returned (.bool ok) ∧ (ok = true → ∃ (f : Nat → Int) (nd : Nat) (dp : Int), DecAt w' b f nd dp ∧ (nd = 0 ∨ DGood f nd)) ∧ Kept b w w'
theorem DecAt.drew {w : World} {b : Nat} {f : Nat → Int} {nd : Nat} {dp : Int} (h : DecAt w b f nd dp) : DecAt w.drew b f nd dp := ⟨h.dig, h.nd, h.dp, h.neg, h.tr, h.free⟩
theorem good_add {g : Nat → Int} {nd : Nat} {c : Int} (h : nd = 0 ∨ DGood g nd) (hn : nd < 800) (h0 : 48 ≤ c) (h1 : c ≤ 57) (hz : ¬ (c = 48 ∧ nd = 0)) : DGood (putAt g nd c) (nd + 1) := by
  refine ⟨by omega, by omega, fun i hi => ?_, ?_⟩
  · by_cases e : i = nd
    · simp only [putAt, if_pos e]; omega
    · simp only [putAt, if_neg e]
      rcases h with h | h
      · omega
      · exact h.dig i (by omega)
  · by_cases e : 0 = nd
    · simp only [putAt, if_pos e]; omega
    · simp only [putAt, if_neg e]
      rcases h with h | h
      · omega
      · exact h.head

def SetI (b : Nat) (s : ByteArray) (w : World) (a5 a6 a7 : Value) (wr : World) : Prop :=
  ∃ (k nd : Nat) (sd sg : Bool) (g : Nat → Int) (dp : Int), a5 = .int .i64 k ∧ a6 = .bool sd ∧ a7 = .bool sg ∧ k ≤ s.size ∧ nd ≤ k ∧ -(k : Int) ≤ dp ∧ dp ≤ k ∧ DecAt wr b g nd dp ∧ (nd = 0 ∨ DGood g nd) ∧ Kept b w wr

set_option maxHeartbeats 8000000 in
set_option maxRecDepth 100000 in
theorem set_any (b : Nat) (s : ByteArray) (f : Nat → Int) (w : World) (h : DecAt w b f 0 0) (hs : s.size ≤ 100000) (hN : NumS s) :
    Calls Tryz.prog 176 #[.pointer (some ⟨b, 0, none⟩), .string s] w (SetPost b w) := by
  have H := Lib.hid (((h.setNeg false).setTr false))
  have HK0 := Lib.hid (((Kept.refl b w).setCell 802 (.bool false)).setCell 803 (.bool false))
  have HN := Lib.hid hN
  have z2 := h.free 802
  have z3 := h.free 803
  obtain ⟨x2, c2⟩ := h.neg
  obtain ⟨x3, c3⟩ := h.tr
  clear h hN
  go_enter Tryz.func176, Tryz.ntmps176
  by_cases hs0 : s.size = 0
  · have hse : s = ByteArray.empty := by first | exact ByteArray.size_eq_zero_iff.1 hs0 | (cases s; simp_all [ByteArray.size]; rfl)
    subst hse
    go_wp2
    all_goals (go_ret; exact ⟨false, rfl, fun h => absurd h (by decide), HK0.out⟩)
  have hse : ¬ s = ByteArray.empty := by intro e; rw [e] at hs0; exact hs0 (by decide)
  have hs1 : 0 < s.size := by omega
  go_upto_block 0 with fail
  go_cut [5] from 23 to 33 (fun a5 wx => ∃ k : Nat, a5 = .int .i64 k ∧ k ≤ 1 ∧ DecAt wx b f 0 0 ∧ Kept b w wx)
  case first =>
    go_wp2_with fail
    all_goals
      go_meet
      first
        | exact ⟨1, rfl, by decide, H.out, HK0.out⟩
        | exact ⟨1, rfl, by decide, H.out.setNeg true, HK0.out.setCell _ _⟩
        | exact ⟨0, rfl, by decide, H.out, HK0.out⟩
  case rest =>
    clear z2 z3 c2 c3 H HK0 hse
    obtain ⟨k0, rfl, hk0, hd, hK⟩ := hcut
    have H := Lib.hid hd
    have HK0 := Lib.hid hK
    clear hd hK
    go_upto_block 1 with fail
    go_cut [5, 6, 7] from 34 to 116 (fun a5 a6 a7 wx => SetI b s w a5 a6 a7 wx)
    case first =>
      go_wp2_with fail
      go_loopg [5, 6, 7] (s.size - k0) (fun gk a5 a6 a7 wr => (∃ k : Nat, a5 = .int .i64 k ∧ gk = s.size - k) ∧ SetI b s w a5 a6 a7 wr)
      case atStart => exact ⟨⟨k0, rfl, rfl⟩, k0, 0, false, false, f, 0, rfl, rfl, rfl, by omega, by omega, by omega, by omega, H.out, .inl rfl, HK0.out⟩
      case round =>
        obtain ⟨⟨k', hk', hgk⟩, k, nd, sd, sg, g, dp, rfl, rfl, rfl, hk, hnd, hdp0, hdp1, hd, hG, hK⟩ := hrel
        obtain rfl : k' = k := by injection hk' with _ e; omega
        have A1 := Lib.hid hd
        have A2 := Lib.hid hG
        have A3 := Lib.hid hK
        clear hk'
        by_cases hlt : k' < s.size
        case neg =>
          clear hd hG hK
          obtain rfl : k' = s.size := by omega
          go_wp2_with fail
          go_meet
          exact ⟨s.size, nd, sd, sg, g, dp, rfl, rfl, rfl, Nat.le_refl _, hnd, hdp0, hdp1, A1.out, A2.out, A3.out⟩
        case pos =>
          have c1 := hd.nd
          have c2 := hd.dp
          have z0 := hd.free 800
          have z1 := hd.free 801
          have hnc := HN.out k' hlt
          obtain ⟨c, hq⟩ : ∃ c, (s[k'].toNat : Int) = c := ⟨_, rfl⟩
          rw [hq] at hnc
          have g95 : (c == 95) = false := beq_eq_false_iff_ne.2 (by unfold NumCh at hnc; omega)
          by_cases h46 : c = 46
          · subst h46
            clear hd hG hK hnc
            cases sd
            · go_wp2_with fail
              go_roundg (s.size - (k' + 1))
              case measure => omega
              case rel => exact ⟨⟨k' + 1, by go_num, rfl⟩, k' + 1, nd, true, sg, g, nd, by go_num, rfl, rfl, by omega, by omega, by omega, by omega, A1.out.setDp _, A2.out, A3.out.setCell _ _⟩
            · go_wp2_with fail
              all_goals (go_ret; exact ⟨false, rfl, fun h => absurd h (by decide), A3.out⟩)
          have g46 : (c == 46) = false := beq_eq_false_iff_ne.2 h46
          by_cases hdg : 48 ≤ c ∧ c ≤ 57
          · obtain ⟨hd0, hd1⟩ := hdg
            clear h46 hnc
            by_cases hz : c = 48 ∧ nd = 0
            · obtain ⟨rfl, rfl⟩ := hz
              clear hd hG hK
              go_wp2_with fail
              go_roundg (s.size - (k' + 1))
              case measure => omega
              case rel => exact ⟨⟨k' + 1, by go_num, rfl⟩, k' + 1, 0, sd, true, g, dp - 1, by go_num, rfl, rfl, by omega, by omega, by omega, by omega, A1.out.setDp _, .inl rfl, A3.out.setCell _ _⟩
            · have HZ := Lib.hid hz
              by_cases h8 : nd < 800
              · have h8' : (nd : Int) < 800 := by omega
                have c4 := hd.dig nd h8
                have z4 := hd.free nd
                have HG2 := Lib.hid (good_add hG h8 hd0 hd1 hz)
                clear hd hG hK hz
                rcases Classical.em (c = 48) with h48 | h48
                · subst h48
                  have hnd0 : ((nd : Int) == 0) = false := beq_eq_false_iff_ne.2 (by have := HZ.out; omega)
                  go_wp2_with fail
                  go_region
                  go_wp2_with fail
                  go_roundg (s.size - (k' + 1))
                  case measure => omega
                  case rel => exact ⟨⟨k' + 1, by go_num, rfl⟩, k' + 1, nd + 1, sd, true, _, dp, by go_num, rfl, rfl, by omega, by omega, by omega, by omega, ((A1.out.setDig h8 _).setNd' (nd + 1) _ (by push_cast; rfl)).drew, .inr HG2.out, ((A3.out.setCell _ _).setCell _ _).drew⟩
                · have h48' : (c == 48) = false := beq_eq_false_iff_ne.2 h48
                  clear h48
                  go_wp2_with fail
                  go_region
                  go_wp2_with fail
                  go_roundg (s.size - (k' + 1))
                  case measure => omega
                  case rel => exact ⟨⟨k' + 1, by go_num, rfl⟩, k' + 1, nd + 1, sd, true, _, dp, by go_num, rfl, rfl, by omega, by omega, by omega, by omega, ((A1.out.setDig h8 _).setNd' (nd + 1) _ (by push_cast; rfl)).drew, .inr HG2.out, ((A3.out.setCell _ _).setCell _ _).drew⟩
              · have h8' : ¬ (nd : Int) < 800 := by omega
                have z4 := hd.free 803
                obtain ⟨tr, c4⟩ := hd.tr
                clear hd hG hK hz
                rcases Classical.em (c = 48) with h48 | h48
                · subst h48
                  have hnd0 : ((nd : Int) == 0) = false := beq_eq_false_iff_ne.2 (by omega)
                  go_wp2_with fail
                  go_roundg (s.size - (k' + 1))
                  case measure => omega
                  case rel => exact ⟨⟨k' + 1, by go_num, rfl⟩, k' + 1, nd, sd, true, g, dp, by go_num, rfl, rfl, by omega, by omega, by omega, by omega, A1.out, A2.out, A3.out⟩
                · have h48' : (c == 48) = false := beq_eq_false_iff_ne.2 h48
                  have h48'' : (c != 48) = true := bne_iff_ne.2 h48
                  clear h48
                  go_wp2_with fail
                  go_roundg (s.size - (k' + 1))
                  case measure => omega
                  case rel => exact ⟨⟨k' + 1, by go_num, rfl⟩, k' + 1, nd, sd, true, g, dp, by go_num, rfl, rfl, by omega, by omega, by omega, by omega, A1.out.setTr _, A2.out, A3.out.setCell _ _⟩
          · have hnd' : c < 48 ∨ 57 < c := by omega
            clear h46 hdg hd hG hK
            rcases hnd' with h | h
            · go_wp2_with fail
              go_meet
              exact ⟨k', nd, sd, sg, g, dp, rfl, rfl, rfl, hk, hnd, hdp0, hdp1, A1.out, A2.out, A3.out⟩
            · go_wp2_with fail
              go_meet
              exact ⟨k', nd, sd, sg, g, dp, rfl, rfl, rfl, hk, hnd, hdp0, hdp1, A1.out, A2.out, A3.out⟩
    case rest =>
      clear H HK0
      obtain ⟨k, nd, sd, sg, g, dp, rfl, rfl, rfl, hk, hnd, hdp0, hdp1, hd, hG, hK⟩ := hcut
      have A1 := Lib.hid hd
      have A2 := Lib.hid hG
      have A3 := Lib.hid hK
      have c1 := hd.nd
      have c2 := hd.dp
      have z1 := hd.free 801
      clear hd hG hK
      cases sg
      · go_wp2_with fail
        all_goals (go_ret; exact ⟨false, rfl, fun h => absurd h (by decide), A3.out⟩)
      go_upto_if 120 with fail
      go_cut [] from 121 to 127 (fun wx => ∃ dp1 : Int, DecAt wx b g nd dp1 ∧ Kept b w wx)
      case first =>
        cases sd
        · go_wp2_with fail
          go_meet
          exact ⟨_, A1.out.setDp _, A3.out.setCell _ _⟩
        · go_wp2_with fail
          go_meet
          exact ⟨_, A1.out, A3.out⟩
      case rest =>
        clear c1 c2 z1 A1 A3
        obtain ⟨dp1, hd, hK⟩ := hcut
        have A1 := Lib.hid hd
        have K3 := Lib.hid hK
        clear hd hK hdp0 hdp1
        by_cases hk2 : k < s.size
        case neg =>
          go_wp2_with fail
          all_goals (go_ret; first | exact ⟨true, rfl, fun _ => ⟨g, nd, dp1, A1.out, A2.out⟩, K3.out⟩ | exact ⟨false, rfl, fun h => absurd h (by decide), K3.out⟩)
        case pos =>
          obtain ⟨L, hL⟩ : ∃ L, bits .or .u8 (s[k].toNat : Int) 32 = L := ⟨_, rfl⟩
          cases hE : L == 101
          case false =>
            go_wp2_with (go_at_call 160; refine (lower_any _ _).mono ?_; rintro e w1 ⟨rfl, rfl⟩)
            all_goals (go_ret; first | exact ⟨true, rfl, fun _ => ⟨g, nd, dp1, A1.out, A2.out⟩, K3.out⟩ | exact ⟨false, rfl, fun h => absurd h (by decide), K3.out⟩)
          case true =>
            by_cases hk3 : k + 1 < s.size
            case neg =>
              have hk3' : ¬ (k : Int) + 1 < (s.size : Int) := by omega
              go_wp2_with (go_at_call 160; refine (lower_any _ _).mono ?_; rintro e w1 ⟨rfl, rfl⟩)
              all_goals (go_ret; exact ⟨false, rfl, fun h => absurd h (by decide), K3.out⟩)
            case pos =>
              have hk3' : (k : Int) + 1 < (s.size : Int) := by omega
              go_upto_if 138 with (go_at_call 160; refine (lower_any _ _).mono ?_; rintro e w1 ⟨rfl, rfl⟩)
              go_cut [5] from 121 to 219 (fun a5 wx => ∃ (q : Nat) (dp2 : Int), a5 = .int .i64 q ∧ DecAt wx b g nd dp2 ∧ Kept b w wx)
              case rest =>
                clear A1 K3 hk2 hk3 hk3' hL hE
                obtain ⟨q, dp2, rfl, hd, hK⟩ := hcut
                have A1 := Lib.hid hd
                have K3 := Lib.hid hK
                clear hd hK
                go_wp2_with fail
                all_goals (go_ret; first | exact ⟨true, rfl, fun _ => ⟨g, nd, dp2, A1.out, A2.out⟩, K3.out⟩ | exact ⟨false, rfl, fun h => absurd h (by decide), K3.out⟩)
              case first =>
                go_upto_block 4 with fail
                go_cut [5, 8] from 148 to 155 (fun a5 a8 wx => ∃ (j : Nat) (es : Int), a5 = .int .i64 j ∧ a8 = .int .i64 es ∧ k + 1 ≤ j ∧ j ≤ k + 2 ∧ wx = wc)
                case first =>
                  go_wp2_with fail
                  all_goals
                    go_meet
                    first
                      | exact ⟨k + 2, 1, by go_num, rfl, by omega, by omega, rfl⟩
                      | exact ⟨k + 2, -1, by go_num, rfl, by omega, by omega, rfl⟩
                      | exact ⟨k + 1, 1, by go_num, rfl, by omega, by omega, rfl⟩
                case rest =>
                  obtain ⟨j, es, rfl, rfl, hj0, hj1, rfl⟩ := hcut
                  by_cases hj : j < s.size
                  case neg =>
                    have hj' : ¬ (j : Int) < (s.size : Int) := by omega
                    go_wp2_with fail
                    all_goals (go_ret; exact ⟨false, rfl, fun h => absurd h (by decide), K3.out⟩)
                  case pos =>
                    obtain ⟨c, hq⟩ : ∃ c, (s[j].toNat : Int) = c := ⟨_, rfl⟩
                    by_cases hc0 : c < 48
                    · go_wp2_with fail
                      all_goals (go_ret; exact ⟨false, rfl, fun h => absurd h (by decide), K3.out⟩)
                    by_cases hc1 : 57 < c
                    · go_wp2_with fail
                      all_goals (go_ret; exact ⟨false, rfl, fun h => absurd h (by decide), K3.out⟩)
                    have hc0' : 48 ≤ c := by omega
                    have hc1' : c ≤ 57 := by omega
                    go_upto_block 5 with fail
                    go_cut [5, 9] from 156 to 209 (fun a5 a9 wx => ∃ q e : Nat, a5 = .int .i64 q ∧ a9 = .int .i64 e ∧ q ≤ s.size ∧ e ≤ 99999 ∧ wx = wc)
                    case first =>
                      go_wp2_with fail
                      go_loop [5, 9] (fun a5 a9 => ∃ q e : Nat, a5 = .int .i64 q ∧ a9 = .int .i64 e ∧ q ≤ s.size ∧ e ≤ 99999) (fun a5 _ => s.size - (intOf a5).toNat)
                      case atStart => exact ⟨j, 0, rfl, rfl, by omega, by decide⟩
                      case round =>
                        clear hq hj
                        obtain ⟨q, e, rfl, rfl, hq0, he0⟩ := hrel
                        by_cases hql : q < s.size
                        case neg =>
                          have hql' : ¬ (q : Int) < (s.size : Int) := by omega
                          go_wp2_with fail
                          go_meet
                          exact ⟨q, e, rfl, rfl, hq0, he0, rfl⟩
                        case pos =>
                          have hnc := HN.out q hql
                          obtain ⟨d, hqd⟩ : ∃ d, (s[q].toNat : Int) = d := ⟨_, rfl⟩
                          rw [hqd] at hnc
                          have g95 : (d == 95) = false := beq_eq_false_iff_ne.2 (by unfold NumCh at hnc; omega)
                          clear hnc
                          by_cases hd0 : d < 48
                          · go_wp2_with fail
                            go_meet
                            exact ⟨q, e, rfl, rfl, hq0, he0, rfl⟩
                          by_cases hd1 : 57 < d
                          · go_wp2_with fail
                            go_meet
                            exact ⟨q, e, rfl, rfl, hq0, he0, rfl⟩
                          have hd0' : 48 ≤ d := by omega
                          have hd1' : d ≤ 57 := by omega
                          by_cases he1 : e < 10000
                          · have he1' : (e : Int) < 10000 := by omega
                            go_wp2_with fail
                            go_round
                            case rel => exact ⟨q + 1, (e * 10 + d - 48).toNat, by go_num, by rw [Int.toNat_of_nonneg (by omega)], by omega, by omega⟩
                            case measure => simp [intOf]; omega
                          · have he1' : ¬ (e : Int) < 10000 := by omega
                            go_wp2_with fail
                            go_round
                            case rel => exact ⟨q + 1, e, by go_num, rfl, by omega, he0⟩
                            case measure => simp [intOf]; omega
                    case rest =>
                      obtain ⟨q, e, rfl, rfl, hq0, he0, rfl⟩ := hcut
                      have c2 := A1.out.dp
                      have z1 := A1.out.free 801
                      go_wp2_with fail
                      go_meet
                      exact ⟨q, _, rfl, A1.out.setDp _, K3.out.setCell _ _⟩
end Go.Proofs.YtaecbclonmhbcaaGreatDoor
