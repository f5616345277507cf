/- internal/strconv.readFloat over whatever bytes. Printed by gen_rfx.py. -/
import Derived.Test.YtaecbclonmhbcaaGreatDoorP21
set_option linter.unusedVariables false
set_option linter.unusedSimpArgs false
namespace Go.Proofs.YtaecbclonmhbcaaGreatDoor
open Go.RowKit
def RXI (bs mx : Nat) (s : ByteArray) (a2 a5 a7 a9 a13 a14 a15 a16 a17 : Value) : Prop :=
  ∃ (m : Int) (tr us sd sg : Bool) (k nd nm : Nat) (dp : Int), a2 = .int .u64 m ∧ a5 = .bool tr ∧ a7 = .int .i64 k ∧ a9 = .bool us ∧ a13 = .bool sd ∧ a14 = .bool sg ∧ a15 = .int .i64 nd ∧ a16 = .int .i64 nm ∧ a17 = .int .i64 dp ∧
    k ≤ s.size ∧ nm ≤ mx ∧ nm ≤ nd ∧ nd ≤ k ∧ 0 ≤ m ∧ m < bs ^ nm ∧ -(k : Int) ≤ dp ∧ dp ≤ k
def RXPost (s : ByteArray) (w : World) (e : Ending) (w' : World) : Prop :=
  ∃ (m exp : Int) (neg tr hex : Bool) (i : Nat) (ok : Bool), e = .returned (.tuple #[.int .u64 m, .int .i64 exp, .bool neg, .bool tr, .bool hex, .int .i64 i, .bool ok]) ∧ 0 ≤ m ∧ m < 18446744073709551616 ∧ (hex = false → m < 10000000000000000000) ∧ -2000000 ≤ exp ∧ exp ≤ 2000000 ∧ i ≤ s.size ∧ w = w'
theorem pow16_lt {m : Int} {nm : Nat} (h : nm < 16) (hm : m < 16 ^ nm) : m < 1152921504606846976 ∧ ∀ d : Int, d ≤ 15 → m * 16 + d < 16 ^ (nm + 1) := by
  have hp : (16 : Int) ^ nm ≤ 16 ^ 15 := by have := Nat.pow_le_pow_right (n := 16) (by decide) (show nm ≤ 15 by omega); exact_mod_cast this
  refine ⟨by omega, fun d hd => ?_⟩
  rw [Int.pow_succ]
  omega
theorem pow16_top {m : Int} {nm : Nat} (h : nm ≤ 16) (hm : m < 16 ^ nm) : m < 18446744073709551616 := by
  have hp : (16 : Int) ^ nm ≤ 16 ^ 16 := by have := Nat.pow_le_pow_right (n := 16) (by decide) h; exact_mod_cast this
  omega
set_option maxHeartbeats 32000000 in
set_option maxRecDepth 100000 in
theorem readFloat_all (s : ByteArray) (w : World) (hs : s.size ≤ 100000) :
    Calls Tryz.prog 170 #[.string s] w (RXPost s w) := by
  by_cases h0 : s.size = 0
  · have hse : s = ByteArray.empty := by first | exact ByteArray.size_eq_zero_iff.1 h0 | (cases s; simp_all [ByteArray.size]; rfl)
    subst hse
    go_enter Tryz.func170, Tryz.ntmps170
    go_wp2
    go_step3
    go_wp2_with fail
    all_goals
      (try rw [Exit.noGoto_ret])
      exact bodyPost_ret (v := .tuple #[.int .u64 0, .int .i64 0, .bool false, .bool false, .bool false, .int .i64 0, .bool false]) (by simp [results, Tryz.results170, go_sem]; done) rfl ⟨0, 0, false, false, false, 0, false, rfl, by decide, by decide, fun _ => by decide, by decide, by decide, by decide, rfl⟩
  replace h0 : 0 < s.size := by omega
  have hse : ¬ s = ByteArray.empty := by intro h; rw [h] at h0; exact absurd h0 (by decide)
  go_enter Tryz.func170, Tryz.ntmps170
  go_wp2
  go_step3
  go_upto_block 0 with fail
  go_cut [4, 7] from 28 to 35 (fun a4 a7 wx => ∃ (neg : Bool) (i0 : Nat), a4 = .bool neg ∧ a7 = .int .i64 i0 ∧ i0 ≤ 1 ∧ w = wx)
  case first =>
    as_aux_lemma =>
      go_wp2_with fail
      all_goals
        go_meet
        first
          | exact ⟨false, 1, rfl, rfl, by decide, rfl⟩
          | exact ⟨true, 1, rfl, rfl, by decide, rfl⟩
          | exact ⟨false, 0, rfl, rfl, by decide, rfl⟩
  case rest =>
    as_aux_lemma =>
      obtain ⟨neg, i0, rfl, rfl, hi0, rfl⟩ := hcut
      go_upto_region 12 with fail
      go_cut [54] from 36 to 54 (fun a54 wx => ∃ t : Bool, a54 = .bool t ∧ (t = true → i0 + 2 < s.size) ∧ w = wx)
      case first =>
        as_aux_lemma =>
          by_cases h2 : i0 + 2 < s.size
          · have h2' : (i0 : Int) + 2 < (s.size : Int) := by omega
            have hi1 : i0 < s.size := by omega
            have hi2 : i0 + 1 < s.size := by omega
            go_wp2_with (go_at_call 160; refine (lower_any _ _).mono ?_; rintro e w1 ⟨rfl, rfl⟩)
            all_goals
              go_meet
              exact ⟨_, rfl, fun _ => h2, rfl⟩
          · have h2' : ¬ (i0 : Int) + 2 < (s.size : Int) := by omega
            go_wp2_with fail
            all_goals
              go_meet
              exact ⟨false, rfl, fun e => absurd e (by decide), rfl⟩
      case rest =>
        as_aux_lemma =>
          obtain ⟨t, rfl, hhx, rfl⟩ := hcut
          cases t
          case false =>
            as_aux_lemma =>
              have hi00 : i0 ≤ s.size := by omega
              clear hhx
              go_wp2_with fail
              go_step3
              go_upto_block 1 with fail
              go_cut [2, 5, 7, 9, 13, 14, 15, 16, 17] from 57 to 138 (fun a2 a5 a7 a9 a13 a14 a15 a16 a17 wx => RXI 10 19 s a2 a5 a7 a9 a13 a14 a15 a16 a17 ∧ w = wx)
              case first =>
                as_aux_lemma =>
                  go_wp2_with fail
                  go_loop [2, 5, 7, 9, 13, 14, 15, 16, 17] (fun a2 a5 a7 a9 a13 a14 a15 a16 a17 => RXI 10 19 s a2 a5 a7 a9 a13 a14 a15 a16 a17) (fun _ _ a7 _ _ _ _ _ _ => s.size - (intOf a7).toNat)
                  case atStart => exact ⟨0, false, false, false, false, i0, 0, 0, 0, rfl, rfl, by rfl, rfl, rfl, rfl, rfl, rfl, rfl, by omega, by decide, by decide, by omega, by decide, by decide, by omega, by omega⟩
                  case round =>
                    obtain ⟨m, tr, us, sd, sg, k, nd, nm, dp, rfl, rfl, rfl, rfl, rfl, rfl, rfl, rfl, rfl, hk, hnm, hnd, hndk, hm0, hm1, hdp0, hdp1⟩ := hrel
                    have HM1 := Lib.hid hm1
                    clear hm1
                    by_cases hlt : k < s.size
                    case neg =>
                      obtain rfl : k = s.size := by omega
                      go_wp2_with fail
                      go_meet
                      exact ⟨⟨m, tr, us, sd, sg, s.size, nd, nm, dp, rfl, rfl, rfl, rfl, rfl, rfl, rfl, rfl, rfl, hk, hnm, hnd, hndk, hm0, HM1.out, hdp0, hdp1⟩, rfl⟩
                    case pos =>
                      as_aux_lemma =>
                        obtain ⟨c, hq⟩ : ∃ c, (s[k].toNat : Int) = c := ⟨_, rfl⟩
                        have hc255 : c ≤ 255 := by have := s[k].toNat_lt; omega
                        by_cases h95 : c = 95
                        · subst h95
                          go_wp2_with fail
                          go_round
                          case rel => exact ⟨m, tr, true, sd, sg, k + 1, nd, nm, dp, rfl, rfl, by go_num, rfl, rfl, rfl, rfl, rfl, rfl, by omega, hnm, hnd, by omega, hm0, HM1.out, by omega, by omega⟩
                          case measure => simp [intOf]; omega
                        have g95 : (c == 95) = false := beq_eq_false_iff_ne.2 h95
                        clear h95
                        by_cases h46 : c = 46
                        · subst h46
                          cases sd
                          · go_wp2_with fail
                            go_round
                            case rel => exact ⟨m, tr, us, true, sg, k + 1, nd, nm, nd, rfl, rfl, by go_num, rfl, rfl, rfl, rfl, rfl, rfl, by omega, hnm, hnd, by omega, hm0, HM1.out, by omega, by omega⟩
                            case measure => simp [intOf]; omega
                          · go_wp2_with fail
                            go_meet
                            exact ⟨⟨m, tr, us, true, sg, k, nd, nm, dp, rfl, rfl, rfl, rfl, rfl, rfl, rfl, rfl, rfl, hk, hnm, hnd, hndk, hm0, HM1.out, hdp0, hdp1⟩, rfl⟩
                        have g46 : (c == 46) = false := beq_eq_false_iff_ne.2 h46
                        by_cases hdg : 48 ≤ c ∧ c ≤ 57
                        · obtain ⟨hd0, hd1⟩ := hdg
                          clear h46
                          by_cases hz : c = 48 ∧ nd = 0
                          · obtain ⟨rfl, rfl⟩ := hz
                            go_wp2_with fail
                            go_round
                            case rel => exact ⟨m, tr, us, sd, true, k + 1, 0, nm, dp - 1, rfl, rfl, by go_num, rfl, rfl, rfl, rfl, rfl, rfl, by omega, hnm, hnd, by omega, hm0, HM1.out, by omega, by omega⟩
                            case measure => simp [intOf]; omega
                          · by_cases hnmx : nm < 19
                            · have hp := pow10_lt hnmx HM1.out
                              have hw1 : IntKind.u64.wrap (m * 10) = m * 10 := by have := hp.1; rw [IntKind.wrap_u64]; omega
                              have hw2 : IntKind.u64.wrap (m * 10 + (c - 48)) = m * 10 + (c - 48) := by have := hp.1; rw [IntKind.wrap_u64]; omega
                              have HP := Lib.hid hp
                              clear hp
                              rcases Classical.em (c = 48) with h48 | h48
                              · subst h48
                                have hnd0 : ((nd : Int) == 0) = false := beq_eq_false_iff_ne.2 (by omega)
                                clear hz
                                go_wp2_with fail
                                go_round
                                case rel => exact ⟨_, tr, us, sd, true, k + 1, nd + 1, nm + 1, dp, rfl, rfl, by go_num, rfl, rfl, rfl, by go_num, by go_num, rfl, by omega, by omega, by omega, by omega, by omega, by have := HP.out.2 0 (by omega); push_cast at this ⊢; omega, by omega, by omega⟩
                                case measure => simp [intOf]; omega
                              · have h48' : (c == 48) = false := beq_eq_false_iff_ne.2 h48
                                clear hz h48
                                go_wp2_with fail
                                go_round
                                case rel => exact ⟨_, tr, us, sd, true, k + 1, nd + 1, nm + 1, dp, rfl, rfl, by go_num, rfl, rfl, rfl, by go_num, by go_num, rfl, by omega, by omega, by omega, by omega, by omega, by have := HP.out.2 (c - 48) (by omega); push_cast at this ⊢; omega, by omega, by omega⟩
                                case measure => simp [intOf]; omega
                            · rcases Classical.em (c = 48) with h48 | h48
                              · subst h48
                                have hnd0 : ((nd : Int) == 0) = false := beq_eq_false_iff_ne.2 (by omega)
                                clear hz
                                go_wp2_with fail
                                go_round
                                case rel => exact ⟨m, tr, us, sd, true, k + 1, nd + 1, nm, dp, rfl, rfl, by go_num, rfl, rfl, rfl, by go_num, rfl, rfl, by omega, by omega, by omega, by omega, by omega, HM1.out, by omega, by omega⟩
                                case measure => simp [intOf]; omega
                              · have h48' : (c == 48) = false := beq_eq_false_iff_ne.2 h48
                                have h48'' : (c != 48) = true := bne_iff_ne.2 h48
                                clear hz h48
                                go_wp2_with fail
                                go_round
                                case rel => exact ⟨m, true, us, sd, true, k + 1, nd + 1, nm, dp, rfl, rfl, by go_num, rfl, rfl, rfl, by go_num, rfl, rfl, by omega, by omega, by omega, by omega, by omega, HM1.out, by omega, by omega⟩
                                case measure => simp [intOf]; omega
                        · have hnd' : c < 48 ∨ 57 < c := by omega
                          clear h46 hdg
                          rcases hnd' with h | h
                          all_goals
                            go_wp2_with fail
                            go_meet
                            exact ⟨⟨m, tr, us, sd, sg, k, nd, nm, dp, rfl, rfl, rfl, rfl, rfl, rfl, rfl, rfl, rfl, hk, hnm, hnd, hndk, hm0, HM1.out, hdp0, hdp1⟩, rfl⟩
              case rest =>
                as_aux_lemma =>
                  obtain ⟨⟨m, tr, us, sd, sg, k, nd, nm, dp, rfl, rfl, rfl, rfl, rfl, rfl, rfl, rfl, rfl, hk, hnm, hnd, hndk, hm0, hm1, hdp0, hdp1⟩, rfl⟩ := hcut
                  have HM1 := Lib.hid (pow10_top hnm hm1)
                  clear hm1 hi00
                  cases sg
                  · go_wp2_with fail
                    all_goals
                      (try rw [Exit.noGoto_ret])
                      first
                        | (refine bodyPost_ret (v := .tuple #[.int .u64 m, .int .i64 (0), .bool neg, .bool tr, .bool false, .int .i64 (k), .bool false]) ?_ rfl ⟨m, 0, neg, tr, false, k, false, rfl, hm0, by have := HM1.out; omega, fun _ => HM1.out, by omega, by omega, by omega, rfl⟩; simp [results, Tryz.results170, go_sem]; done)
                  · go_upto_if 142 with fail
                    go_cut [17] from 143 to 143 (fun a17 wx => ∃ dp1 : Int, a17 = .int .i64 dp1 ∧ -100000 ≤ dp1 ∧ dp1 ≤ 100000 ∧ w = wx)
                    case first => cases sd <;> (go_wp2_with fail; go_meet; exact ⟨_, rfl, by omega, by omega, rfl⟩)
                    case rest =>
                      as_aux_lemma =>
                        obtain ⟨dp1, rfl, hd0, hd1, rfl⟩ := hcut
                        clear hdp0 hdp1
                        by_cases hk2 : k < s.size
                        case neg =>
                          cases us
                          all_goals
                            go_wp2_with (go_at_call 161; refine (underscore_any _ _ (by rw [ByteArray.size_extract]; omega)).mono ?_; rintro e w1 ⟨⟨uo, rfl⟩, rfl⟩; cases uo)
                            all_goals
                              (try rw [Exit.noGoto_ret])
                              first
                                | (refine bodyPost_ret (v := .tuple #[.int .u64 m, .int .i64 (dp1 - nm), .bool neg, .bool tr, .bool false, .int .i64 ((k : Int)), .bool true]) ?_ rfl ⟨m, dp1 - nm, neg, tr, false, k, true, rfl, hm0, by have := HM1.out; omega, fun _ => HM1.out, by omega, by omega, by omega, rfl⟩; simp [results, Tryz.results170, go_sem]; done)
                                | (refine bodyPost_ret (v := .tuple #[.int .u64 m, .int .i64 (0), .bool neg, .bool tr, .bool false, .int .i64 ((k : Int)), .bool true]) ?_ rfl ⟨m, 0, neg, tr, false, k, true, rfl, hm0, by have := HM1.out; omega, fun _ => HM1.out, by omega, by omega, by omega, rfl⟩; simp [results, Tryz.results170, go_sem]; done)
                                | (refine bodyPost_ret (v := .tuple #[.int .u64 m, .int .i64 (dp1 - nm), .bool neg, .bool tr, .bool false, .int .i64 ((k : Int)), .bool false]) ?_ rfl ⟨m, dp1 - nm, neg, tr, false, k, false, rfl, hm0, by have := HM1.out; omega, fun _ => HM1.out, by omega, by omega, by omega, rfl⟩; simp [results, Tryz.results170, go_sem]; done)
                                | (refine bodyPost_ret (v := .tuple #[.int .u64 m, .int .i64 (0), .bool neg, .bool tr, .bool false, .int .i64 ((k : Int)), .bool false]) ?_ rfl ⟨m, 0, neg, tr, false, k, false, rfl, hm0, by have := HM1.out; omega, fun _ => HM1.out, by omega, by omega, by omega, rfl⟩; simp [results, Tryz.results170, go_sem]; done)
                        case pos =>
                          as_aux_lemma =>
                            obtain ⟨L, hL⟩ : ∃ L, bits .or .u8 (s[k].toNat : Int) 32 = L := ⟨_, rfl⟩
                            cases hE : L == 101
                            case false =>
                              as_aux_lemma =>
                                cases us
                                all_goals
                                  go_wp2_with (first | (go_at_call 160; refine (lower_any _ _).mono ?_; rintro e w1 ⟨rfl, rfl⟩) | (go_at_call 161; refine (underscore_any _ _ (by rw [ByteArray.size_extract]; omega)).mono ?_; rintro e w1 ⟨⟨uo, rfl⟩, rfl⟩; cases uo))
                                  all_goals
                                    (try rw [Exit.noGoto_ret])
                                    first
                                      | (refine bodyPost_ret (v := .tuple #[.int .u64 m, .int .i64 (dp1 - nm), .bool neg, .bool tr, .bool false, .int .i64 ((k : Int)), .bool true]) ?_ rfl ⟨m, dp1 - nm, neg, tr, false, k, true, rfl, hm0, by have := HM1.out; omega, fun _ => HM1.out, by omega, by omega, by omega, rfl⟩; simp [results, Tryz.results170, go_sem]; done)
                                      | (refine bodyPost_ret (v := .tuple #[.int .u64 m, .int .i64 (0), .bool neg, .bool tr, .bool false, .int .i64 ((k : Int)), .bool true]) ?_ rfl ⟨m, 0, neg, tr, false, k, true, rfl, hm0, by have := HM1.out; omega, fun _ => HM1.out, by omega, by omega, by omega, rfl⟩; simp [results, Tryz.results170, go_sem]; done)
                                      | (refine bodyPost_ret (v := .tuple #[.int .u64 m, .int .i64 (dp1 - nm), .bool neg, .bool tr, .bool false, .int .i64 ((k : Int)), .bool false]) ?_ rfl ⟨m, dp1 - nm, neg, tr, false, k, false, rfl, hm0, by have := HM1.out; omega, fun _ => HM1.out, by omega, by omega, by omega, rfl⟩; simp [results, Tryz.results170, go_sem]; done)
                                      | (refine bodyPost_ret (v := .tuple #[.int .u64 m, .int .i64 (0), .bool neg, .bool tr, .bool false, .int .i64 ((k : Int)), .bool false]) ?_ rfl ⟨m, 0, neg, tr, false, k, false, rfl, hm0, by have := HM1.out; omega, fun _ => HM1.out, by omega, by omega, by omega, rfl⟩; simp [results, Tryz.results170, go_sem]; done)
                            case true =>
                              as_aux_lemma =>
                                by_cases hk3 : k + 1 < s.size
                                case neg =>
                                  have hk3' : ¬ (k : Int) + 1 < (s.size : Int) := by omega
                                  go_wp2_with (go_at_call 160; refine (lower_any _ _).mono ?_; rintro e w1 ⟨rfl, rfl⟩)
                                  all_goals
                                    (try rw [Exit.noGoto_ret])
                                    first
                                      | (refine bodyPost_ret (v := .tuple #[.int .u64 m, .int .i64 (0), .bool neg, .bool tr, .bool false, .int .i64 ((k : Int) + 1), .bool false]) ?_ rfl ⟨m, 0, neg, tr, false, k + 1, false, rfl, hm0, by have := HM1.out; omega, fun _ => HM1.out, by omega, by omega, by omega, rfl⟩; simp [results, Tryz.results170, go_sem]; done)
                                case pos =>
                                  as_aux_lemma =>
                                    have hk3' : (k : Int) + 1 < (s.size : Int) := by omega
                                    go_upto_block 4 with (go_at_call 160; refine (lower_any _ _).mono ?_; rintro e w1 ⟨rfl, rfl⟩)
                                    go_cut [7, 19] from 171 to 178 (fun a7 a19 wx => ∃ (j : Nat) (es : Int), a7 = .int .i64 j ∧ a19 = .int .i64 es ∧ k + 1 ≤ j ∧ j ≤ k + 2 ∧ (es = 1 ∨ es = -1) ∧ w = wx)
                                    case first =>
                                      as_aux_lemma =>
                                        go_wp2_with fail
                                        all_goals
                                          go_meet
                                          first
                                            | exact ⟨k + 2, 1, by go_num, rfl, by omega, by omega, .inl rfl, rfl⟩
                                            | exact ⟨k + 2, -1, by go_num, rfl, by omega, by omega, .inr rfl, rfl⟩
                                            | exact ⟨k + 1, 1, by go_num, rfl, by omega, by omega, .inl rfl, rfl⟩
                                    case rest =>
                                      as_aux_lemma =>
                                        obtain ⟨j, es, rfl, rfl, hj0, hj1, hes, rfl⟩ := hcut
                                        by_cases hj : j < s.size
                                        case neg =>
                                          have hj' : ¬ (j : Int) < (s.size : Int) := by omega
                                          clear hes
                                          go_wp2_with fail
                                          all_goals
                                            (try rw [Exit.noGoto_ret])
                                            first
                                              | (refine bodyPost_ret (v := .tuple #[.int .u64 m, .int .i64 (0), .bool neg, .bool tr, .bool false, .int .i64 ((j : Int)), .bool false]) ?_ rfl ⟨m, 0, neg, tr, false, j, false, rfl, hm0, by have := HM1.out; omega, fun _ => HM1.out, by omega, by omega, by omega, rfl⟩; simp [results, Tryz.results170, go_sem]; done)
                                        case pos =>
                                          as_aux_lemma =>
                                            obtain ⟨c, hq⟩ : ∃ c, (s[j].toNat : Int) = c := ⟨_, rfl⟩
                                            by_cases hc0 : c < 48
                                            · clear hes
                                              go_wp2_with fail
                                              all_goals
                                                (try rw [Exit.noGoto_ret])
                                                first
                                                  | (refine bodyPost_ret (v := .tuple #[.int .u64 m, .int .i64 (0), .bool neg, .bool tr, .bool false, .int .i64 ((j : Int)), .bool false]) ?_ rfl ⟨m, 0, neg, tr, false, j, false, rfl, hm0, by have := HM1.out; omega, fun _ => HM1.out, by omega, by omega, by omega, rfl⟩; simp [results, Tryz.results170, go_sem]; done)
                                            by_cases hc1 : 57 < c
                                            · clear hes
                                              go_wp2_with fail
                                              all_goals
                                                (try rw [Exit.noGoto_ret])
                                                first
                                                  | (refine bodyPost_ret (v := .tuple #[.int .u64 m, .int .i64 (0), .bool neg, .bool tr, .bool false, .int .i64 ((j : Int)), .bool false]) ?_ rfl ⟨m, 0, neg, tr, false, j, false, rfl, hm0, by have := HM1.out; omega, fun _ => HM1.out, by omega, by omega, by omega, rfl⟩; simp [results, Tryz.results170, go_sem]; done)
                                            have hc0' : 48 ≤ c := by omega
                                            have hc1' : c ≤ 57 := by omega
                                            have HES := Lib.hid hes
                                            clear hes
                                            go_upto_block 5 with fail
                                            go_cut [7, 9, 20] from 182 to 232 (fun a7 a9 a20 wx => ∃ (q e : Nat) (us : Bool), a7 = .int .i64 q ∧ a9 = .bool us ∧ a20 = .int .i64 e ∧ q ≤ s.size ∧ e ≤ 99999 ∧ w = wx)
                                            case first =>
                                              as_aux_lemma =>
                                                go_wp2_with fail
                                                go_loop [7, 9, 20] (fun a7 a9 a20 => ∃ (q e : Nat) (us : Bool), a7 = .int .i64 q ∧ a9 = .bool us ∧ a20 = .int .i64 e ∧ q ≤ s.size ∧ e ≤ 99999) (fun a7 _ _ => s.size - (intOf a7).toNat)
                                                case atStart => exact ⟨j, 0, us, rfl, rfl, rfl, by omega, by decide⟩
                                                case round =>
                                                  obtain ⟨q, e, us, rfl, rfl, rfl, hq0, he0⟩ := hrel
                                                  clear hq hj
                                                  by_cases hql : q < s.size
                                                  case neg =>
                                                    have hql' : ¬ (q : Int) < (s.size : Int) := by omega
                                                    go_wp2_with fail
                                                    go_meet
                                                    exact ⟨q, e, us, rfl, rfl, rfl, hq0, he0, rfl⟩
                                                  case pos =>
                                                    as_aux_lemma =>
                                                      obtain ⟨d, hqd⟩ : ∃ d, (s[q].toNat : Int) = d := ⟨_, rfl⟩
                                                      by_cases h95 : d = 95
                                                      · subst h95
                                                        go_wp2_with fail
                                                        go_round
                                                        case rel => exact ⟨q + 1, e, true, by go_num, rfl, rfl, by omega, he0⟩
                                                        case measure => simp [intOf]; omega
                                                      have g95 : (d == 95) = false := beq_eq_false_iff_ne.2 h95
                                                      clear h95
                                                      by_cases hd0 : d < 48
                                                      · go_wp2_with fail
                                                        go_meet
                                                        exact ⟨q, e, us, rfl, rfl, rfl, hq0, he0, rfl⟩
                                                      by_cases hd1 : 57 < d
                                                      · go_wp2_with fail
                                                        go_meet
                                                        exact ⟨q, e, us, rfl, rfl, rfl, hq0, he0, rfl⟩
                                                      have hd0' : 48 ≤ d := by omega
                                                      have hd1' : d ≤ 57 := by omega
                                                      by_cases he1 : e < 10000
                                                      · have he1' : (e : Int) < 10000 := by omega
                                                        go_wp2_with fail
                                                        go_round
                                                        case rel => exact ⟨q + 1, (e * 10 + d - 48).toNat, us, by go_num, rfl, by rw [Int.toNat_of_nonneg (by omega)], by omega, by omega⟩
                                                        case measure => simp [intOf]; omega
                                                      · have he1' : ¬ (e : Int) < 10000 := by omega
                                                        go_wp2_with fail
                                                        go_round
                                                        case rel => exact ⟨q + 1, e, us, by go_num, rfl, rfl, by omega, he0⟩
                                                        case measure => simp [intOf]; omega
                                            case rest =>
                                              as_aux_lemma =>
                                                obtain ⟨q, e, us, rfl, rfl, rfl, hq0, he0, rfl⟩ := hcut
                                                rcases HES.out with rfl | rfl
                                                all_goals
                                                  clear HES
                                                  cases us
                                                  all_goals
                                                    go_wp2_with (go_at_call 161; refine (underscore_any _ _ (by rw [ByteArray.size_extract]; omega)).mono ?_; rintro e w1 ⟨⟨uo, rfl⟩, rfl⟩; cases uo)
                                                    all_goals
                                                      (try rw [Exit.noGoto_ret])
                                                      first
                                                        | (refine bodyPost_ret (v := .tuple #[.int .u64 m, .int .i64 (dp1 + e - nm), .bool neg, .bool tr, .bool false, .int .i64 ((q : Int)), .bool true]) ?_ rfl ⟨m, dp1 + e - nm, neg, tr, false, q, true, rfl, hm0, by have := HM1.out; omega, fun _ => HM1.out, by omega, by omega, by omega, rfl⟩; simp [results, Tryz.results170, go_sem]; done)
                                                        | (refine bodyPost_ret (v := .tuple #[.int .u64 m, .int .i64 (dp1 + -e - nm), .bool neg, .bool tr, .bool false, .int .i64 ((q : Int)), .bool true]) ?_ rfl ⟨m, dp1 + -e - nm, neg, tr, false, q, true, rfl, hm0, by have := HM1.out; omega, fun _ => HM1.out, by omega, by omega, by omega, rfl⟩; simp [results, Tryz.results170, go_sem]; done)
                                                        | (refine bodyPost_ret (v := .tuple #[.int .u64 m, .int .i64 (dp1 - e - nm), .bool neg, .bool tr, .bool false, .int .i64 ((q : Int)), .bool true]) ?_ rfl ⟨m, dp1 - e - nm, neg, tr, false, q, true, rfl, hm0, by have := HM1.out; omega, fun _ => HM1.out, by omega, by omega, by omega, rfl⟩; simp [results, Tryz.results170, go_sem]; done)
                                                        | (refine bodyPost_ret (v := .tuple #[.int .u64 m, .int .i64 (0), .bool neg, .bool tr, .bool false, .int .i64 ((q : Int)), .bool true]) ?_ rfl ⟨m, 0, neg, tr, false, q, true, rfl, hm0, by have := HM1.out; omega, fun _ => HM1.out, by omega, by omega, by omega, rfl⟩; simp [results, Tryz.results170, go_sem]; done)
                                                        | (refine bodyPost_ret (v := .tuple #[.int .u64 m, .int .i64 (dp1 + e - nm), .bool neg, .bool tr, .bool false, .int .i64 ((q : Int)), .bool false]) ?_ rfl ⟨m, dp1 + e - nm, neg, tr, false, q, false, rfl, hm0, by have := HM1.out; omega, fun _ => HM1.out, by omega, by omega, by omega, rfl⟩; simp [results, Tryz.results170, go_sem]; done)
                                                        | (refine bodyPost_ret (v := .tuple #[.int .u64 m, .int .i64 (dp1 + -e - nm), .bool neg, .bool tr, .bool false, .int .i64 ((q : Int)), .bool false]) ?_ rfl ⟨m, dp1 + -e - nm, neg, tr, false, q, false, rfl, hm0, by have := HM1.out; omega, fun _ => HM1.out, by omega, by omega, by omega, rfl⟩; simp [results, Tryz.results170, go_sem]; done)
                                                        | (refine bodyPost_ret (v := .tuple #[.int .u64 m, .int .i64 (dp1 - e - nm), .bool neg, .bool tr, .bool false, .int .i64 ((q : Int)), .bool false]) ?_ rfl ⟨m, dp1 - e - nm, neg, tr, false, q, false, rfl, hm0, by have := HM1.out; omega, fun _ => HM1.out, by omega, by omega, by omega, rfl⟩; simp [results, Tryz.results170, go_sem]; done)
                                                        | (refine bodyPost_ret (v := .tuple #[.int .u64 m, .int .i64 (0), .bool neg, .bool tr, .bool false, .int .i64 ((q : Int)), .bool false]) ?_ rfl ⟨m, 0, neg, tr, false, q, false, rfl, hm0, by have := HM1.out; omega, fun _ => HM1.out, by omega, by omega, by omega, rfl⟩; simp [results, Tryz.results170, go_sem]; done)
          case true =>
            as_aux_lemma =>
              have hi00 : i0 + 2 ≤ s.size := by have := hhx rfl; omega
              clear hhx
              go_wp2_with fail
              go_step3
              go_upto_block 1 with fail
              go_cut [2, 5, 7, 9, 13, 14, 15, 16, 17] from 57 to 138 (fun a2 a5 a7 a9 a13 a14 a15 a16 a17 wx => RXI 16 16 s a2 a5 a7 a9 a13 a14 a15 a16 a17 ∧ w = wx)
              case first =>
                as_aux_lemma =>
                  go_wp2_with fail
                  go_loop [2, 5, 7, 9, 13, 14, 15, 16, 17] (fun a2 a5 a7 a9 a13 a14 a15 a16 a17 => RXI 16 16 s a2 a5 a7 a9 a13 a14 a15 a16 a17) (fun _ _ a7 _ _ _ _ _ _ => s.size - (intOf a7).toNat)
                  case atStart => exact ⟨0, false, false, false, false, i0 + 2, 0, 0, 0, rfl, rfl, by go_num, rfl, rfl, rfl, rfl, rfl, rfl, by omega, by decide, by decide, by omega, by decide, by decide, by omega, by omega⟩
                  case round =>
                    obtain ⟨m, tr, us, sd, sg, k, nd, nm, dp, rfl, rfl, rfl, rfl, rfl, rfl, rfl, rfl, rfl, hk, hnm, hnd, hndk, hm0, hm1, hdp0, hdp1⟩ := hrel
                    have HM1 := Lib.hid hm1
                    clear hm1
                    by_cases hlt : k < s.size
                    case neg =>
                      obtain rfl : k = s.size := by omega
                      go_wp2_with fail
                      go_meet
                      exact ⟨⟨m, tr, us, sd, sg, s.size, nd, nm, dp, rfl, rfl, rfl, rfl, rfl, rfl, rfl, rfl, rfl, hk, hnm, hnd, hndk, hm0, HM1.out, hdp0, hdp1⟩, rfl⟩
                    case pos =>
                      as_aux_lemma =>
                        obtain ⟨c, hq⟩ : ∃ c, (s[k].toNat : Int) = c := ⟨_, rfl⟩
                        have hc255 : c ≤ 255 := by have := s[k].toNat_lt; omega
                        by_cases h95 : c = 95
                        · subst h95
                          go_wp2_with fail
                          go_round
                          case rel => exact ⟨m, tr, true, sd, sg, k + 1, nd, nm, dp, rfl, rfl, by go_num, rfl, rfl, rfl, rfl, rfl, rfl, by omega, hnm, hnd, by omega, hm0, HM1.out, by omega, by omega⟩
                          case measure => simp [intOf]; omega
                        have g95 : (c == 95) = false := beq_eq_false_iff_ne.2 h95
                        clear h95
                        by_cases h46 : c = 46
                        · subst h46
                          cases sd
                          · go_wp2_with fail
                            go_round
                            case rel => exact ⟨m, tr, us, true, sg, k + 1, nd, nm, nd, rfl, rfl, by go_num, rfl, rfl, rfl, rfl, rfl, rfl, by omega, hnm, hnd, by omega, hm0, HM1.out, by omega, by omega⟩
                            case measure => simp [intOf]; omega
                          · go_wp2_with fail
                            go_meet
                            exact ⟨⟨m, tr, us, true, sg, k, nd, nm, dp, rfl, rfl, rfl, rfl, rfl, rfl, rfl, rfl, rfl, hk, hnm, hnd, hndk, hm0, HM1.out, hdp0, hdp1⟩, rfl⟩
                        have g46 : (c == 46) = false := beq_eq_false_iff_ne.2 h46
                        by_cases hdg : 48 ≤ c ∧ c ≤ 57
                        · obtain ⟨hd0, hd1⟩ := hdg
                          clear h46
                          by_cases hz : c = 48 ∧ nd = 0
                          · obtain ⟨rfl, rfl⟩ := hz
                            go_wp2_with fail
                            go_round
                            case rel => exact ⟨m, tr, us, sd, true, k + 1, 0, nm, dp - 1, rfl, rfl, by go_num, rfl, rfl, rfl, rfl, rfl, rfl, by omega, hnm, hnd, by omega, hm0, HM1.out, by omega, by omega⟩
                            case measure => simp [intOf]; omega
                          · by_cases hnmx : nm < 16
                            · have hp := pow16_lt hnmx HM1.out
                              have hw1 : IntKind.u64.wrap (m * 16) = m * 16 := by have := hp.1; rw [IntKind.wrap_u64]; omega
                              have hw2 : IntKind.u64.wrap (m * 16 + (c - 48)) = m * 16 + (c - 48) := by have := hp.1; rw [IntKind.wrap_u64]; omega
                              have HP := Lib.hid hp
                              clear hp
                              rcases Classical.em (c = 48) with h48 | h48
                              · subst h48
                                have hnd0 : ((nd : Int) == 0) = false := beq_eq_false_iff_ne.2 (by omega)
                                clear hz
                                go_wp2_with fail
                                go_round
                                case rel => exact ⟨_, tr, us, sd, true, k + 1, nd + 1, nm + 1, dp, rfl, rfl, by go_num, rfl, rfl, rfl, by go_num, by go_num, rfl, by omega, by omega, by omega, by omega, by omega, by have := HP.out.2 0 (by omega); push_cast at this ⊢; omega, by omega, by omega⟩
                                case measure => simp [intOf]; omega
                              · have h48' : (c == 48) = false := beq_eq_false_iff_ne.2 h48
                                clear hz h48
                                go_wp2_with fail
                                go_round
                                case rel => exact ⟨_, tr, us, sd, true, k + 1, nd + 1, nm + 1, dp, rfl, rfl, by go_num, rfl, rfl, rfl, by go_num, by go_num, rfl, by omega, by omega, by omega, by omega, by omega, by have := HP.out.2 (c - 48) (by omega); push_cast at this ⊢; omega, by omega, by omega⟩
                                case measure => simp [intOf]; omega
                            · rcases Classical.em (c = 48) with h48 | h48
                              · subst h48
                                have hnd0 : ((nd : Int) == 0) = false := beq_eq_false_iff_ne.2 (by omega)
                                clear hz
                                go_wp2_with fail
                                go_round
                                case rel => exact ⟨m, tr, us, sd, true, k + 1, nd + 1, nm, dp, rfl, rfl, by go_num, rfl, rfl, rfl, by go_num, rfl, rfl, by omega, by omega, by omega, by omega, by omega, HM1.out, by omega, by omega⟩
                                case measure => simp [intOf]; omega
                              · have h48' : (c == 48) = false := beq_eq_false_iff_ne.2 h48
                                have h48'' : (c != 48) = true := bne_iff_ne.2 h48
                                clear hz h48
                                go_wp2_with fail
                                go_round
                                case rel => exact ⟨m, true, us, sd, true, k + 1, nd + 1, nm, dp, rfl, rfl, by go_num, rfl, rfl, rfl, by go_num, rfl, rfl, by omega, by omega, by omega, by omega, by omega, HM1.out, by omega, by omega⟩
                                case measure => simp [intOf]; omega
                        · have hnd' : c < 48 ∨ 57 < c := by omega
                          clear h46 hdg
                          obtain ⟨L, hL⟩ : ∃ L, bits .or .u8 c 32 = L := ⟨_, rfl⟩
                          have HLL := Lib.hid hL
                          by_cases hx0 : 97 ≤ L ∧ L ≤ 102
                          · obtain ⟨hx1, hx2⟩ := hx0
                            by_cases hnmx : nm < 16
                            · have hp := pow16_lt hnmx HM1.out
                              have hw1 : IntKind.u64.wrap (m * 16) = m * 16 := by have := hp.1; rw [IntKind.wrap_u64]; omega
                              have hw3 : IntKind.u8.wrap (L - 97) = L - 97 := by rw [IntKind.wrap_u8]; omega
                              have hw4 : IntKind.u8.wrap (L - 97 + 10) = L - 97 + 10 := by rw [IntKind.wrap_u8]; omega
                              have hw2 : IntKind.u64.wrap (m * 16 + (L - 97 + 10)) = m * 16 + (L - 97 + 10) := by have := hp.1; rw [IntKind.wrap_u64]; omega
                              have HP := Lib.hid hp
                              clear hp
                              rcases hnd' with h | h
                              all_goals
                                go_wp2_with (go_at_call 160; refine (lower_any _ _).mono ?_; rintro e w1 ⟨rfl, rfl⟩)
                                go_round
                                case rel => exact ⟨_, tr, us, sd, true, k + 1, nd + 1, nm + 1, dp, rfl, rfl, by go_num, rfl, rfl, rfl, by go_num, by go_num, rfl, by omega, by omega, by omega, by omega, by omega, by have := HP.out.2 (L - 97 + 10) (by omega); push_cast at this ⊢; omega, by omega, by omega⟩
                                case measure => simp [intOf]; omega
                            · rcases hnd' with h | h
                              all_goals
                                go_wp2_with (go_at_call 160; refine (lower_any _ _).mono ?_; rintro e w1 ⟨rfl, rfl⟩)
                                go_round
                                case rel => exact ⟨m, true, us, sd, true, k + 1, nd + 1, nm, dp, rfl, rfl, by go_num, rfl, rfl, rfl, by go_num, rfl, rfl, by omega, by omega, by omega, by omega, by omega, HM1.out, by omega, by omega⟩
                                case measure => simp [intOf]; omega
                          · have hx3 : L < 97 ∨ 102 < L := by omega
                            clear hx0
                            rcases hx3 with hx3 | hx3
                            all_goals
                              rcases hnd' with h | h
                              all_goals
                                go_wp2_with (go_at_call 160; refine (lower_any _ _).mono ?_; rintro e w1 ⟨rfl, rfl⟩)
                                go_meet
                                exact ⟨⟨m, tr, us, sd, sg, k, nd, nm, dp, rfl, rfl, rfl, rfl, rfl, rfl, rfl, rfl, rfl, hk, hnm, hnd, hndk, hm0, HM1.out, hdp0, hdp1⟩, rfl⟩
              case rest =>
                as_aux_lemma =>
                  obtain ⟨⟨m, tr, us, sd, sg, k, nd, nm, dp, rfl, rfl, rfl, rfl, rfl, rfl, rfl, rfl, rfl, hk, hnm, hnd, hndk, hm0, hm1, hdp0, hdp1⟩, rfl⟩ := hcut
                  have HM1 := Lib.hid (pow16_top hnm hm1)
                  clear hm1 hi00
                  cases sg
                  · go_wp2_with fail
                    all_goals
                      (try rw [Exit.noGoto_ret])
                      first
                        | (refine bodyPost_ret (v := .tuple #[.int .u64 m, .int .i64 (0), .bool neg, .bool tr, .bool true, .int .i64 (k), .bool false]) ?_ rfl ⟨m, 0, neg, tr, true, k, false, rfl, hm0, by have := HM1.out; omega, fun e => absurd e (by decide), by omega, by omega, by omega, rfl⟩; simp [results, Tryz.results170, go_sem]; done)
                  · go_upto_if 142 with fail
                    go_cut [17] from 143 to 143 (fun a17 wx => ∃ dp1 : Int, a17 = .int .i64 dp1 ∧ -100000 ≤ dp1 ∧ dp1 ≤ 100000 ∧ w = wx)
                    case first => cases sd <;> (go_wp2_with fail; go_meet; exact ⟨_, rfl, by omega, by omega, rfl⟩)
                    case rest =>
                      as_aux_lemma =>
                        obtain ⟨dp1, rfl, hd0, hd1, rfl⟩ := hcut
                        clear hdp0 hdp1
                        by_cases hk2 : k < s.size
                        case neg =>
                          cases us
                          all_goals
                            go_wp2_with fail
                            all_goals
                              (try rw [Exit.noGoto_ret])
                              first
                                | (refine bodyPost_ret (v := .tuple #[.int .u64 m, .int .i64 (dp1 * 4 - nm * 4), .bool neg, .bool tr, .bool true, .int .i64 ((k : Int)), .bool true]) ?_ rfl ⟨m, dp1 * 4 - nm * 4, neg, tr, true, k, true, rfl, hm0, by have := HM1.out; omega, fun e => absurd e (by decide), by omega, by omega, by omega, rfl⟩; simp [results, Tryz.results170, go_sem]; done)
                                | (refine bodyPost_ret (v := .tuple #[.int .u64 m, .int .i64 (0), .bool neg, .bool tr, .bool true, .int .i64 ((k : Int)), .bool true]) ?_ rfl ⟨m, 0, neg, tr, true, k, true, rfl, hm0, by have := HM1.out; omega, fun e => absurd e (by decide), by omega, by omega, by omega, rfl⟩; simp [results, Tryz.results170, go_sem]; done)
                                | (refine bodyPost_ret (v := .tuple #[.int .u64 m, .int .i64 (dp1 * 4 - nm * 4), .bool neg, .bool tr, .bool true, .int .i64 ((k : Int)), .bool false]) ?_ rfl ⟨m, dp1 * 4 - nm * 4, neg, tr, true, k, false, rfl, hm0, by have := HM1.out; omega, fun e => absurd e (by decide), by omega, by omega, by omega, rfl⟩; simp [results, Tryz.results170, go_sem]; done)
                                | (refine bodyPost_ret (v := .tuple #[.int .u64 m, .int .i64 (0), .bool neg, .bool tr, .bool true, .int .i64 ((k : Int)), .bool false]) ?_ rfl ⟨m, 0, neg, tr, true, k, false, rfl, hm0, by have := HM1.out; omega, fun e => absurd e (by decide), by omega, by omega, by omega, rfl⟩; simp [results, Tryz.results170, go_sem]; done)
                        case pos =>
                          as_aux_lemma =>
                            obtain ⟨L, hL⟩ : ∃ L, bits .or .u8 (s[k].toNat : Int) 32 = L := ⟨_, rfl⟩
                            cases hE : L == 112
                            case false =>
                              as_aux_lemma =>
                                cases us
                                all_goals
                                  go_wp2_with (go_at_call 160; refine (lower_any _ _).mono ?_; rintro e w1 ⟨rfl, rfl⟩)
                                  all_goals
                                    (try rw [Exit.noGoto_ret])
                                    first
                                      | (refine bodyPost_ret (v := .tuple #[.int .u64 m, .int .i64 (dp1 * 4 - nm * 4), .bool neg, .bool tr, .bool true, .int .i64 ((k : Int)), .bool true]) ?_ rfl ⟨m, dp1 * 4 - nm * 4, neg, tr, true, k, true, rfl, hm0, by have := HM1.out; omega, fun e => absurd e (by decide), by omega, by omega, by omega, rfl⟩; simp [results, Tryz.results170, go_sem]; done)
                                      | (refine bodyPost_ret (v := .tuple #[.int .u64 m, .int .i64 (0), .bool neg, .bool tr, .bool true, .int .i64 ((k : Int)), .bool true]) ?_ rfl ⟨m, 0, neg, tr, true, k, true, rfl, hm0, by have := HM1.out; omega, fun e => absurd e (by decide), by omega, by omega, by omega, rfl⟩; simp [results, Tryz.results170, go_sem]; done)
                                      | (refine bodyPost_ret (v := .tuple #[.int .u64 m, .int .i64 (dp1 * 4 - nm * 4), .bool neg, .bool tr, .bool true, .int .i64 ((k : Int)), .bool false]) ?_ rfl ⟨m, dp1 * 4 - nm * 4, neg, tr, true, k, false, rfl, hm0, by have := HM1.out; omega, fun e => absurd e (by decide), by omega, by omega, by omega, rfl⟩; simp [results, Tryz.results170, go_sem]; done)
                                      | (refine bodyPost_ret (v := .tuple #[.int .u64 m, .int .i64 (0), .bool neg, .bool tr, .bool true, .int .i64 ((k : Int)), .bool false]) ?_ rfl ⟨m, 0, neg, tr, true, k, false, rfl, hm0, by have := HM1.out; omega, fun e => absurd e (by decide), by omega, by omega, by omega, rfl⟩; simp [results, Tryz.results170, go_sem]; done)
                            case true =>
                              as_aux_lemma =>
                                by_cases hk3 : k + 1 < s.size
                                case neg =>
                                  have hk3' : ¬ (k : Int) + 1 < (s.size : Int) := by omega
                                  go_wp2_with (go_at_call 160; refine (lower_any _ _).mono ?_; rintro e w1 ⟨rfl, rfl⟩)
                                  all_goals
                                    (try rw [Exit.noGoto_ret])
                                    first
                                      | (refine bodyPost_ret (v := .tuple #[.int .u64 m, .int .i64 (0), .bool neg, .bool tr, .bool true, .int .i64 ((k : Int) + 1), .bool false]) ?_ rfl ⟨m, 0, neg, tr, true, k + 1, false, rfl, hm0, by have := HM1.out; omega, fun e => absurd e (by decide), by omega, by omega, by omega, rfl⟩; simp [results, Tryz.results170, go_sem]; done)
                                case pos =>
                                  as_aux_lemma =>
                                    have hk3' : (k : Int) + 1 < (s.size : Int) := by omega
                                    go_upto_block 4 with (go_at_call 160; refine (lower_any _ _).mono ?_; rintro e w1 ⟨rfl, rfl⟩)
                                    go_cut [7, 19] from 171 to 178 (fun a7 a19 wx => ∃ (j : Nat) (es : Int), a7 = .int .i64 j ∧ a19 = .int .i64 es ∧ k + 1 ≤ j ∧ j ≤ k + 2 ∧ (es = 1 ∨ es = -1) ∧ w = wx)
                                    case first =>
                                      as_aux_lemma =>
                                        go_wp2_with fail
                                        all_goals
                                          go_meet
                                          first
                                            | exact ⟨k + 2, 1, by go_num, rfl, by omega, by omega, .inl rfl, rfl⟩
                                            | exact ⟨k + 2, -1, by go_num, rfl, by omega, by omega, .inr rfl, rfl⟩
                                            | exact ⟨k + 1, 1, by go_num, rfl, by omega, by omega, .inl rfl, rfl⟩
                                    case rest =>
                                      as_aux_lemma =>
                                        obtain ⟨j, es, rfl, rfl, hj0, hj1, hes, rfl⟩ := hcut
                                        by_cases hj : j < s.size
                                        case neg =>
                                          have hj' : ¬ (j : Int) < (s.size : Int) := by omega
                                          clear hes
                                          go_wp2_with fail
                                          all_goals
                                            (try rw [Exit.noGoto_ret])
                                            first
                                              | (refine bodyPost_ret (v := .tuple #[.int .u64 m, .int .i64 (0), .bool neg, .bool tr, .bool true, .int .i64 ((j : Int)), .bool false]) ?_ rfl ⟨m, 0, neg, tr, true, j, false, rfl, hm0, by have := HM1.out; omega, fun e => absurd e (by decide), by omega, by omega, by omega, rfl⟩; simp [results, Tryz.results170, go_sem]; done)
                                        case pos =>
                                          as_aux_lemma =>
                                            obtain ⟨c, hq⟩ : ∃ c, (s[j].toNat : Int) = c := ⟨_, rfl⟩
                                            by_cases hc0 : c < 48
                                            · clear hes
                                              go_wp2_with fail
                                              all_goals
                                                (try rw [Exit.noGoto_ret])
                                                first
                                                  | (refine bodyPost_ret (v := .tuple #[.int .u64 m, .int .i64 (0), .bool neg, .bool tr, .bool true, .int .i64 ((j : Int)), .bool false]) ?_ rfl ⟨m, 0, neg, tr, true, j, false, rfl, hm0, by have := HM1.out; omega, fun e => absurd e (by decide), by omega, by omega, by omega, rfl⟩; simp [results, Tryz.results170, go_sem]; done)
                                            by_cases hc1 : 57 < c
                                            · clear hes
                                              go_wp2_with fail
                                              all_goals
                                                (try rw [Exit.noGoto_ret])
                                                first
                                                  | (refine bodyPost_ret (v := .tuple #[.int .u64 m, .int .i64 (0), .bool neg, .bool tr, .bool true, .int .i64 ((j : Int)), .bool false]) ?_ rfl ⟨m, 0, neg, tr, true, j, false, rfl, hm0, by have := HM1.out; omega, fun e => absurd e (by decide), by omega, by omega, by omega, rfl⟩; simp [results, Tryz.results170, go_sem]; done)
                                            have hc0' : 48 ≤ c := by omega
                                            have hc1' : c ≤ 57 := by omega
                                            have HES := Lib.hid hes
                                            clear hes
                                            go_upto_block 5 with fail
                                            go_cut [7, 9, 20] from 182 to 232 (fun a7 a9 a20 wx => ∃ (q e : Nat) (us : Bool), a7 = .int .i64 q ∧ a9 = .bool us ∧ a20 = .int .i64 e ∧ q ≤ s.size ∧ e ≤ 99999 ∧ w = wx)
                                            case first =>
                                              as_aux_lemma =>
                                                go_wp2_with fail
                                                go_loop [7, 9, 20] (fun a7 a9 a20 => ∃ (q e : Nat) (us : Bool), a7 = .int .i64 q ∧ a9 = .bool us ∧ a20 = .int .i64 e ∧ q ≤ s.size ∧ e ≤ 99999) (fun a7 _ _ => s.size - (intOf a7).toNat)
                                                case atStart => exact ⟨j, 0, us, rfl, rfl, rfl, by omega, by decide⟩
                                                case round =>
                                                  obtain ⟨q, e, us, rfl, rfl, rfl, hq0, he0⟩ := hrel
                                                  clear hq hj
                                                  by_cases hql : q < s.size
                                                  case neg =>
                                                    have hql' : ¬ (q : Int) < (s.size : Int) := by omega
                                                    go_wp2_with fail
                                                    go_meet
                                                    exact ⟨q, e, us, rfl, rfl, rfl, hq0, he0, rfl⟩
                                                  case pos =>
                                                    as_aux_lemma =>
                                                      obtain ⟨d, hqd⟩ : ∃ d, (s[q].toNat : Int) = d := ⟨_, rfl⟩
                                                      by_cases h95 : d = 95
                                                      · subst h95
                                                        go_wp2_with fail
                                                        go_round
                                                        case rel => exact ⟨q + 1, e, true, by go_num, rfl, rfl, by omega, he0⟩
                                                        case measure => simp [intOf]; omega
                                                      have g95 : (d == 95) = false := beq_eq_false_iff_ne.2 h95
                                                      clear h95
                                                      by_cases hd0 : d < 48
                                                      · go_wp2_with fail
                                                        go_meet
                                                        exact ⟨q, e, us, rfl, rfl, rfl, hq0, he0, rfl⟩
                                                      by_cases hd1 : 57 < d
                                                      · go_wp2_with fail
                                                        go_meet
                                                        exact ⟨q, e, us, rfl, rfl, rfl, hq0, he0, rfl⟩
                                                      have hd0' : 48 ≤ d := by omega
                                                      have hd1' : d ≤ 57 := by omega
                                                      by_cases he1 : e < 10000
                                                      · have he1' : (e : Int) < 10000 := by omega
                                                        go_wp2_with fail
                                                        go_round
                                                        case rel => exact ⟨q + 1, (e * 10 + d - 48).toNat, us, by go_num, rfl, by rw [Int.toNat_of_nonneg (by omega)], by omega, by omega⟩
                                                        case measure => simp [intOf]; omega
                                                      · have he1' : ¬ (e : Int) < 10000 := by omega
                                                        go_wp2_with fail
                                                        go_round
                                                        case rel => exact ⟨q + 1, e, us, by go_num, rfl, rfl, by omega, he0⟩
                                                        case measure => simp [intOf]; omega
                                            case rest =>
                                              as_aux_lemma =>
                                                obtain ⟨q, e, us, rfl, rfl, rfl, hq0, he0, rfl⟩ := hcut
                                                rcases HES.out with rfl | rfl
                                                all_goals
                                                  clear HES
                                                  cases us
                                                  all_goals
                                                    go_wp2_with (go_at_call 161; refine (underscore_any _ _ (by rw [ByteArray.size_extract]; omega)).mono ?_; rintro e w1 ⟨⟨uo, rfl⟩, rfl⟩; cases uo)
                                                    all_goals
                                                      (try rw [Exit.noGoto_ret])
                                                      first
                                                        | (refine bodyPost_ret (v := .tuple #[.int .u64 m, .int .i64 (dp1 * 4 + e - nm * 4), .bool neg, .bool tr, .bool true, .int .i64 ((q : Int)), .bool true]) ?_ rfl ⟨m, dp1 * 4 + e - nm * 4, neg, tr, true, q, true, rfl, hm0, by have := HM1.out; omega, fun e => absurd e (by decide), by omega, by omega, by omega, rfl⟩; simp [results, Tryz.results170, go_sem]; done)
                                                        | (refine bodyPost_ret (v := .tuple #[.int .u64 m, .int .i64 (dp1 * 4 + -e - nm * 4), .bool neg, .bool tr, .bool true, .int .i64 ((q : Int)), .bool true]) ?_ rfl ⟨m, dp1 * 4 + -e - nm * 4, neg, tr, true, q, true, rfl, hm0, by have := HM1.out; omega, fun e => absurd e (by decide), by omega, by omega, by omega, rfl⟩; simp [results, Tryz.results170, go_sem]; done)
                                                        | (refine bodyPost_ret (v := .tuple #[.int .u64 m, .int .i64 (dp1 * 4 - e - nm * 4), .bool neg, .bool tr, .bool true, .int .i64 ((q : Int)), .bool true]) ?_ rfl ⟨m, dp1 * 4 - e - nm * 4, neg, tr, true, q, true, rfl, hm0, by have := HM1.out; omega, fun e => absurd e (by decide), by omega, by omega, by omega, rfl⟩; simp [results, Tryz.results170, go_sem]; done)
                                                        | (refine bodyPost_ret (v := .tuple #[.int .u64 m, .int .i64 (0), .bool neg, .bool tr, .bool true, .int .i64 ((q : Int)), .bool true]) ?_ rfl ⟨m, 0, neg, tr, true, q, true, rfl, hm0, by have := HM1.out; omega, fun e => absurd e (by decide), by omega, by omega, by omega, rfl⟩; simp [results, Tryz.results170, go_sem]; done)
                                                        | (refine bodyPost_ret (v := .tuple #[.int .u64 m, .int .i64 (dp1 * 4 + e - nm * 4), .bool neg, .bool tr, .bool true, .int .i64 ((q : Int)), .bool false]) ?_ rfl ⟨m, dp1 * 4 + e - nm * 4, neg, tr, true, q, false, rfl, hm0, by have := HM1.out; omega, fun e => absurd e (by decide), by omega, by omega, by omega, rfl⟩; simp [results, Tryz.results170, go_sem]; done)
                                                        | (refine bodyPost_ret (v := .tuple #[.int .u64 m, .int .i64 (dp1 * 4 + -e - nm * 4), .bool neg, .bool tr, .bool true, .int .i64 ((q : Int)), .bool false]) ?_ rfl ⟨m, dp1 * 4 + -e - nm * 4, neg, tr, true, q, false, rfl, hm0, by have := HM1.out; omega, fun e => absurd e (by decide), by omega, by omega, by omega, rfl⟩; simp [results, Tryz.results170, go_sem]; done)
                                                        | (refine bodyPost_ret (v := .tuple #[.int .u64 m, .int .i64 (dp1 * 4 - e - nm * 4), .bool neg, .bool tr, .bool true, .int .i64 ((q : Int)), .bool false]) ?_ rfl ⟨m, dp1 * 4 - e - nm * 4, neg, tr, true, q, false, rfl, hm0, by have := HM1.out; omega, fun e => absurd e (by decide), by omega, by omega, by omega, rfl⟩; simp [results, Tryz.results170, go_sem]; done)
                                                        | (refine bodyPost_ret (v := .tuple #[.int .u64 m, .int .i64 (0), .bool neg, .bool tr, .bool true, .int .i64 ((q : Int)), .bool false]) ?_ rfl ⟨m, 0, neg, tr, true, q, false, rfl, hm0, by have := HM1.out; omega, fun e => absurd e (by decide), by omega, by omega, by omega, rfl⟩; simp [results, Tryz.results170, go_sem]; done)
end Go.Proofs.YtaecbclonmhbcaaGreatDoor
