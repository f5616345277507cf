/- internal/strconv.readFloat over bytes of numbers. -/
import Derived.Test.YtaecbclonmhbcaaGreatDoorG18
import Derived.Deep.DeepCutAuto
import Derived.Deep.CutBlock
import Derived.Deep.LoopGhost
import Derived.WalkMore
set_option linter.unusedVariables false
set_option linter.unusedSimpArgs false
/- internal/strconv.readFloat over bytes of numbers. -/
namespace Go.Proofs.YtaecbclonmhbcaaGreatDoor
open Go.RowKit

/-- A sign that stands in the bytes of numbers. -/
def NumCh (c : Int) : Prop := (48 ≤ c ∧ c ≤ 57) ∨ c = 46 ∨ c = 101 ∨ c = 69 ∨ c = 43 ∨ c = 45
def NumS (s : ByteArray) : Prop := ∀ j (h : j < s.size), NumCh (s[j].toNat : Int)

theorem lower_run : ((List.range 256).all fun n => bits .or .u8 (n : Int) 32 != 120 || n == 88 || n == 120) = true := by kernel_rfl
theorem lower_e : ((List.range 256).all fun n => (bits .or .u8 (n : Int) 32 != 101 || n == 69 || n == 101)) = true := by kernel_rfl
set_option maxHeartbeats 1000000 in
theorem lower_any (c : Int) (w : World) : Calls Tryz.prog 160 #[.int .u8 c] w fun e w' => e = .returned (.int .u8 (bits .or .u8 c 32)) ∧ w = w' := by
  go_enter Tryz.func160, Tryz.ntmps160
  go_wp2
  go_ret
  exact ⟨rfl, rfl⟩
theorem lower_x {c : Int} (h : NumCh c) : (bits .or .u8 c 32 == 120) = false := by
  have h0 : 0 ≤ c ∧ c < 256 := by unfold NumCh at h; omega
  obtain ⟨n, rfl⟩ := Int.eq_ofNat_of_zero_le h0.1
  have := List.all_eq_true.1 lower_run n (List.mem_range.2 (by omega))
  simp only [Bool.or_eq_true, bne_iff_ne, beq_iff_eq] at this
  rcases this with (h1 | h1) | h1
  · exact beq_eq_false_iff_ne.2 h1
  · subst h1; unfold NumCh at h; omega
  · subst h1; unfold NumCh at h; omega

def RFI (s : ByteArray) (a2 a5 a7 a9 a13 a14 a15 a16 a17 : Value) : Prop :=
  ∃ (m : Int) (tr sd sg : Bool) (k nd nm : Nat) (dp : Int), a2 = .int .u64 m ∧ a5 = .bool tr ∧ a7 = .int .i64 k ∧ a9 = .bool false ∧ a13 = .bool sd ∧ a14 = .bool sg ∧ a15 = .int .i64 nd ∧ a16 = .int .i64 nm ∧ a17 = .int .i64 dp ∧
    k ≤ s.size ∧ nm ≤ 19 ∧ nm ≤ nd ∧ nd ≤ k ∧ 0 ≤ m ∧ m < 10 ^ nm ∧ -(k : Int) ≤ dp ∧ dp ≤ k

/-- What readFloat tells of such bytes. -/
def RFPost (s : ByteArray) (w : World) (e : Ending) (w' : World) : Prop :=
  ∃ (m exp : Int) (neg tr : Bool) (i : Nat) (ok : Bool), e = .returned (.tuple #[.int .u64 m, .int .i64 exp, .bool neg, .bool tr, .bool false, .int .i64 i, .bool ok]) ∧ 0 ≤ m ∧ m < 10000000000000000000 ∧ -300000 ≤ exp ∧ exp ≤ 300000 ∧ i ≤ s.size ∧ w = w'
theorem pow10_lt {m : Int} {nm : Nat} (h : nm < 19) (hm : m < 10 ^ nm) : m < 1000000000000000000 ∧ ∀ d : Int, d ≤ 9 → m * 10 + d < 10 ^ (nm + 1) := by
  have hp : (10 : Int) ^ nm ≤ 10 ^ 18 := by have := Nat.pow_le_pow_right (n := 10) (by decide) (show nm ≤ 18 by omega); exact_mod_cast this
  refine ⟨by omega, fun d hd => ?_⟩
  rw [Int.pow_succ]
  omega

theorem pow10_top {m : Int} {nm : Nat} (h : nm ≤ 19) (hm : m < 10 ^ nm) : m < 10000000000000000000 := by
  have hp : (10 : Int) ^ nm ≤ 10 ^ 19 := by have := Nat.pow_le_pow_right (n := 10) (by decide) h; exact_mod_cast this
  omega

set_option maxHeartbeats 8000000 in
set_option maxRecDepth 100000 in
theorem readFloat_any (s : ByteArray) (w : World) (hs : s.size ≤ 100000) (h0 : 0 < s.size) (hN : NumS s) :
    Calls Tryz.prog 170 #[.string s] w (RFPost s w) := by
  have hse : ¬ s = ByteArray.empty := by intro h; rw [h] at h0; exact absurd h0 (by decide)
  have HN := Lib.hid hN
  clear hN
  go_enter Tryz.func170, Tryz.ntmps170
  go_wp2
  go_step3
  go_upto_block 0 with fail
  go_cut [4, 7] from 28 to 35 (fun a4 a7 wx => ∃ (neg : Bool) (i0 : Nat), a4 = .bool neg ∧ a7 = .int .i64 i0 ∧ i0 ≤ 1 ∧ w = wx)
  case first =>
    go_wp2_with fail
    all_goals
      go_meet
      first
        | exact ⟨false, 1, rfl, rfl, by decide, rfl⟩
        | exact ⟨true, 1, rfl, rfl, by decide, rfl⟩
        | exact ⟨false, 0, rfl, rfl, by decide, rfl⟩
  case rest =>
    obtain ⟨neg, i0, rfl, rfl, hi0, rfl⟩ := hcut
    go_upto_region 12 with fail
    go_cut [54] from 36 to 54 (fun a54 wx => a54 = .bool false ∧ w = wx)
    case first =>
      by_cases h2 : i0 + 2 < s.size
      · have h2' : (i0 : Int) + 2 < (s.size : Int) := by omega
        have hi1 : i0 < s.size := by omega
        have hi2 : i0 + 1 < s.size := by omega
        have hx := lower_x (HN.out (i0 + 1) hi2)
        go_wp2_with (go_at_call 160; refine (lower_any _ _).mono ?_; rintro e w1 ⟨rfl, rfl⟩)
        all_goals
          go_meet
          exact ⟨rfl, rfl⟩
      · have h2' : ¬ (i0 : Int) + 2 < (s.size : Int) := by omega
        go_wp2_with fail
        all_goals
          go_meet
          exact ⟨rfl, rfl⟩
    case rest =>
      obtain ⟨rfl, rfl⟩ := hcut
      go_wp2_with fail
      go_step3
      go_upto_block 1 with fail
      go_cut [2, 5, 7, 9, 13, 14, 15, 16, 17] from 57 to 138 (fun a2 a5 a7 a9 a13 a14 a15 a16 a17 wx => RFI s a2 a5 a7 a9 a13 a14 a15 a16 a17 ∧ w = wx)
      case first =>
        go_wp2_with fail
        go_loop [2, 5, 7, 9, 13, 14, 15, 16, 17] (fun a2 a5 a7 a9 a13 a14 a15 a16 a17 => RFI s a2 a5 a7 a9 a13 a14 a15 a16 a17) (fun _ _ a7 _ _ _ _ _ _ => s.size - (intOf a7).toNat)
        case atStart => exact ⟨0, false, false, false, i0, 0, 0, 0, rfl, rfl, rfl, rfl, rfl, rfl, rfl, rfl, rfl, by omega, by decide, by decide, by omega, by decide, by decide, by omega, by omega⟩
        case round =>
          obtain ⟨m, tr, sd, sg, k, nd, nm, dp, rfl, rfl, rfl, rfl, rfl, rfl, rfl, rfl, rfl, hk, hnm, hnd, hndk, hm0, hm1, hdp0, hdp1⟩ := hrel
          have HM1 := Lib.hid hm1
          clear hm1
          by_cases hlt : k < s.size
          case neg =>
            obtain rfl : k = s.size := by omega
            go_wp2_with fail
            go_meet
            exact ⟨⟨m, tr, sd, sg, s.size, nd, nm, dp, rfl, rfl, rfl, rfl, rfl, rfl, rfl, rfl, rfl, hk, hnm, hnd, hndk, hm0, HM1.out, hdp0, hdp1⟩, rfl⟩
          case pos =>
            have hnc := HN.out k hlt
            obtain ⟨c, hq⟩ : ∃ c, (s[k].toNat : Int) = c := ⟨_, rfl⟩
            rw [hq] at hnc
            have g95 : (c == 95) = false := beq_eq_false_iff_ne.2 (by unfold NumCh at hnc; omega)
            by_cases h46 : c = 46
            · subst h46
              cases sd
              · go_wp2_with fail
                go_round
                case rel => exact ⟨m, tr, true, sg, k + 1, nd, nm, nd, rfl, rfl, by go_num, rfl, rfl, rfl, rfl, rfl, rfl, by omega, hnm, hnd, by omega, hm0, HM1.out, by omega, by omega⟩
                case measure => simp [intOf]; omega
              · go_wp2_with fail
                go_meet
                exact ⟨⟨m, tr, true, sg, k, nd, nm, dp, rfl, rfl, rfl, rfl, rfl, rfl, rfl, rfl, rfl, hk, hnm, hnd, hndk, hm0, HM1.out, hdp0, hdp1⟩, rfl⟩
            have g46 : (c == 46) = false := beq_eq_false_iff_ne.2 h46
            by_cases hdg : 48 ≤ c ∧ c ≤ 57
            · obtain ⟨hd0, hd1⟩ := hdg
              clear h46 hnc
              by_cases hz : c = 48 ∧ nd = 0
              · obtain ⟨rfl, rfl⟩ := hz
                go_wp2_with fail
                go_round
                case rel => exact ⟨m, tr, sd, true, k + 1, 0, nm, dp - 1, rfl, rfl, by go_num, rfl, rfl, rfl, rfl, rfl, rfl, by omega, hnm, hnd, by omega, hm0, HM1.out, by omega, by omega⟩
                case measure => simp [intOf]; omega
              · by_cases hnm19 : nm < 19
                · have hp := pow10_lt hnm19 HM1.out
                  have hw1 : IntKind.u64.wrap (m * 10) = m * 10 := by have := hp.1; rw [IntKind.wrap_u64]; omega
                  have hw2 : IntKind.u64.wrap (m * 10 + (c - 48)) = m * 10 + (c - 48) := by have := hp.1; rw [IntKind.wrap_u64]; omega
                  have HP := Lib.hid hp
                  clear hp
                  rcases Classical.em (c = 48) with h48 | h48
                  · subst h48
                    have hnd0 : ((nd : Int) == 0) = false := beq_eq_false_iff_ne.2 (by omega)
                    clear hz
                    go_wp2_with fail
                    go_round
                    case rel => exact ⟨_, tr, sd, true, k + 1, nd + 1, nm + 1, dp, rfl, rfl, by go_num, rfl, rfl, rfl, by go_num, by go_num, rfl, by omega, by omega, by omega, by omega, by omega, by have := HP.out.2 0 (by omega); omega, by omega, by omega⟩
                    case measure => simp [intOf]; omega
                  · have h48' : (c == 48) = false := beq_eq_false_iff_ne.2 h48
                    clear hz h48
                    go_wp2_with fail
                    go_round
                    case rel => exact ⟨_, tr, sd, true, k + 1, nd + 1, nm + 1, dp, rfl, rfl, by go_num, rfl, rfl, rfl, by go_num, by go_num, rfl, by omega, by omega, by omega, by omega, by omega, by have := HP.out.2 (c - 48) (by omega); omega, by omega, by omega⟩
                    case measure => simp [intOf]; omega
                · rcases Classical.em (c = 48) with h48 | h48
                  · subst h48
                    have hnd0 : ((nd : Int) == 0) = false := beq_eq_false_iff_ne.2 (by omega)
                    clear hz
                    go_wp2_with fail
                    go_round
                    case rel => exact ⟨m, tr, sd, true, k + 1, nd + 1, nm, dp, rfl, rfl, by go_num, rfl, rfl, rfl, by go_num, rfl, rfl, by omega, by omega, by omega, by omega, by omega, HM1.out, by omega, by omega⟩
                    case measure => simp [intOf]; omega
                  · have h48' : (c == 48) = false := beq_eq_false_iff_ne.2 h48
                    have h48'' : (c != 48) = true := bne_iff_ne.2 h48
                    clear hz h48
                    go_wp2_with fail
                    go_round
                    case rel => exact ⟨m, true, sd, true, k + 1, nd + 1, nm, dp, rfl, rfl, by go_num, rfl, rfl, rfl, by go_num, rfl, rfl, by omega, by omega, by omega, by omega, by omega, HM1.out, by omega, by omega⟩
                    case measure => simp [intOf]; omega
            · have hnd' : c < 48 ∨ 57 < c := by omega
              clear h46 hdg
              rcases hnd' with h | h
              · go_wp2_with fail
                go_meet
                exact ⟨⟨m, tr, sd, sg, k, nd, nm, dp, rfl, rfl, rfl, rfl, rfl, rfl, rfl, rfl, rfl, hk, hnm, hnd, hndk, hm0, HM1.out, hdp0, hdp1⟩, rfl⟩
              · go_wp2_with fail
                go_meet
                exact ⟨⟨m, tr, sd, sg, k, nd, nm, dp, rfl, rfl, rfl, rfl, rfl, rfl, rfl, rfl, rfl, hk, hnm, hnd, hndk, hm0, HM1.out, hdp0, hdp1⟩, rfl⟩
      case rest =>
        obtain ⟨⟨m, tr, sd, sg, k, nd, nm, dp, rfl, rfl, rfl, rfl, rfl, rfl, rfl, rfl, rfl, hk, hnm, hnd, hndk, hm0, hm1, hdp0, hdp1⟩, rfl⟩ := hcut
        have HM1 := Lib.hid (pow10_top hnm hm1)
        clear hm1
        cases sg
        · go_wp2_with fail
          (try rw [Exit.noGoto_ret])
          exact bodyPost_ret (v := .tuple #[.int .u64 m, .int .i64 0, .bool neg, .bool tr, .bool false, .int .i64 k, .bool false]) (by simp [results, Tryz.results170, go_sem]; done) rfl ⟨m, 0, neg, tr, k, false, rfl, hm0, HM1.out, by decide, by decide, hk, rfl⟩
        · go_upto_if 142 with fail
          go_cut [17] from 143 to 143 (fun a17 wx => ∃ dp1 : Int, a17 = .int .i64 dp1 ∧ -100000 ≤ dp1 ∧ dp1 ≤ 100000 ∧ w = wx)
          case first => cases sd <;> (go_wp2_with fail; go_meet; exact ⟨_, rfl, by omega, by omega, rfl⟩)
          case rest =>
            obtain ⟨dp1, rfl, hd0, hd1, rfl⟩ := hcut
            clear hdp0 hdp1
            by_cases hk2 : k < s.size
            case neg =>
              go_wp2_with fail
              all_goals
                (try rw [Exit.noGoto_ret])
                first
                  | (refine bodyPost_ret (v := .tuple #[.int .u64 m, .int .i64 (dp1 - nm), .bool neg, .bool tr, .bool false, .int .i64 ((k : Int)), .bool true]) ?_ rfl ⟨m, dp1 - nm, neg, tr, k, true, rfl, hm0, HM1.out, by omega, by omega, by omega, rfl⟩; simp [results, Tryz.results170, go_sem]; done)
                  | (refine bodyPost_ret (v := .tuple #[.int .u64 m, .int .i64 (0), .bool neg, .bool tr, .bool false, .int .i64 ((k : Int)), .bool true]) ?_ rfl ⟨m, 0, neg, tr, k, true, rfl, hm0, HM1.out, by omega, by omega, by omega, rfl⟩; simp [results, Tryz.results170, go_sem]; done)
            case pos =>
              obtain ⟨L, hL⟩ : ∃ L, bits .or .u8 (s[k].toNat : Int) 32 = L := ⟨_, rfl⟩
              cases hE : L == 101
              case false =>
                go_wp2_with (go_at_call 160; refine (lower_any _ _).mono ?_; rintro e w1 ⟨rfl, rfl⟩)
                all_goals
                  (try rw [Exit.noGoto_ret])
                  first
                    | (refine bodyPost_ret (v := .tuple #[.int .u64 m, .int .i64 (dp1 - nm), .bool neg, .bool tr, .bool false, .int .i64 ((k : Int)), .bool true]) ?_ rfl ⟨m, dp1 - nm, neg, tr, k, true, rfl, hm0, HM1.out, by omega, by omega, by omega, rfl⟩; simp [results, Tryz.results170, go_sem]; done)
                    | (refine bodyPost_ret (v := .tuple #[.int .u64 m, .int .i64 (0), .bool neg, .bool tr, .bool false, .int .i64 ((k : Int)), .bool true]) ?_ rfl ⟨m, 0, neg, tr, k, true, rfl, hm0, HM1.out, by omega, by omega, by omega, rfl⟩; simp [results, Tryz.results170, go_sem]; done)
              case true =>
                by_cases hk3 : k + 1 < s.size
                case neg =>
                  have hk3' : ¬ (k : Int) + 1 < (s.size : Int) := by omega
                  go_wp2_with (go_at_call 160; refine (lower_any _ _).mono ?_; rintro e w1 ⟨rfl, rfl⟩)
                  all_goals
                    (try rw [Exit.noGoto_ret])
                    first
                      | (refine bodyPost_ret (v := .tuple #[.int .u64 m, .int .i64 (0), .bool neg, .bool tr, .bool false, .int .i64 ((k : Int) + 1), .bool false]) ?_ rfl ⟨m, 0, neg, tr, k + 1, false, rfl, hm0, HM1.out, by omega, by omega, by omega, rfl⟩; simp [results, Tryz.results170, go_sem]; done)
                case pos =>
                  have hk3' : (k : Int) + 1 < (s.size : Int) := by omega
                  go_upto_block 4 with (go_at_call 160; refine (lower_any _ _).mono ?_; rintro e w1 ⟨rfl, rfl⟩)
                  go_cut [7, 19] from 171 to 178 (fun a7 a19 wx => ∃ (j : Nat) (es : Int), a7 = .int .i64 j ∧ a19 = .int .i64 es ∧ k + 1 ≤ j ∧ j ≤ k + 2 ∧ (es = 1 ∨ es = -1) ∧ w = wx)
                  case first =>
                    go_wp2_with fail
                    all_goals
                      go_meet
                      first
                        | exact ⟨k + 2, 1, by go_num, rfl, by omega, by omega, .inl rfl, rfl⟩
                        | exact ⟨k + 2, -1, by go_num, rfl, by omega, by omega, .inr rfl, rfl⟩
                        | exact ⟨k + 1, 1, by go_num, rfl, by omega, by omega, .inl rfl, rfl⟩
                  case rest =>
                    obtain ⟨j, es, rfl, rfl, hj0, hj1, hes, rfl⟩ := hcut
                    by_cases hj : j < s.size
                    case neg =>
                      have hj' : ¬ (j : Int) < (s.size : Int) := by omega
                      clear hes
                      go_wp2_with fail
                      all_goals
                        (try rw [Exit.noGoto_ret])
                        first
                          | (refine bodyPost_ret (v := .tuple #[.int .u64 m, .int .i64 (0), .bool neg, .bool tr, .bool false, .int .i64 ((j : Int)), .bool false]) ?_ rfl ⟨m, 0, neg, tr, j, false, rfl, hm0, HM1.out, by omega, by omega, by omega, rfl⟩; simp [results, Tryz.results170, go_sem]; done)
                    case pos =>
                      obtain ⟨c, hq⟩ : ∃ c, (s[j].toNat : Int) = c := ⟨_, rfl⟩
                      by_cases hc0 : c < 48
                      · clear hes
                        go_wp2_with fail
                        all_goals
                          (try rw [Exit.noGoto_ret])
                          first
                            | (refine bodyPost_ret (v := .tuple #[.int .u64 m, .int .i64 (0), .bool neg, .bool tr, .bool false, .int .i64 ((j : Int)), .bool false]) ?_ rfl ⟨m, 0, neg, tr, j, false, rfl, hm0, HM1.out, by omega, by omega, by omega, rfl⟩; simp [results, Tryz.results170, go_sem]; done)
                      by_cases hc1 : 57 < c
                      · clear hes
                        go_wp2_with fail
                        all_goals
                          (try rw [Exit.noGoto_ret])
                          first
                            | (refine bodyPost_ret (v := .tuple #[.int .u64 m, .int .i64 (0), .bool neg, .bool tr, .bool false, .int .i64 ((j : Int)), .bool false]) ?_ rfl ⟨m, 0, neg, tr, j, false, rfl, hm0, HM1.out, by omega, by omega, by omega, rfl⟩; simp [results, Tryz.results170, go_sem]; done)
                      have hc0' : 48 ≤ c := by omega
                      have hc1' : c ≤ 57 := by omega
                      have HES := Lib.hid hes
                      clear hes
                      go_upto_block 5 with fail
                      go_cut [7, 9, 20] from 182 to 232 (fun a7 a9 a20 wx => ∃ q e : Nat, a7 = .int .i64 q ∧ a9 = .bool false ∧ a20 = .int .i64 e ∧ q ≤ s.size ∧ e ≤ 99999 ∧ w = wx)
                      case first =>
                        go_wp2_with fail
                        go_loop [7, 9, 20] (fun a7 a9 a20 => ∃ q e : Nat, a7 = .int .i64 q ∧ a9 = .bool false ∧ a20 = .int .i64 e ∧ q ≤ s.size ∧ e ≤ 99999) (fun a7 _ _ => s.size - (intOf a7).toNat)
                        case atStart => exact ⟨j, 0, rfl, rfl, rfl, by omega, by decide⟩
                        case round =>
                          obtain ⟨q, e, rfl, rfl, rfl, hq0, he0⟩ := hrel
                          clear hq hj
                          by_cases hql : q < s.size
                          case neg =>
                            have hql' : ¬ (q : Int) < (s.size : Int) := by omega
                            go_wp2_with fail
                            go_meet
                            exact ⟨q, e, rfl, rfl, rfl, hq0, he0, rfl⟩
                          case pos =>
                            have hnc := HN.out q hql
                            obtain ⟨d, hqd⟩ : ∃ d, (s[q].toNat : Int) = d := ⟨_, rfl⟩
                            rw [hqd] at hnc
                            have g95 : (d == 95) = false := beq_eq_false_iff_ne.2 (by unfold NumCh at hnc; omega)
                            clear hnc
                            by_cases hd0 : d < 48
                            · go_wp2_with fail
                              go_meet
                              exact ⟨q, e, rfl, rfl, rfl, hq0, he0, rfl⟩
                            by_cases hd1 : 57 < d
                            · go_wp2_with fail
                              go_meet
                              exact ⟨q, e, rfl, rfl, rfl, hq0, he0, rfl⟩
                            have hd0' : 48 ≤ d := by omega
                            have hd1' : d ≤ 57 := by omega
                            by_cases he1 : e < 10000
                            · have he1' : (e : Int) < 10000 := by omega
                              go_wp2_with fail
                              go_round
                              case rel => exact ⟨q + 1, (e * 10 + d - 48).toNat, by go_num, rfl, by rw [Int.toNat_of_nonneg (by omega)], by omega, by omega⟩
                              case measure => simp [intOf]; omega
                            · have he1' : ¬ (e : Int) < 10000 := by omega
                              go_wp2_with fail
                              go_round
                              case rel => exact ⟨q + 1, e, by go_num, rfl, rfl, by omega, he0⟩
                              case measure => simp [intOf]; omega
                      case rest =>
                        obtain ⟨q, e, rfl, rfl, rfl, hq0, he0, rfl⟩ := hcut
                        rcases HES.out with rfl | rfl
                        · clear HES
                          go_wp2_with fail
                          all_goals
                            (try rw [Exit.noGoto_ret])
                            first
                              | (refine bodyPost_ret (v := .tuple #[.int .u64 m, .int .i64 (dp1 + e - nm), .bool neg, .bool tr, .bool false, .int .i64 ((q : Int)), .bool true]) ?_ rfl ⟨m, dp1 + e - nm, neg, tr, q, true, rfl, hm0, HM1.out, by omega, by omega, by omega, rfl⟩; simp [results, Tryz.results170, go_sem]; done)
                              | (refine bodyPost_ret (v := .tuple #[.int .u64 m, .int .i64 (0), .bool neg, .bool tr, .bool false, .int .i64 ((q : Int)), .bool true]) ?_ rfl ⟨m, 0, neg, tr, q, true, rfl, hm0, HM1.out, by omega, by omega, by omega, rfl⟩; simp [results, Tryz.results170, go_sem]; done)
                        · clear HES
                          go_wp2_with fail
                          all_goals
                            (try rw [Exit.noGoto_ret])
                            first
                              | (refine bodyPost_ret (v := .tuple #[.int .u64 m, .int .i64 (dp1 + -e - nm), .bool neg, .bool tr, .bool false, .int .i64 ((q : Int)), .bool true]) ?_ rfl ⟨m, dp1 + -e - nm, neg, tr, q, true, rfl, hm0, HM1.out, by omega, by omega, by omega, rfl⟩; simp [results, Tryz.results170, go_sem]; done)
                              | (refine bodyPost_ret (v := .tuple #[.int .u64 m, .int .i64 (dp1 - e - nm), .bool neg, .bool tr, .bool false, .int .i64 ((q : Int)), .bool true]) ?_ rfl ⟨m, dp1 - e - nm, neg, tr, q, true, rfl, hm0, HM1.out, by omega, by omega, by omega, rfl⟩; simp [results, Tryz.results170, go_sem]; done)
                              | (refine bodyPost_ret (v := .tuple #[.int .u64 m, .int .i64 (0), .bool neg, .bool tr, .bool false, .int .i64 ((q : Int)), .bool true]) ?_ rfl ⟨m, 0, neg, tr, q, true, rfl, hm0, HM1.out, by omega, by omega, by omega, rfl⟩; simp [results, Tryz.results170, go_sem]; done)
end Go.Proofs.YtaecbclonmhbcaaGreatDoor
