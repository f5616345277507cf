/- internal/strconv.underscoreOK over whatever bytes: it tells true or false. Printed by gen_usx.py. -/
import Derived.Test.YtaecbclonmhbcaaGreatDoorP16
set_option linter.unusedVariables false
set_option linter.unusedSimpArgs false
namespace Go.Proofs.YtaecbclonmhbcaaGreatDoor
open Go.RowKit
def UsB (e : Ending) : Prop := ∃ t, e = .returned (.bool t)
def UsI (s1 : ByteArray) (a3 a4 : Value) : Prop := ∃ (sw : Int) (k : Nat), a3 = .int .i32 sw ∧ a4 = .int .i64 k ∧ k ≤ s1.size
def UsH (a : Value) : Prop := ∃ t : Bool, a = .bool t
def UsT (m : Nat) (s1 : ByteArray) (a : Value) : Prop := ∃ t : Bool, a = .bool t ∧ (t = true → m ≤ s1.size)
set_option maxHeartbeats 8000000 in
set_option maxRecDepth 100000 in
theorem underscore_any (s : ByteArray) (w : World) (hs : s.size ≤ 100000) :
    Calls Tryz.prog 161 #[.string s] w fun e w' => UsB e ∧ w = w' := by
  go_enter Tryz.func161, Tryz.ntmps161
  go_upto_region 3 with fail
  go_cut [18] from 6 to 18 (fun a18 wx => UsT 1 s a18 ∧ w = wx)
  case first =>
    by_cases h0 : 0 < s.size
    · have h0' : (1 : Int) ≤ (s.size : Int) := by omega
      obtain ⟨c, hq⟩ : ∃ c, (s[0].toNat : Int) = c := ⟨_, rfl⟩
      go_wp2_with fail
      all_goals
        go_meet
        exact ⟨⟨_, rfl, fun _ => h0⟩, rfl⟩
    · have h0' : ¬ (1 : Int) ≤ (s.size : Int) := by omega
      go_wp2_with fail
      all_goals
        go_meet
        exact ⟨⟨false, rfl, fun e => absurd e (by decide)⟩, rfl⟩
  case rest =>
    obtain ⟨⟨t, rfl, ht⟩, rfl⟩ := hcut
    cases t
    case false =>
      go_upto_region 6 with fail
      have hs1 := hs
      obtain ⟨s1, hs1e⟩ : ∃ s1, s1 = s := ⟨_, rfl⟩
      rw [← hs1e] at hs1 ⊢
      clear hs1e
      go_cut [46] from 21 to 46 (fun a46 wx => UsT 2 s1 a46 ∧ w = wx)
      case first =>
        by_cases h0 : 2 ≤ s1.size
        · have h0' : (2 : Int) ≤ (s1.size : Int) := by omega
          have h1 : 0 < s1.size := by omega
          have h2 : 1 < s1.size := by omega
          obtain ⟨c, hq⟩ : ∃ c, (s1[0].toNat : Int) = c := ⟨_, rfl⟩
          obtain ⟨L, hL⟩ : ∃ L, bits .or .u8 (s1[1].toNat : Int) 32 = L := ⟨_, rfl⟩
          go_wp2_with (go_at_call 160; refine (lower_any _ _).mono ?_; rintro e w1 ⟨rfl, rfl⟩)
          all_goals
            go_meet
            exact ⟨⟨_, rfl, fun _ => h0⟩, rfl⟩
        · have h0' : ¬ (2 : Int) ≤ (s1.size : Int) := by omega
          go_wp2_with fail
          all_goals
            go_meet
            exact ⟨⟨false, rfl, fun e => absurd e (by decide)⟩, rfl⟩
      case rest =>
        obtain ⟨⟨t2, rfl, ht2⟩, rfl⟩ := hcut
        cases t2
        case false =>
          go_wp2_with (go_at_call 160; refine (lower_any _ _).mono ?_; rintro e w1 ⟨rfl, rfl⟩)
          go_loop [3, 4] (fun a3 a4 => UsI s1 a3 a4) (fun _ a4 => s1.size - (intOf a4).toNat)
          case atStart => exact ⟨_, 0, rfl, rfl, Nat.zero_le _⟩
          case round =>
            obtain ⟨sw, k, rfl, rfl, hk⟩ := hrel
            by_cases hlt : k < s1.size
            case neg =>
              obtain rfl : k = s1.size := by omega
              go_wp2_with fail
              all_goals
                go_ret
                exact ⟨⟨_, rfl⟩, rfl⟩
            case pos =>
              obtain ⟨c, hq⟩ : ∃ c, (s1[k].toNat : Int) = c := ⟨_, rfl⟩
              obtain ⟨L, hL⟩ : ∃ L, bits .or .u8 c 32 = L := ⟨_, rfl⟩
              all_goals
                go_wp2_with (go_at_call 160; refine (lower_any _ _).mono ?_; rintro e w1 ⟨rfl, rfl⟩)
                all_goals
                  first
                    | (go_ret; exact ⟨⟨_, rfl⟩, rfl⟩)
                    | (go_round; (case rel => first | exact ⟨_, k + 1, rfl, by go_num, by omega⟩ | exact ⟨_, _, _, ⟨_, k + 1, rfl, by go_num, by omega⟩, rfl, rfl, rfl⟩); (case measure => simp [intOf]; omega))
        case true =>
          have h2 : 1 < s1.size := ht2 rfl
          go_upto_region 9 with fail
          go_cut [5] from 47 to 50 (fun a5 wx => UsH a5 ∧ w = wx)
          case first =>
            go_wp2_with (go_at_call 160; refine (lower_any _ _).mono ?_; rintro e w1 ⟨rfl, rfl⟩)
            all_goals
              go_meet
              exact ⟨⟨_, rfl⟩, rfl⟩
          case rest =>
            obtain ⟨⟨hx, rfl⟩, rfl⟩ := hcut
            cases hx
            all_goals
              go_wp2_with (go_at_call 160; refine (lower_any _ _).mono ?_; rintro e w1 ⟨rfl, rfl⟩)
              go_loop [3, 4] (fun a3 a4 => UsI s1 a3 a4) (fun _ a4 => s1.size - (intOf a4).toNat)
              case atStart => exact ⟨_, 2, rfl, rfl, h2⟩
              case round =>
                obtain ⟨sw, k, rfl, rfl, hk⟩ := hrel
                by_cases hlt : k < s1.size
                case neg =>
                  obtain rfl : k = s1.size := by omega
                  go_wp2_with fail
                  all_goals
                    go_ret
                    exact ⟨⟨_, rfl⟩, rfl⟩
                case pos =>
                  obtain ⟨c, hq⟩ : ∃ c, (s1[k].toNat : Int) = c := ⟨_, rfl⟩
                  obtain ⟨L, hL⟩ : ∃ L, bits .or .u8 c 32 = L := ⟨_, rfl⟩
                  all_goals
                    go_wp2_with (go_at_call 160; refine (lower_any _ _).mono ?_; rintro e w1 ⟨rfl, rfl⟩)
                    all_goals
                      first
                        | (go_ret; exact ⟨⟨_, rfl⟩, rfl⟩)
                        | (go_round; (case rel => first | exact ⟨_, k + 1, rfl, by go_num, by omega⟩ | exact ⟨_, _, _, ⟨_, k + 1, rfl, by go_num, by omega⟩, rfl, rfl, rfl⟩); (case measure => simp [intOf]; omega))
    case true =>
      have h1i : (1 : Int) ≤ (s.size : Int) := by have := ht rfl; omega
      go_upto_region 6 with fail
      have hs1 : (s.extract 1 s.size).size ≤ 100000 := by rw [ByteArray.size_extract]; omega
      generalize s.extract 1 s.size = s1 at hs1 ⊢
      clear h1i
      go_cut [46] from 21 to 46 (fun a46 wx => UsT 2 s1 a46 ∧ w = wx)
      case first =>
        by_cases h0 : 2 ≤ s1.size
        · have h0' : (2 : Int) ≤ (s1.size : Int) := by omega
          have h1 : 0 < s1.size := by omega
          have h2 : 1 < s1.size := by omega
          obtain ⟨c, hq⟩ : ∃ c, (s1[0].toNat : Int) = c := ⟨_, rfl⟩
          obtain ⟨L, hL⟩ : ∃ L, bits .or .u8 (s1[1].toNat : Int) 32 = L := ⟨_, rfl⟩
          go_wp2_with (go_at_call 160; refine (lower_any _ _).mono ?_; rintro e w1 ⟨rfl, rfl⟩)
          all_goals
            go_meet
            exact ⟨⟨_, rfl, fun _ => h0⟩, rfl⟩
        · have h0' : ¬ (2 : Int) ≤ (s1.size : Int) := by omega
          go_wp2_with fail
          all_goals
            go_meet
            exact ⟨⟨false, rfl, fun e => absurd e (by decide)⟩, rfl⟩
      case rest =>
        obtain ⟨⟨t2, rfl, ht2⟩, rfl⟩ := hcut
        cases t2
        case false =>
          go_wp2_with (go_at_call 160; refine (lower_any _ _).mono ?_; rintro e w1 ⟨rfl, rfl⟩)
          go_loop [3, 4] (fun a3 a4 => UsI s1 a3 a4) (fun _ a4 => s1.size - (intOf a4).toNat)
          case atStart => exact ⟨_, 0, rfl, rfl, Nat.zero_le _⟩
          case round =>
            obtain ⟨sw, k, rfl, rfl, hk⟩ := hrel
            by_cases hlt : k < s1.size
            case neg =>
              obtain rfl : k = s1.size := by omega
              go_wp2_with fail
              all_goals
                go_ret
                exact ⟨⟨_, rfl⟩, rfl⟩
            case pos =>
              obtain ⟨c, hq⟩ : ∃ c, (s1[k].toNat : Int) = c := ⟨_, rfl⟩
              obtain ⟨L, hL⟩ : ∃ L, bits .or .u8 c 32 = L := ⟨_, rfl⟩
              all_goals
                go_wp2_with (go_at_call 160; refine (lower_any _ _).mono ?_; rintro e w1 ⟨rfl, rfl⟩)
                all_goals
                  first
                    | (go_ret; exact ⟨⟨_, rfl⟩, rfl⟩)
                    | (go_round; (case rel => first | exact ⟨_, k + 1, rfl, by go_num, by omega⟩ | exact ⟨_, _, _, ⟨_, k + 1, rfl, by go_num, by omega⟩, rfl, rfl, rfl⟩); (case measure => simp [intOf]; omega))
        case true =>
          have h2 : 1 < s1.size := ht2 rfl
          go_upto_region 9 with fail
          go_cut [5] from 47 to 50 (fun a5 wx => UsH a5 ∧ w = wx)
          case first =>
            go_wp2_with (go_at_call 160; refine (lower_any _ _).mono ?_; rintro e w1 ⟨rfl, rfl⟩)
            all_goals
              go_meet
              exact ⟨⟨_, rfl⟩, rfl⟩
          case rest =>
            obtain ⟨⟨hx, rfl⟩, rfl⟩ := hcut
            cases hx
            all_goals
              go_wp2_with (go_at_call 160; refine (lower_any _ _).mono ?_; rintro e w1 ⟨rfl, rfl⟩)
              go_loop [3, 4] (fun a3 a4 => UsI s1 a3 a4) (fun _ a4 => s1.size - (intOf a4).toNat)
              case atStart => exact ⟨_, 2, rfl, rfl, h2⟩
              case round =>
                obtain ⟨sw, k, rfl, rfl, hk⟩ := hrel
                by_cases hlt : k < s1.size
                case neg =>
                  obtain rfl : k = s1.size := by omega
                  go_wp2_with fail
                  all_goals
                    go_ret
                    exact ⟨⟨_, rfl⟩, rfl⟩
                case pos =>
                  obtain ⟨c, hq⟩ : ∃ c, (s1[k].toNat : Int) = c := ⟨_, rfl⟩
                  obtain ⟨L, hL⟩ : ∃ L, bits .or .u8 c 32 = L := ⟨_, rfl⟩
                  all_goals
                    go_wp2_with (go_at_call 160; refine (lower_any _ _).mono ?_; rintro e w1 ⟨rfl, rfl⟩)
                    all_goals
                      first
                        | (go_ret; exact ⟨⟨_, rfl⟩, rfl⟩)
                        | (go_round; (case rel => first | exact ⟨_, k + 1, rfl, by go_num, by omega⟩ | exact ⟨_, _, _, ⟨_, k + 1, rfl, by go_num, by omega⟩, rfl, rfl, rfl⟩); (case measure => simp [intOf]; omega))
end Go.Proofs.YtaecbclonmhbcaaGreatDoor
