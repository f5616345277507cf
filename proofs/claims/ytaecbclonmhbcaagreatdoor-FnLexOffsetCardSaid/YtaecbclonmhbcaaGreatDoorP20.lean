/- internal/strconv.atofHex. Printed by gen_hexx.py. -/
import Derived.Test.YtaecbclonmhbcaaGreatDoorP19
import Derived.Laws.Bits64b
import Derived.LaidEqlPtr
set_option linter.unusedVariables false
set_option linter.unusedSimpArgs false
namespace Go.Proofs.YtaecbclonmhbcaaGreatDoor
open Go.RowKit
theorem size204 : (Tryz.prog.info? 204).map (·.size) = some 3 := by kernel_rfl
theorem und202 : Tryz.prog.underlying 202 = some (.pointer 204) := by kernel_rfl
theorem ptr_eq66 (W : World) : (binOp .eql 202 (.pointer (some ⟨6, 0, none⟩)) (.pointer (some ⟨6, 0, none⟩))).run Tryz.prog W = .ok (.bool true) W := by
  obtain ⟨j, hj, hjs⟩ := Option.map_eq_some_iff.1 size204
  exact run_eql_ptr_same W _ (te := 204) und202 hj
theorem ptr_eq86 (W : World) (h8 : ∃ (c : Array Value) (t : TypeId), W.heap[8]? = some (.cells c t (0, 0))) (h6 : ∃ (c : Array Value) (t : TypeId), W.heap[6]? = some (.cells c t (0, 0))) :
    (binOp .eql 202 (.pointer (some ⟨8, 0, none⟩)) (.pointer (some ⟨6, 0, none⟩))).run Tryz.prog W = .ok (.bool false) W := by
  obtain ⟨j, hj, hjs⟩ := Option.map_eq_some_iff.1 size204
  obtain ⟨c, t, h8⟩ := h8
  obtain ⟨c', t', h6⟩ := h6
  exact run_eql_ptr_other W und202 hj (by rw [hjs]; decide) (by decide) h8 h6
def HexP (w : World) (e : Ending) (w' : World) : Prop := ∃ (x : Nat) (er : Value) (k : Nat), e = .returned (.tuple #[.float .f64 x, er]) ∧ ErrV er ∧ w' = w.drewN k
def HexM (a2 a3 : Value) : Prop := ∃ (m : Int) (e : Int), a2 = .int .u64 m ∧ a3 = .int .i64 e ∧ m < 9223372036854775808
def HexI (a3 : Value) : Prop := ∃ e : Int, a3 = .int .i64 e
def HexE (a2 a3 a17 : Value) : Prop := ∃ (m e : Int) (er : Value), a2 = .int .u64 m ∧ a3 = .int .i64 e ∧ a17 = er ∧ ErrV er
theorem or_small (a b : Nat) (hb : b ≤ 1) : a ||| b ≤ a + b := by
  have h : b = 0 ∨ b = 1 := by omega
  rcases h with rfl | rfl
  · simp
  · have h : (a ||| 1) / 2 = a / 2 := by rw [Nat.or_div_two]; simp
    have h3 : (a ||| 1) % 2 < 2 := Nat.mod_lt _ (by decide)
    omega
theorem half_or (m : Nat) (h : 1 < m) : (m / 2) ||| (m &&& 1) < m := by
  have h1 : m &&& 1 = m % 2 := Nat.and_one_is_mod m
  rw [h1]
  have h2 := or_small (m / 2) (m % 2) (by omega)
  omega
set_option maxHeartbeats 16000000 in
set_option maxRecDepth 100000 in
theorem hex_64 (s : ByteArray) (w : World) (m e : Int) (neg tr : Bool) (hm0 : 0 ≤ m) (hm1 : m < 18446744073709551616) (hF : FlT w) :
    Calls Tryz.prog 171 #[.string s, .pointer (some ⟨8, 0, none⟩), .int .u64 m, .int .i64 e, .bool neg, .bool tr] w (HexP w) := by
  obtain ⟨k0, k1, k2⟩ := hF.i64
  have hs8 := hF.sh8
  have hs6 := hF.sh6
  clear hF
  go_enter Tryz.func171, Tryz.ntmps171
  go_wp2
  go_quiet (fail)
  have j0 : (w.drewN nq).cell? ⟨8, 0, none⟩ = _ := k0
  have j1 : (w.drewN nq).cell? ⟨8, 1, none⟩ = _ := k1
  have j2 : (w.drewN nq).cell? ⟨8, 2, none⟩ = _ := k2
  obtain ⟨w1, hw1⟩ : ∃ w1, w1 = w.drewN nq := ⟨_, rfl⟩
  rw [← hw1] at j0 j1 j2 ⊢
  have HW1 := Lib.hid hw1
  clear hw1 k0 k1 k2
  go_upto_block 0 with fail
  go_cut [2, 3] from 42 to 57 (fun a2 a3 wx => (∃ (m : Nat) (e : Int), a2 = .int .u64 m ∧ a3 = .int .i64 e ∧ m < 18446744073709551616) ∧ w1 = wx)
  case first =>
    as_aux_lemma =>
      go_wp2_with fail
      go_loop [2, 3] (fun a2 a3 => ∃ (m : Nat) (e : Int), a2 = .int .u64 m ∧ a3 = .int .i64 e ∧ m < 18446744073709551616) (fun a2 _ => 18014398509481984 - (intOf a2).toNat)
      case atStart => exact ⟨m.toNat, _, by rw [Int.toNat_of_nonneg hm0], rfl, by omega⟩
      case round =>
        obtain ⟨m, e, rfl, rfl, hm⟩ := hrel
        by_cases hz : m = 0
        · subst hz
          go_wp2_with fail
          go_meet
          exact ⟨⟨0, e, rfl, rfl, by decide⟩, rfl⟩
        · have hz1 : ((m : Int) == 0) = false := beq_eq_false_iff_ne.2 (by omega)
          have hz2 : ((m : Int) != 0) = true := bne_iff_ne.2 (by omega)
          by_cases hs : m < 18014398509481984
          · have hd : (m : Int) / 18014398509481984 = 0 := by omega
            go_wp2_with fail
            go_round
            case rel => exact ⟨m * 2, _, by push_cast; rfl, rfl, by omega⟩
            case measure => simp [intOf]; omega
          · have hd : ((m : Int) / 18014398509481984 == 0) = false := beq_eq_false_iff_ne.2 (by omega)
            go_wp2_with fail
            go_meet
            exact ⟨⟨m, e, rfl, rfl, hm⟩, rfl⟩
  case rest =>
    obtain ⟨⟨m2, e2, rfl, rfl, hm2⟩, rfl⟩ := hcut
    clear hm0 hm1
    go_upto_if 58 with fail
    go_cut [2] from 59 to 60 (fun a2 wx => (∃ m : Nat, a2 = .int .u64 m ∧ m < 18446744073709551616) ∧ w1 = wx)
    case first =>
      as_aux_lemma =>
        have hb2 : bits .or .u64 (m2 : Int) 1 = ((m2 ||| 1 : Nat) : Int) := bits_or_u64_nat m2 1 hm2 (by decide)
        have hlt : m2 ||| 1 < 18446744073709551616 := Nat.or_lt_two_pow (n := 64) hm2 (by decide)
        cases tr
        · go_wp2_with fail
          go_meet
          exact ⟨⟨m2, rfl, hm2⟩, rfl⟩
        · go_wp2_with fail
          go_meet
          exact ⟨⟨_, rfl, hlt⟩, rfl⟩
    case rest =>
      obtain ⟨⟨m3, rfl, hm3⟩, rfl⟩ := hcut
      go_upto_block 2 with fail
      go_cut [2, 3] from 61 to 76 (fun a2 a3 wx => (∃ (m : Nat) (e : Int), a2 = .int .u64 m ∧ a3 = .int .i64 e ∧ m < 18446744073709551616) ∧ w1 = wx)
      case first =>
        as_aux_lemma =>
          go_wp2_with fail
          go_loop [2, 3] (fun a2 a3 => ∃ (m : Nat) (e : Int), a2 = .int .u64 m ∧ a3 = .int .i64 e ∧ m < 18446744073709551616) (fun a2 _ => (intOf a2).toNat)
          case atStart => exact ⟨m3, _, rfl, rfl, hm3⟩
          case round =>
            obtain ⟨m, e, rfl, rfl, hm⟩ := hrel
            by_cases hs : m < 36028797018963968
            · have hd : ((m : Int) / 36028797018963968 == 0) = true := beq_iff_eq.2 (by omega)
              have hd2 : ((m : Int) / 36028797018963968 != 0) = false := by rw [bne, hd]; rfl
              go_wp2_with fail
              go_meet
              exact ⟨⟨m, e, rfl, rfl, hm⟩, rfl⟩
            · have hd : ((m : Int) / 36028797018963968 == 0) = false := beq_eq_false_iff_ne.2 (by omega)
              have hd3 : ((m : Int) / 36028797018963968 != 0) = true := by rw [bne, hd]; rfl
              obtain ⟨q, hq⟩ : ∃ q, q = m / 2 := ⟨_, rfl⟩
              obtain ⟨r, hr⟩ : ∃ r, r = m % 2 := ⟨_, rfl⟩
              obtain ⟨M, hM⟩ : ∃ M, M = q ||| r := ⟨_, rfl⟩
              have hr1 : m &&& 1 = r := by rw [hr]; exact Nat.and_one_is_mod m
              have hwo : M < m := by have := half_or m (by omega); rw [hr1, ← hq, ← hM] at this; exact this
              have hq64 : q < 18446744073709551616 := by omega
              have hr64 : r < 18446744073709551616 := by omega
              have f1 : (m : Int) / 2 = (q : Int) := by omega
              have f2 : bits .and .u64 (m : Int) 1 = (r : Int) := (bits_and_u64_nat m 1 hm (by decide)).trans (by rw [hr1])
              have f3 : bits .or .u64 (q : Int) (r : Int) = (M : Int) := (bits_or_u64_nat q r hq64 hr64).trans (by rw [hM])
              have f5 : q ||| r = M := hM.symm
              have hT1 : Int.toNat 1 = 1 := by decide
              clear hq hr hM
              go_wp2_with fail
              go_round
              case rel => exact ⟨M, _, rfl, rfl, by omega⟩
              case measure => simp [intOf]; omega
      case rest =>
        obtain ⟨⟨m4, e4, rfl, rfl, hm4⟩, rfl⟩ := hcut
        go_upto_block 4 with fail
        go_cut [2, 3] from 77 to 91 (fun a2 a3 wx => (∃ (m : Nat) (e : Int), a2 = .int .u64 m ∧ a3 = .int .i64 e ∧ m < 18446744073709551616) ∧ w1 = wx)
        case first =>
          as_aux_lemma =>
            go_wp2_with fail
            go_loop [2, 3] (fun a2 a3 => ∃ (m : Nat) (e : Int), a2 = .int .u64 m ∧ a3 = .int .i64 e ∧ m < 18446744073709551616) (fun a2 _ => (intOf a2).toNat)
            case atStart => exact ⟨m4, _, rfl, rfl, hm4⟩
            case round =>
              obtain ⟨m, e, rfl, rfl, hm⟩ := hrel
              by_cases hs : m ≤ 1
              · have hd : ¬ (1 : Int) < (m : Int) := by omega
                go_wp2_with fail
                go_meet
                exact ⟨⟨m, e, rfl, rfl, hm⟩, rfl⟩
              · have hd : (1 : Int) < (m : Int) := by omega
                obtain ⟨q, hq⟩ : ∃ q, q = m / 2 := ⟨_, rfl⟩
                obtain ⟨r, hr⟩ : ∃ r, r = m % 2 := ⟨_, rfl⟩
                obtain ⟨M, hM⟩ : ∃ M, M = q ||| r := ⟨_, rfl⟩
                have hr1 : m &&& 1 = r := by rw [hr]; exact Nat.and_one_is_mod m
                have hwo : M < m := by have := half_or m (by omega); rw [hr1, ← hq, ← hM] at this; exact this
                have hq64 : q < 18446744073709551616 := by omega
                have hr64 : r < 18446744073709551616 := by omega
                have f1 : (m : Int) / 2 = (q : Int) := by omega
                have f2 : bits .and .u64 (m : Int) 1 = (r : Int) := (bits_and_u64_nat m 1 hm (by decide)).trans (by rw [hr1])
                have f3 : bits .or .u64 (q : Int) (r : Int) = (M : Int) := (bits_or_u64_nat q r hq64 hr64).trans (by rw [hM])
                have f5 : q ||| r = M := hM.symm
                have hT1 : Int.toNat 1 = 1 := by decide
                clear hq hr hM
                go_wp2_with fail
                all_goals
                  first
                    | (go_meet; exact ⟨⟨m, e, rfl, rfl, hm⟩, rfl⟩)
                    | (go_round; (case rel => exact ⟨M, _, rfl, rfl, by omega⟩); (case measure => simp [intOf]; omega))
        case rest =>
          obtain ⟨⟨m5, e5, rfl, rfl, hm5⟩, rfl⟩ := hcut
          clear hm2 hm3 hm4
          obtain ⟨q, hq⟩ : ∃ q, q = m5 / 4 := ⟨_, rfl⟩
          have f1 : (m5 : Int) / 4 = (q : Int) := by omega
          have hq2 : q < 4611686018427387904 := by omega
          clear hq hm5
          go_upto_if 103 with fail
          go_cut [2, 3] from 104 to 117 (fun a2 a3 wx => HexM a2 a3 ∧ w1 = wx)
          case first =>
            as_aux_lemma =>
              have hw : IntKind.u64.wrap ((q : Int) + 1) = (q : Int) + 1 := by rw [IntKind.wrap_u64]; omega
              by_cases hmm : q = 9007199254740991
              · subst hmm
                go_wp2_with fail
                all_goals
                  go_meet
                  exact ⟨⟨_, _, rfl, rfl, by decide⟩, rfl⟩
              · have n1 : (((q : Int) + 1) == 9007199254740992) = false := beq_eq_false_iff_ne.2 (by omega)
                go_wp2_with fail
                all_goals
                  go_meet
                  exact ⟨⟨_, _, rfl, rfl, by omega⟩, rfl⟩
          case rest =>
              obtain ⟨⟨m7, e7, rfl, rfl, hm7⟩, rfl⟩ := hcut
              go_upto_if 124 with fail
              go_cut [3] from 125 to 128 (fun a3 wx => HexI a3 ∧ w1 = wx)
              case first =>
                as_aux_lemma =>
                  go_wp2_with fail
                  all_goals
                    go_meet
                    exact ⟨⟨_, rfl⟩, rfl⟩
              case rest =>
                obtain ⟨⟨e8, rfl⟩, rfl⟩ := hcut
                go_upto_if 131 with fail
                go_cut [2, 3, 17] from 132 to 139 (fun a2 a3 a17 wx => HexE a2 a3 a17 ∧ w1 = wx)
                case first =>
                  as_aux_lemma =>
                    by_cases hx : (1023 : Int) < e8
                    · go_wp2_with fail
                      go_meet
                      exact ⟨⟨_, _, _, rfl, rfl, rfl, .inr (.inl rfl)⟩, rfl⟩
                    · go_wp2_with fail
                      go_meet
                      exact ⟨⟨_, _, _, rfl, rfl, rfl, .inl rfl⟩, rfl⟩
                case rest =>
                  obtain ⟨⟨m9, e9, er, rfl, rfl, rfl, her⟩, rfl⟩ := hcut
                  have HER := Lib.hid her
                  clear her
                  go_wp2_with fail
                  go_quiet (fail)
                  have l0 : (w1.drewN nq).cell? ⟨8, 0, none⟩ = _ := j0
                  have l1 : (w1.drewN nq).cell? ⟨8, 1, none⟩ = _ := j1
                  obtain ⟨w2, hw2⟩ : ∃ w2, w2 = w1.drewN nq := ⟨_, rfl⟩
                  rw [← hw2] at l0 l1 ⊢
                  have HW2 := Lib.hid hw2
                  clear hw2 j0 j1 j2
                  have hfb := frombits_run
                  have hq0 := ptr_eq86 w2 (by rw [HW2.out, HW1.out]; exact hs8) (by rw [HW2.out, HW1.out]; exact hs6)
                  have hqn := fun n => ptr_eq86 (w2.drewN n) (by rw [HW2.out, HW1.out]; exact hs8) (by rw [HW2.out, HW1.out]; exact hs6)
                  clear hs8 hs6
                  cases neg
                  · go_wp2_with fail
                    exact bodyPost_ret (results_tmp2 rfl _ _ _) rfl ⟨_, _, _, rfl, HER.out, by rw [HW2.out, HW1.out]; simp only [World.drewN_drewN]; rfl⟩
                  · go_wp2_with fail
                    go_quiet (fail)
                    go_wp2_with fail
                    exact bodyPost_ret (results_tmp2 rfl _ _ _) rfl ⟨_, _, _, rfl, HER.out, by rw [HW2.out, HW1.out]; simp only [World.drewN_drewN]; rfl⟩
set_option maxHeartbeats 16000000 in
set_option maxRecDepth 100000 in
theorem hex_32 (s : ByteArray) (w : World) (m e : Int) (neg tr : Bool) (hm0 : 0 ≤ m) (hm1 : m < 18446744073709551616) (hF : FlT w) :
    Calls Tryz.prog 171 #[.string s, .pointer (some ⟨6, 0, none⟩), .int .u64 m, .int .i64 e, .bool neg, .bool tr] w (HexP w) := by
  obtain ⟨k0, k1, k2⟩ := hF.i32


  clear hF
  go_enter Tryz.func171, Tryz.ntmps171
  go_wp2
  go_quiet (fail)
  have j0 : (w.drewN nq).cell? ⟨6, 0, none⟩ = _ := k0
  have j1 : (w.drewN nq).cell? ⟨6, 1, none⟩ = _ := k1
  have j2 : (w.drewN nq).cell? ⟨6, 2, none⟩ = _ := k2
  obtain ⟨w1, hw1⟩ : ∃ w1, w1 = w.drewN nq := ⟨_, rfl⟩
  rw [← hw1] at j0 j1 j2 ⊢
  have HW1 := Lib.hid hw1
  clear hw1 k0 k1 k2
  go_upto_block 0 with fail
  go_cut [2, 3] from 42 to 57 (fun a2 a3 wx => (∃ (m : Nat) (e : Int), a2 = .int .u64 m ∧ a3 = .int .i64 e ∧ m < 18446744073709551616) ∧ w1 = wx)
  case first =>
    as_aux_lemma =>
      go_wp2_with fail
      go_loop [2, 3] (fun a2 a3 => ∃ (m : Nat) (e : Int), a2 = .int .u64 m ∧ a3 = .int .i64 e ∧ m < 18446744073709551616) (fun a2 _ => 33554432 - (intOf a2).toNat)
      case atStart => exact ⟨m.toNat, _, by rw [Int.toNat_of_nonneg hm0], rfl, by omega⟩
      case round =>
        obtain ⟨m, e, rfl, rfl, hm⟩ := hrel
        by_cases hz : m = 0
        · subst hz
          go_wp2_with fail
          go_meet
          exact ⟨⟨0, e, rfl, rfl, by decide⟩, rfl⟩
        · have hz1 : ((m : Int) == 0) = false := beq_eq_false_iff_ne.2 (by omega)
          have hz2 : ((m : Int) != 0) = true := bne_iff_ne.2 (by omega)
          by_cases hs : m < 33554432
          · have hd : (m : Int) / 33554432 = 0 := by omega
            go_wp2_with fail
            go_round
            case rel => exact ⟨m * 2, _, by push_cast; rfl, rfl, by omega⟩
            case measure => simp [intOf]; omega
          · have hd : ((m : Int) / 33554432 == 0) = false := beq_eq_false_iff_ne.2 (by omega)
            go_wp2_with fail
            go_meet
            exact ⟨⟨m, e, rfl, rfl, hm⟩, rfl⟩
  case rest =>
    obtain ⟨⟨m2, e2, rfl, rfl, hm2⟩, rfl⟩ := hcut
    clear hm0 hm1
    go_upto_if 58 with fail
    go_cut [2] from 59 to 60 (fun a2 wx => (∃ m : Nat, a2 = .int .u64 m ∧ m < 18446744073709551616) ∧ w1 = wx)
    case first =>
      as_aux_lemma =>
        have hb2 : bits .or .u64 (m2 : Int) 1 = ((m2 ||| 1 : Nat) : Int) := bits_or_u64_nat m2 1 hm2 (by decide)
        have hlt : m2 ||| 1 < 18446744073709551616 := Nat.or_lt_two_pow (n := 64) hm2 (by decide)
        cases tr
        · go_wp2_with fail
          go_meet
          exact ⟨⟨m2, rfl, hm2⟩, rfl⟩
        · go_wp2_with fail
          go_meet
          exact ⟨⟨_, rfl, hlt⟩, rfl⟩
    case rest =>
      obtain ⟨⟨m3, rfl, hm3⟩, rfl⟩ := hcut
      go_upto_block 2 with fail
      go_cut [2, 3] from 61 to 76 (fun a2 a3 wx => (∃ (m : Nat) (e : Int), a2 = .int .u64 m ∧ a3 = .int .i64 e ∧ m < 18446744073709551616) ∧ w1 = wx)
      case first =>
        as_aux_lemma =>
          go_wp2_with fail
          go_loop [2, 3] (fun a2 a3 => ∃ (m : Nat) (e : Int), a2 = .int .u64 m ∧ a3 = .int .i64 e ∧ m < 18446744073709551616) (fun a2 _ => (intOf a2).toNat)
          case atStart => exact ⟨m3, _, rfl, rfl, hm3⟩
          case round =>
            obtain ⟨m, e, rfl, rfl, hm⟩ := hrel
            by_cases hs : m < 67108864
            · have hd : ((m : Int) / 67108864 == 0) = true := beq_iff_eq.2 (by omega)
              have hd2 : ((m : Int) / 67108864 != 0) = false := by rw [bne, hd]; rfl
              go_wp2_with fail
              go_meet
              exact ⟨⟨m, e, rfl, rfl, hm⟩, rfl⟩
            · have hd : ((m : Int) / 67108864 == 0) = false := beq_eq_false_iff_ne.2 (by omega)
              have hd3 : ((m : Int) / 67108864 != 0) = true := by rw [bne, hd]; rfl
              obtain ⟨q, hq⟩ : ∃ q, q = m / 2 := ⟨_, rfl⟩
              obtain ⟨r, hr⟩ : ∃ r, r = m % 2 := ⟨_, rfl⟩
              obtain ⟨M, hM⟩ : ∃ M, M = q ||| r := ⟨_, rfl⟩
              have hr1 : m &&& 1 = r := by rw [hr]; exact Nat.and_one_is_mod m
              have hwo : M < m := by have := half_or m (by omega); rw [hr1, ← hq, ← hM] at this; exact this
              have hq64 : q < 18446744073709551616 := by omega
              have hr64 : r < 18446744073709551616 := by omega
              have f1 : (m : Int) / 2 = (q : Int) := by omega
              have f2 : bits .and .u64 (m : Int) 1 = (r : Int) := (bits_and_u64_nat m 1 hm (by decide)).trans (by rw [hr1])
              have f3 : bits .or .u64 (q : Int) (r : Int) = (M : Int) := (bits_or_u64_nat q r hq64 hr64).trans (by rw [hM])
              have f5 : q ||| r = M := hM.symm
              have hT1 : Int.toNat 1 = 1 := by decide
              clear hq hr hM
              go_wp2_with fail
              go_round
              case rel => exact ⟨M, _, rfl, rfl, by omega⟩
              case measure => simp [intOf]; omega
      case rest =>
        obtain ⟨⟨m4, e4, rfl, rfl, hm4⟩, rfl⟩ := hcut
        go_upto_block 4 with fail
        go_cut [2, 3] from 77 to 91 (fun a2 a3 wx => (∃ (m : Nat) (e : Int), a2 = .int .u64 m ∧ a3 = .int .i64 e ∧ m < 18446744073709551616) ∧ w1 = wx)
        case first =>
          as_aux_lemma =>
            go_wp2_with fail
            go_loop [2, 3] (fun a2 a3 => ∃ (m : Nat) (e : Int), a2 = .int .u64 m ∧ a3 = .int .i64 e ∧ m < 18446744073709551616) (fun a2 _ => (intOf a2).toNat)
            case atStart => exact ⟨m4, _, rfl, rfl, hm4⟩
            case round =>
              obtain ⟨m, e, rfl, rfl, hm⟩ := hrel
              by_cases hs : m ≤ 1
              · have hd : ¬ (1 : Int) < (m : Int) := by omega
                go_wp2_with fail
                go_meet
                exact ⟨⟨m, e, rfl, rfl, hm⟩, rfl⟩
              · have hd : (1 : Int) < (m : Int) := by omega
                obtain ⟨q, hq⟩ : ∃ q, q = m / 2 := ⟨_, rfl⟩
                obtain ⟨r, hr⟩ : ∃ r, r = m % 2 := ⟨_, rfl⟩
                obtain ⟨M, hM⟩ : ∃ M, M = q ||| r := ⟨_, rfl⟩
                have hr1 : m &&& 1 = r := by rw [hr]; exact Nat.and_one_is_mod m
                have hwo : M < m := by have := half_or m (by omega); rw [hr1, ← hq, ← hM] at this; exact this
                have hq64 : q < 18446744073709551616 := by omega
                have hr64 : r < 18446744073709551616 := by omega
                have f1 : (m : Int) / 2 = (q : Int) := by omega
                have f2 : bits .and .u64 (m : Int) 1 = (r : Int) := (bits_and_u64_nat m 1 hm (by decide)).trans (by rw [hr1])
                have f3 : bits .or .u64 (q : Int) (r : Int) = (M : Int) := (bits_or_u64_nat q r hq64 hr64).trans (by rw [hM])
                have f5 : q ||| r = M := hM.symm
                have hT1 : Int.toNat 1 = 1 := by decide
                clear hq hr hM
                go_wp2_with fail
                all_goals
                  first
                    | (go_meet; exact ⟨⟨m, e, rfl, rfl, hm⟩, rfl⟩)
                    | (go_round; (case rel => exact ⟨M, _, rfl, rfl, by omega⟩); (case measure => simp [intOf]; omega))
        case rest =>
          obtain ⟨⟨m5, e5, rfl, rfl, hm5⟩, rfl⟩ := hcut
          clear hm2 hm3 hm4
          obtain ⟨q, hq⟩ : ∃ q, q = m5 / 4 := ⟨_, rfl⟩
          have f1 : (m5 : Int) / 4 = (q : Int) := by omega
          have hq2 : q < 4611686018427387904 := by omega
          clear hq hm5
          go_upto_if 103 with fail
          go_cut [2, 3] from 104 to 117 (fun a2 a3 wx => HexM a2 a3 ∧ w1 = wx)
          case first =>
            as_aux_lemma =>
              have hw : IntKind.u64.wrap ((q : Int) + 1) = (q : Int) + 1 := by rw [IntKind.wrap_u64]; omega
              by_cases hmm : q = 16777215
              · subst hmm
                go_wp2_with fail
                all_goals
                  go_meet
                  exact ⟨⟨_, _, rfl, rfl, by decide⟩, rfl⟩
              · have n1 : (((q : Int) + 1) == 16777216) = false := beq_eq_false_iff_ne.2 (by omega)
                go_wp2_with fail
                all_goals
                  go_meet
                  exact ⟨⟨_, _, rfl, rfl, by omega⟩, rfl⟩
          case rest =>
              obtain ⟨⟨m7, e7, rfl, rfl, hm7⟩, rfl⟩ := hcut
              go_upto_if 124 with fail
              go_cut [3] from 125 to 128 (fun a3 wx => HexI a3 ∧ w1 = wx)
              case first =>
                as_aux_lemma =>
                  go_wp2_with fail
                  all_goals
                    go_meet
                    exact ⟨⟨_, rfl⟩, rfl⟩
              case rest =>
                obtain ⟨⟨e8, rfl⟩, rfl⟩ := hcut
                go_upto_if 131 with fail
                go_cut [2, 3, 17] from 132 to 139 (fun a2 a3 a17 wx => HexE a2 a3 a17 ∧ w1 = wx)
                case first =>
                  as_aux_lemma =>
                    by_cases hx : (127 : Int) < e8
                    · go_wp2_with fail
                      go_meet
                      exact ⟨⟨_, _, _, rfl, rfl, rfl, .inr (.inl rfl)⟩, rfl⟩
                    · go_wp2_with fail
                      go_meet
                      exact ⟨⟨_, _, _, rfl, rfl, rfl, .inl rfl⟩, rfl⟩
                case rest =>
                  obtain ⟨⟨m9, e9, er, rfl, rfl, rfl, her⟩, rfl⟩ := hcut
                  have HER := Lib.hid her
                  clear her
                  go_wp2_with fail
                  go_quiet (fail)
                  have l0 : (w1.drewN nq).cell? ⟨6, 0, none⟩ = _ := j0
                  have l1 : (w1.drewN nq).cell? ⟨6, 1, none⟩ = _ := j1
                  obtain ⟨w2, hw2⟩ : ∃ w2, w2 = w1.drewN nq := ⟨_, rfl⟩
                  rw [← hw2] at l0 l1 ⊢
                  have HW2 := Lib.hid hw2
                  clear hw2 j0 j1 j2
                  have hfb := frombits32_run
                  have hq0 := ptr_eq66
                  have hwf := run_widenF
                  cases neg
                  · go_wp2_with fail
                    exact bodyPost_ret (results_tmp2 rfl _ _ _) rfl ⟨_, _, _, rfl, HER.out, by rw [HW2.out, HW1.out]; simp only [World.drewN_drewN]; rfl⟩
                  · go_wp2_with fail
                    go_quiet (fail)
                    go_wp2_with fail
                    exact bodyPost_ret (results_tmp2 rfl _ _ _) rfl ⟨_, _, _, rfl, HER.out, by rw [HW2.out, HW1.out]; simp only [World.drewN_drewN]; rfl⟩
end Go.Proofs.YtaecbclonmhbcaaGreatDoor
