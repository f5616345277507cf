/- The walk of FnLexPos. -/
import Derived.Test.YtaecbclonmhbcaaGreatDoorP49
set_option linter.unusedVariables false
set_option linter.unusedSimpArgs false
namespace Go.Proofs.YtaecbclonmhbcaaGreatDoor
open Go.RowKit
theorem gotCs_get3 : ∀ (l : List Gt) (k : Nat), k < l.length → (gotCs l)[k * 4 + 3]? = some (.int .i64 (l.getD k dG).2.2.2)
  | [], _, h => by simp at h
  | c :: l, 0, _ => rfl
  | c :: l, k + 1, h => by
    have := gotCs_get3 l k (by simpa using h)
    rw [show (k + 1) * 4 + 3 = (k * 4 + 3) + 1 + 1 + 1 + 1 by omega]
    simpa [gotCs, List.getD] using this
def PosPost (w : World) (n len : Nat) (e : Ending) (w' : World) : Prop :=
  ∃ (pg : Option Addr) (cg : Nat) (ps : List Nat), e = .returned (.slice pg n cg) ∧ (∀ k, k < n → ps.getD k 0 ≤ len ∧ (0 < k → ps.getD (k - 1) 0 ≤ ps.getD k 0)) ∧
    (0 < n → ∃ g, pg = some ⟨g, 0, none⟩ ∧ ∀ k, k < n → w'.cell? ⟨g, k * 4 + 3, none⟩ = some (.int .i64 (ps.getD k 0 : Nat))) ∧ Below w.heap.size w w'
theorem pos_lex {w : World} {ae ao : Addr} (hG : Ground w ae ao) {v : Value} {l : List Int} (hv : BytesArg w v l) (hby : Bytes l) (hl : l.length ≤ 8192) (mu : Bool) {pv : Option Addr} {cs : List Cl} (cc : Nat) (hc : CallsArg w pv cs) (hcl : cs.length ≤ 512)
    (h9 : ∀ c ∈ cs, c.1 = 9 → mu = false) : Calls Tryz.prog 13 #[v, .bool mu, .slice pv cs.length cc] w (PosPost w cs.length l.length) := by
  obtain ⟨cb, co, hpv, hci, hcb⟩ : ∃ cb co, (0 < cs.length → pv = some ⟨cb, co, none⟩) ∧ CallsIn w cb co cs ∧ cb < w.heap.size := by
    by_cases h0 : 0 < cs.length
    · obtain ⟨cb, co, h1, h2, h3⟩ := hc h0
      exact ⟨cb, co, fun _ => h1, h3, h2⟩
    · exact ⟨0, 0, fun h => absurd h h0, fun k hk => absurd hk (by omega), Nat.lt_trans Nat.zero_lt_one hG.two⟩
  refine (lexM hv (by omega) hby hG mu True cs (fun c hc e _ => h9 c hc e) (by omega) cb co cc pv hpv hci hcb).mono ?_
  rintro e w' ⟨v', gs, rfl, hown, hlen, hup, hbw⟩
  obtain ⟨ps, u1, u2, u3⟩ := hup trivial
  obtain ⟨pg, cg, rfl, hsg⟩ := own_shape hown
  have hpl : ps.length = cs.length := by have := congrArg List.length u1; simpa [hlen] using this.symm
  have hget : ∀ k, k < cs.length → (gs.getD k dG).2.2.2 = ((ps.getD k 0 : Nat) : Int) := fun k hk => by
    have h1 : (gs.map (·.2.2.2))[k]? = (ps.map (fun k : Nat => (k : Int)))[k]? := by rw [u1]
    simp only [List.getElem?_map] at h1
    simp [List.getD, show k < gs.length by omega, show k < ps.length by omega] at h1 ⊢
    exact h1
  refine ⟨pg, cg, ps, rfl, fun k hk => ⟨u3 _ (by simp [List.getD, show k < ps.length by omega]), fun h0 => ?_⟩, fun h0 => ?_, hbw⟩
  · have := List.pairwise_iff_getElem.1 u2 (k - 1) k (by omega) (by omega) (by omega)
    simpa [List.getD, show k < ps.length by omega, show k - 1 < ps.length by omega] using this
  · obtain ⟨g', rfl, -, -⟩ := hsg h0
    refine ⟨g', rfl, fun k hk => ?_⟩
    rw [hown.cellAt (k * 4 + 3) (by omega), gotCs_get3 gs k (by omega), hget k hk]
set_option maxHeartbeats 16000000 in
set_option maxRecDepth 100000 in
theorem pos_walk {w : World} {ae ao : Addr} (hG : Ground w ae ao)
    {vp : Option Addr} {vc : Nat} {l : List Int} (hv : BytesArg w (.slice vp l.length vc) l) (hby : Bytes l) (hl : l.length ≤ 8192) (mu : Bool) {pv : Option Addr} {cs : List Cl} (cc : Nat) (hc : CallsArg w pv cs) :
    Calls Tryz.prog 6 #[.slice vp l.length vc, .bool mu, .slice pv cs.length cc] w fun e w' => e = .returned (.bool true) ∧ Below w.heap.size w w' := by
  have HG := Lib.hid hG
  have HV := Lib.hid hv
  have HC := Lib.hid hc
  have HBY := Lib.hid hby
  have l1 : ¬ (2147483647 : Int) < l.length := by omega
  have l2 : ¬ (8192 : Int) < l.length := by omega
  clear hG hv hc hby
  go_enter Tryz.func6, Tryz.ntmps6
  go_upto_if 18 with (go_at_call 15; refine (fits1_any cc HC.out).mono ?_; rintro e w1 ⟨r, rfl, hr, hb1⟩; have HR := Lib.hid hr; have HB1 := Lib.hid hb1; clear hr hb1)
  cases r
  · go_wp2_with fail
    exact bodyPost_ret (results_tmp rfl _ _ _) rfl ⟨rfl, HB1.out⟩
  have hlen := HR.out rfl
  clear HR
  go_upto_if 25 with (go_at_call 16; refine (heavy_any cc (HC.out.below HB1.out) hlen).mono ?_; rintro e w2 ⟨r, rfl, hr, rfl⟩; have HR := Lib.hid hr; clear hr)
  have HG1 := Lib.hid (HG.out.below HB1.out)
  cases r
  case true =>
    go_wp2_with (go_at_call 12; refine (known_any HG1.out.env HG1.out.two).mono ?_; rintro e w9 ⟨rfl, hb9⟩; have HB9 := Lib.hid hb9; clear hb9)
    exact bodyPost_ret (results_tmp rfl _ _ _) rfl ⟨rfl, HB1.out.trans (HB9.out.mono HB1.out.size)⟩
  case false =>
    have h512 := HR.out rfl
    clear HR hlen
    have HC1 := Lib.hid (HC.out.below HB1.out)
    go_upto_block 0 with fail
    go_cut [7] from 27 to 42 (fun _ wx => (∀ c ∈ cs, c.1 = 9 → mu = false) ∧ w1 = wx)
    case first =>
      cases mu
      · go_wp2_with fail
        go_loop [7] (fun a => a = .int .i64 0) (fun _ => 0)
        case atStart => rfl
        case round =>
          subst hrel
          by_cases h0 : 0 < cs.length
          · have h0' : (0 : Int) < (cs.length : Int) := by omega
            go_wp2_with fail
            go_meet
            first | exact trivial | exact ⟨trivial, trivial⟩ | exact ⟨fun _ _ _ => rfl, rfl⟩ | exact ⟨trivial, rfl⟩ | exact ⟨fun _ _ _ => trivial, trivial⟩ | exact ⟨fun _ _ _ => trivial, rfl⟩
          · have h0' : ¬ (0 : Int) < (cs.length : Int) := by omega
            go_wp2_with fail
            go_meet
            first | exact trivial | exact ⟨trivial, trivial⟩ | exact ⟨fun _ _ _ => rfl, rfl⟩ | exact ⟨trivial, rfl⟩ | exact ⟨fun _ _ _ => trivial, trivial⟩ | exact ⟨fun _ _ _ => trivial, rfl⟩
      · go_wp2_with fail
        go_loop [7] (fun a => ∃ k : Nat, a = .int .i64 k ∧ k ≤ cs.length ∧ ∀ j, j < k → (cs.getD j dC).1 ≠ 9) (fun a => cs.length - (intOf a).toNat)
        case atStart => exact ⟨0, rfl, Nat.zero_le _, fun j h => absurd h (Nat.not_lt_zero j)⟩
        case round =>
          obtain ⟨k, rfl, hk, hno⟩ := hrel
          have HNO := Lib.hid hno
          clear hno
          by_cases hlt : k < cs.length
          case neg =>
            obtain rfl : k = cs.length := by omega
            go_wp2_with fail
            go_meet
            refine ⟨fun c hc e => ?_, rfl⟩
            obtain ⟨j, hj, rfl⟩ := List.getElem_of_mem hc
            exact absurd (by simpa [List.getD, hj] using e) (HNO.out j hj)
          case pos =>
            obtain ⟨cb2, co, rfl, hcb, hci⟩ := HC1.out (by omega)
            obtain ⟨p3, s3, c3, -, q0, -, -⟩ := hci k hlt
            clear hci
            obtain ⟨a, ha⟩ : ∃ a, (cs.getD k (0, 0, .nilIface)).1 = a := ⟨_, rfl⟩
            rw [ha] at q0
            have HA := Lib.hid ha
            clear ha
            by_cases h9 : a = 9
            · subst h9
              go_wp2_with (go_at_call 12; refine (known_any HG1.out.env HG1.out.two).mono ?_; rintro e w9 ⟨rfl, hb9⟩; have HB9 := Lib.hid hb9; clear hb9)
              exact bodyPost_ret (results_tmp rfl _ _ _) rfl ⟨rfl, HB1.out.trans (HB9.out.mono HB1.out.size)⟩
            · have n9 : (a == 9) = false := beq_eq_false_iff_ne.2 h9
              go_wp2_with fail
              go_round
              case rel =>
                refine ⟨k + 1, by go_num, by omega, fun j hj => ?_⟩
                by_cases hjk : j = k
                · subst hjk; show (cs.getD j (0, 0, .nilIface)).1 ≠ 9; rw [HA.out]; exact h9
                · exact HNO.out j (by omega)
              case measure => simp [intOf]; omega
    case rest =>
      obtain ⟨h9, rfl⟩ := hcut
      have HLX := Lib.hid (pos_lex HG1.out (arg_below HV.out HB1.out) HBY.out hl mu cc HC1.out h512 h9)
      clear h9
      go_wp2_with (go_at_call 13; refine HLX.out.mono ?_; rintro e w3 ⟨pg, cg, ps, rfl, hps, hce, hb3⟩; have HPS := Lib.hid hps; have HCE := Lib.hid hce; have HB3 := Lib.hid hb3; clear hps hce hb3)
      have HG3 := Lib.hid (HG1.out.below HB3.out)
      go_loop [9, 10] (fun a9 a10 => ∃ (k at' : Nat), a9 = .int .i64 at' ∧ a10 = .int .i64 k ∧ k ≤ cs.length ∧ (k = 0 → at' = 0) ∧ (0 < k → at' = ps.getD (k - 1) 0)) (fun _ a10 => cs.length - (intOf a10).toNat)
      case atStart => exact ⟨0, 0, rfl, rfl, Nat.zero_le _, fun _ => rfl, fun h => absurd h (Nat.lt_irrefl 0)⟩
      case round =>
        obtain ⟨k, at', rfl, rfl, hk, ha0, ha1⟩ := hrel
        by_cases hlt : k < cs.length
        case neg =>
          obtain rfl : k = cs.length := by omega
          go_wp2_with (go_at_call 12; refine (known_any HG3.out.env HG3.out.two).mono ?_; rintro e w9 ⟨rfl, hb9⟩; have HB9 := Lib.hid hb9; clear hb9)
          exact bodyPost_ret (results_tmp rfl _ _ _) rfl ⟨rfl, (HB1.out.trans (HB3.out.mono HB1.out.size)).trans (HB9.out.mono (Nat.le_trans HB1.out.size HB3.out.size))⟩
        case pos =>
          obtain ⟨g, rfl, hcell⟩ := HCE.out (by omega)
          have q3 := hcell k hlt
          obtain ⟨p1, p2⟩ := HPS.out k hlt
          obtain ⟨pk, hpk⟩ : ∃ pk, ps.getD k 0 = pk := ⟨_, rfl⟩
          rw [hpk] at q3 p1 p2
          have hge : ¬ (pk : Int) < (at' : Int) := by
            rcases Nat.eq_zero_or_pos k with h0 | h0
            · rw [ha0 h0]; omega
            · rw [ha1 h0]; have := p2 h0; omega
          have hle : ¬ (l.length : Int) < (pk : Int) := by omega
          have HPK := Lib.hid hpk
          clear hcell ha0 ha1 p2 hpk
          go_wp2_with fail
          go_round
          case rel => exact ⟨k + 1, pk, rfl, by go_num, by omega, fun h => absurd h (Nat.succ_ne_zero k), fun _ => by rw [Nat.add_sub_cancel]; exact HPK.out.symm⟩
          case measure => simp [intOf]; omega
end Go.Proofs.YtaecbclonmhbcaaGreatDoor
