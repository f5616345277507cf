/- The walk of FnLexOffset. -/
import Derived.Test.YtaecbclonmhbcaaGreatDoorJMo
import Derived.Test.YtaecbclonmhbcaaGreatDoorQ49
set_option linter.unusedVariables false
set_option linter.unusedSimpArgs false
namespace Go.Proofs.YtaecbclonmhbcaaGreatDoor
open Go.RowKit
theorem calls_low {w : World} {ae ao : Addr} (hG : Ground w ae ao) {pv : Option Addr} {cs : List Cl} (hc : CallsArg w pv cs) : ∃ cb co, (0 < cs.length → pv = some ⟨cb, co, none⟩) ∧ CallsIn w cb co cs ∧ cb < w.heap.size := by
  by_cases h0 : 0 < cs.length
  · obtain ⟨cb, co, h1, h2, h3⟩ := hc h0
    exact ⟨cb, co, fun _ => h1, h3, h2⟩
  · exact ⟨0, 0, fun h => absurd h h0, fun k hk => absurd hk (by omega), Nat.lt_trans Nat.zero_lt_one hG.two⟩
set_option maxHeartbeats 16000000 in
set_option maxRecDepth 100000 in
theorem off_walk {w : World} {ae ao : Addr} (hG : Ground w ae ao)
    {vp : Option Addr} {vc : Nat} {l : List Int} (hv : BytesArg w (.slice vp l.length vc) l) (hby : Bytes l) (hl : l.length ≤ 8192) {pv : Option Addr} {cs : List Cl} (cc : Nat) (hc : CallsArg w pv cs) :
    Calls Tryz.prog 10 #[.slice vp l.length vc, .slice pv cs.length cc] w fun e w' => e = .returned (.bool true) ∧ Below w.heap.size w w' := by
  have HG := Lib.hid hG
  have HV := Lib.hid hv
  have HC := Lib.hid hc
  have HBY := Lib.hid hby
  have l1 : ¬ (2147483647 : Int) < l.length := by omega
  have l2 : ¬ (8192 : Int) < l.length := by omega
  clear hG hv hc hby
  go_enter Tryz.func10, Tryz.ntmps10
  go_upto_if 16 with (go_at_call 15; refine (fits1_any cc HC.out).mono ?_; rintro e w1 ⟨r, rfl, hr, hb1⟩; have HR := Lib.hid hr; have HB1 := Lib.hid hb1; clear hr hb1)
  cases r
  · go_wp2_with fail
    exact bodyPost_ret (results_tmp rfl _ _ _) rfl ⟨rfl, HB1.out⟩
  have hlen := HR.out rfl
  clear HR
  go_upto_if 23 with (go_at_call 16; refine (heavy_any cc (HC.out.below HB1.out) hlen).mono ?_; rintro e w2 ⟨r, rfl, hr, rfl⟩; have HR := Lib.hid hr; clear hr)
  have HG1 := Lib.hid (HG.out.below HB1.out)
  cases r
  case true =>
    go_wp2_with (go_at_call 12; refine (known_any HG1.out.env HG1.out.two).mono ?_; rintro e w9 ⟨rfl, hb9⟩; have HB9 := Lib.hid hb9; clear hb9)
    exact bodyPost_ret (results_tmp rfl _ _ _) rfl ⟨rfl, HB1.out.trans (HB9.out.mono HB1.out.size)⟩
  case false =>
    have h512 := HR.out rfl
    clear HR hlen
    have HC1 := Lib.hid (HC.out.below HB1.out)
    obtain ⟨cb, co, hpv, hci, hcb⟩ := calls_low HG1.out HC1.out
    have HO1 := Lib.hid (offset_any (arg_below HV.out HB1.out) (by omega) HBY.out HG1.out cs (by omega) cb co cc pv hpv hci hcb)
    clear hpv hci hcb
    go_upto_region 6 with (go_at_call 18; refine HO1.out.mono ?_; rintro e w3 ⟨o, t, rfl, ho, hb3⟩; have HB3 := Lib.hid hb3; clear hb3)
    have ho0 : ¬ (o : Int) < 0 := by omega
    have ho1 : ¬ (l.length : Int) < (o : Int) := by omega
    cases t
    all_goals
      have HG3 := Lib.hid (HG1.out.below HB3.out)
      have HC3 := Lib.hid (HC1.out.below HB3.out)
      obtain ⟨cb3, co3, hpv, hci, hcb⟩ := calls_low HG3.out HC3.out
      have HO3 := Lib.hid (offsets_any (arg_below (arg_below HV.out HB1.out) HB3.out) (by omega) HBY.out HG3.out cs (by omega) cb3 co3 cc pv hpv hci hcb)
      clear hpv hci hcb
      go_wp2_with (go_at_call 19; refine HO3.out.mono ?_; rintro e w4 ⟨v4, os, rfl, hown, hle, hcnt, hb4⟩; obtain ⟨pg, cg, rfl, hsg⟩ := own_shape hown; have HOW := Lib.hid hown; have HLE := Lib.hid hle; have HSG := Lib.hid hsg; have HB4 := Lib.hid hb4; clear hown hle hsg hb4)
      have HG4 := Lib.hid (HG3.out.below HB4.out)
      go_loop [8] (fun a => ∃ k : Nat, a = .int .i64 k ∧ k ≤ os.length) (fun a => os.length - (intOf a).toNat)
      case atStart => exact ⟨0, rfl, Nat.zero_le _⟩
      case round =>
        obtain ⟨k, rfl, hk⟩ := hrel
        by_cases hlt : k < os.length
        case neg =>
          obtain rfl : k = os.length := by omega
          go_wp2_with (go_at_call 12; refine (known_any HG4.out.env HG4.out.two).mono ?_; rintro e w9 ⟨rfl, hb9⟩; have HB9 := Lib.hid hb9; clear hb9)
          exact bodyPost_ret (results_tmp rfl _ _ _) rfl ⟨rfl, ((HB1.out.trans (HB3.out.mono HB1.out.size)).trans (HB4.out.mono (Nat.le_trans HB1.out.size HB3.out.size))).trans (HB9.out.mono (Nat.le_trans (Nat.le_trans HB1.out.size HB3.out.size) HB4.out.size))⟩
        case pos =>
          obtain ⟨g, rfl, -, -⟩ := HSG.out (by omega)
          have q0 : w4.cell? ⟨g, k, none⟩ = some (.int .i64 (os.getD k 0 : Nat)) := by
            rw [HOW.out.cellAt k (by omega)]
            simp [List.getD, hlt]
          have hok : os.getD k 0 ≤ l.length := HLE.out _ (by simp [List.getD, hlt])
          generalize os.getD k 0 = ok at q0 hok
          have h0 : ¬ (ok : Int) < 0 := by omega
          have h1 : ¬ (l.length : Int) < (ok : Int) := by omega
          go_wp2_with fail
          go_round
          case rel => exact ⟨k + 1, by go_num, by omega⟩
          case measure => simp [intOf]; omega
end Go.Proofs.YtaecbclonmhbcaaGreatDoor
