/- Proved: for all bytes, both modes and every row of calls, laws.FnLexPos tells true and leaves its arguments as they were. Conditions: the listed package-level variables hold what the program's text lays (the card ties them). -/
import Derived.Test.YtaecbclonmhbcaaGreatDoorCards
import Derived.Test.YtaecbclonmhbcaaGreatDoorTie
import Derived.Test.YtaecbclonmhbcaaGreatDoorP32
import Derived.Test.YtaecbclonmhbcaaGreatDoorHPf
import Derived.Test.YtaecbclonmhbcaaGreatDoorP49
import Derived.Test.YtaecbclonmhbcaaGreatDoorHPw
import Derived.SevenTiedAt
import Derived.Stop.Joined
import Derived.Deep.Grids
set_option linter.unusedVariables false
set_option linter.unusedSimpArgs false
namespace Go.Proofs.YtaecbclonmhbcaaGreatDoor
open Go.ChangeShapes Go.WideShapes Go.ChangeAt Go.RowKit Go.Deep
set_option maxHeartbeats 1000000 in
set_option maxRecDepth 100000 in
theorem pos_big {w : World} (v u : Value) (mu : Bool) (n cap : Nat) (p : Option Addr) (hv : v = .slice p n cap) (h : 2147483647 < n) :
    Calls Tryz.prog 6 #[v, .bool mu, u] w fun e w' => e = .returned (.bool true) ∧ Below w.heap.size w w' := by
  subst hv
  have h1 : (2147483647 : Int) < n := by omega
  go_enter Tryz.func6, Tryz.ntmps6
  go_wp2
  go_ret
  exact ⟨rfl, Below.refl _ _⟩
set_option maxHeartbeats 1000000 in
set_option maxRecDepth 100000 in
theorem pos_mid {w : World} {ae ao : Addr} (hG : Ground w ae ao) (v : Value) (mu : Bool) (n cap : Nat) (p : Option Addr) (hv : v = .slice p n cap) (h0 : n ≤ 2147483647) (h : 8192 < n) {pv : Option Addr} {cs : List Cl} (cc : Nat) (hc : CallsArg w pv cs) :
    Calls Tryz.prog 6 #[v, .bool mu, .slice pv cs.length cc] w fun e w' => e = .returned (.bool true) ∧ Below w.heap.size w w' := by
  subst hv
  have HG := Lib.hid hG
  have HC := Lib.hid hc
  clear hG hc
  have h1 : ¬ (2147483647 : Int) < n := by omega
  have h3 : (8192 : Int) < n := by omega
  go_enter Tryz.func6, Tryz.ntmps6
  go_upto_if 18 with (go_at_call 15; refine (fits1_any cc HC.out).mono ?_; rintro e w1 ⟨r, rfl, -, hb1⟩; have HB1 := Lib.hid hb1; clear hb1)
  cases r
  · go_wp2_with fail
    exact bodyPost_ret (results_tmp rfl _ _ _) rfl ⟨rfl, HB1.out⟩
  · have HG1 := Lib.hid (HG.out.below HB1.out)
    go_wp2_with (go_at_call 12; refine (known_any HG1.out.env HG1.out.two).mono ?_; rintro e w9 ⟨rfl, hb9⟩; have HB9 := Lib.hid hb9; clear hb9)
    exact bodyPost_ret (results_tmp rfl _ _ _) rfl ⟨rfl, HB1.out.trans (HB9.out.mono HB1.out.size)⟩
theorem pos_any {w : World} {ae ao : Addr} (hG : Ground w ae ao) (mu : Bool)
    {vp : Option Addr} {vc : Nat} {l : List Int} (hv : BytesArg w (.slice vp l.length vc) l) (hby : Bytes l) {pv : Option Addr} {cs : List Cl} (cc : Nat) (hc : CallsArg w pv cs) :
    Calls Tryz.prog 6 #[.slice vp l.length vc, .bool mu, .slice pv cs.length cc] w fun e w' => e = .returned (.bool true) ∧ Below w.heap.size w w' := by
  by_cases hbig : 2147483647 < l.length
  · exact pos_big _ _ mu l.length vc _ rfl hbig
  by_cases hmid : 8192 < l.length
  · exact pos_mid hG _ mu l.length vc _ rfl (by omega) hmid cc hc
  exact pos_walk hG hv hby (by omega) mu cc hc
set_option maxRecDepth 100000 in
theorem fnLexPos_lifted (os : Os) (started : os.Started) (H : Type) (enc : TypeId × Value → H) :
    ReturnsInHanded {} Tryz.checked os 6 .any (fun w args => (Rows.fnLexPosSpec.pre enc Tryz.prog Tryz.f6 Rows.fnLexPosRow.domain false w args ∧ laidMetH Tryz.prog laidL w) ∧ sizedMet enc Tryz.prog Tryz.f6 (OpenSpec.ofChange Rows.fnLexPosSpec) false w args)
      (Rows.fnLexPosSpec.post enc Tryz.prog Tryz.f6 false true false false) := by
  refine returnsInHanded_of_change_and (C := Tryz.checked) (X := fun w _ => laidMetH Tryz.prog laidL w) (fun _ _ _ hh h => h.of_heap hh) own started (by kernel_rfl) Tryz.func6
    (ChangeSpec.witness_shaped (enc := enc) (C := Tryz.checked) (os := os) (X := fun w _ => laidMetH Tryz.prog laidL w) false (World.laidAll Tryz.prog os laidL) #[.slice none 0 0, .bool false, .slice none 0 0] 8 (World.laidAll_os _ _ _)
      (wit_shaped os _) (by kernel_rfl) (by kernel_rfl) (by kernel_rfl) (wit_met os _)) ?_
  intro W base args ds gs before hval0 hW hc _ hL _
  obtain ⟨ae, ao, c0, c1, t0, t1, he, h2, hae, hao⟩ := env_of_laid hL
  have hval : ∀ (j : Nat) t v, Tryz.f6.params[j]? = some t → args[j]? = some v → Value.okWide Tryz.prog W .any base t v := hval0
  have hW' := hW
  obtain ⟨p, q, hA0, hV, rfl, _, _⟩ := hW
  have hA : DataW.TrodAll enc Tryz.prog W 0 (fun _ => true) true Tryz.f6.params.toList args.toList ds p := hA0
  rw [Tryz.params6] at hA hval
  obtain ⟨v0, v1, v2, d0, d1, d2, p0, p1, p2, rfl, rfl, rfl, r0, r1, r2⟩ := trodAll_three hA
  obtain ⟨rfl, rfl⟩ := trodVars_none hV
  obtain ⟨mu, rfl, rfl, -⟩ := open_bool Tryz.underlying4 (hval 1 4 v1 rfl rfl) r1
  have walk : Calls Tryz.prog 6 #[v0, .bool mu, v2] W fun e w' => e = .returned (.bool true) ∧ Below W.heap.size W w' := by
    obtain ⟨a0, tl, tc, l, rfl, hb, hby, hl⟩ := bytes_arg (hval 0 22 v0 rfl rfl) r0
    subst hl
    obtain ⟨a1, n1, c1', cs, rfl, hc1, hn⟩ := calls_arg (hval 2 28 v2 rfl rfl) r2
    subst hn
    obtain ⟨ae', ao', hG⟩ := ground_of hL
    exact pos_any hG mu hb hby c1' hc1
  refine walk.mono fun e W' ⟨he, hb⟩ => ?_
  subst he
  exact ⟨_, rfl, law_post hW' rfl rfl (by decide) rfl hb⟩
theorem fnLexPos_named : Tryz.pinned.checked.prog.funcNamed "pub-duolect/laws.FnLexPos" = some 6 := by kernel_rfl
theorem fnLexPos_inst : Tryz.f6.isInstance Tryz.pinned.checked.prog Rows.fnLexPosRow.origin Rows.fnLexPosRow.targs := of_decide_eq_true (by kernel_rfl)
theorem fnLexPos_wrap : Tryz.f6.isWrapper Tryz.pinned.checked.prog Rows.fnLexPosRow.wrapper Rows.fnLexPosRow.mainSum := by unfold Func.isWrapper; first | (rw [if_pos (by decide +kernel)]; kernel_rfl) | (rw [if_neg (by decide +kernel)]; exact ⟨rfl, rfl⟩)
theorem fnLexPos_said : Rows.FnLexPosSaid :=
  OpenClaim.holds_of_wide 6 Tryz.f6 rfl rfl rfl rfl rfl rfl rfl ⟨rfl, rfl, rfl, rfl, rfl⟩ rfl rfl rfl rfl rfl fnLexPos_named Tryz.func6 fnLexPos_facts fnLexPos_inst fnLexPos_wrap
    (fun os started H enc _ => fnLexPos_lifted os started H enc)
theorem fnLexPos_plain (f : FuncId) (fn : Func) (hf : Tryz.pinned.checked.prog.funcNamed "pub-duolect/laws.FnLexPos" = some f) (hfn : Tryz.pinned.checked.prog.funcs[f]? = some fn) :
    true = Tryz.pinned.checked.prog.looks [] ∧ ∀ (j : Nat) t, fn.params[j]? = some t → Tryz.pinned.checked.prog.wantsStandIn t = false := by
  obtain rfl : f = 6 := Option.some.inj ((show Tryz.prog.funcNamed "pub-duolect/laws.FnLexPos" = some 6 by kernel_rfl).symm.trans hf) |>.symm
  obtain rfl : fn = Tryz.f6 := (Option.some.inj (Tryz.func6.symm.trans hfn)).symm
  refine ⟨by kernel_rfl, fun j t ht => ?_⟩
  rw [Tryz.params6] at ht
  have hm : t ∈ [22, 4, 28] := by simpa using Array.mem_of_getElem? ht
  have hall : ([22, 4, 28].all fun u => !Tryz.prog.wantsStandIn u) = true := by kernel_rfl
  exact (show Tryz.prog.wantsStandIn t = false by simpa using List.all_eq_true.1 hall t hm)
theorem fnLexPos_holds : Rows.FnLexPosCardSaid :=
  Claim7.holds_tied_plain_at .later [] _ _ _ _ fnLexPos_said (fun _ h => by cases h) (by kernel_rfl) (fun _ h => by cases h) fnLexPos_row_tie rfl ⟨rfl, rfl⟩ (by kernel_rfl) rfl fnLexPos_plain (by kernel_rfl)
#print axioms fnLexPos_holds
end Go.Proofs.YtaecbclonmhbcaaGreatDoor
