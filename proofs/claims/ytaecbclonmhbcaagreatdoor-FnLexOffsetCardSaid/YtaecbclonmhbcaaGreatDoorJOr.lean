/- Proved: for all bytes and every row of calls, laws.FnLexOffset tells true and leaves its arguments as they were. Conditions: the listed package-level variables hold what the program's text lays (the card ties them). -/
import Derived.Test.YtaecbclonmhbcaaGreatDoorCards
import Derived.Test.YtaecbclonmhbcaaGreatDoorTie
import Derived.Test.YtaecbclonmhbcaaGreatDoorP32
import Derived.Test.YtaecbclonmhbcaaGreatDoorHOf
import Derived.Test.YtaecbclonmhbcaaGreatDoorQ49
import Derived.Test.YtaecbclonmhbcaaGreatDoorJOw
import Derived.SevenTiedAt
import Derived.Stop.Joined
import Derived.Deep.Grids
set_option linter.unusedVariables false
set_option linter.unusedSimpArgs false
namespace Go.Proofs.YtaecbclonmhbcaaGreatDoor
open Go.ChangeShapes Go.WideShapes Go.ChangeAt Go.RowKit Go.Deep
set_option maxHeartbeats 1000000 in
set_option maxRecDepth 100000 in
theorem off_big {w : World} (v u : Value) (n cap : Nat) (p : Option Addr) (hv : v = .slice p n cap) (h : 2147483647 < n) :
    Calls Tryz.prog 10 #[v, u] w fun e w' => e = .returned (.bool true) ∧ Below w.heap.size w w' := by
  subst hv
  have h1 : (2147483647 : Int) < n := by omega
  go_enter Tryz.func10, Tryz.ntmps10
  go_wp2
  go_ret
  exact ⟨rfl, Below.refl _ _⟩
set_option maxHeartbeats 1000000 in
set_option maxRecDepth 100000 in
theorem off_mid {w : World} {ae ao : Addr} (hG : Ground w ae ao) (v : Value) (n cap : Nat) (p : Option Addr) (hv : v = .slice p n cap) (h0 : n ≤ 2147483647) (h : 8192 < n) {pv : Option Addr} {cs : List Cl} (cc : Nat) (hc : CallsArg w pv cs) :
    Calls Tryz.prog 10 #[v, .slice pv cs.length cc] w fun e w' => e = .returned (.bool true) ∧ Below w.heap.size w w' := by
  subst hv
  have HG := Lib.hid hG
  have HC := Lib.hid hc
  clear hG hc
  have h1 : ¬ (2147483647 : Int) < n := by omega
  have h3 : (8192 : Int) < n := by omega
  go_enter Tryz.func10, Tryz.ntmps10
  go_upto_if 16 with (go_at_call 15; refine (fits1_any cc HC.out).mono ?_; rintro e w1 ⟨r, rfl, -, hb1⟩; have HB1 := Lib.hid hb1; clear hb1)
  cases r
  · go_wp2_with fail
    exact bodyPost_ret (results_tmp rfl _ _ _) rfl ⟨rfl, HB1.out⟩
  · have HG1 := Lib.hid (HG.out.below HB1.out)
    go_wp2_with (go_at_call 12; refine (known_any HG1.out.env HG1.out.two).mono ?_; rintro e w9 ⟨rfl, hb9⟩; have HB9 := Lib.hid hb9; clear hb9)
    exact bodyPost_ret (results_tmp rfl _ _ _) rfl ⟨rfl, HB1.out.trans (HB9.out.mono HB1.out.size)⟩
theorem off_any {w : World} {ae ao : Addr} (hG : Ground w ae ao)
    {vp : Option Addr} {vc : Nat} {l : List Int} (hv : BytesArg w (.slice vp l.length vc) l) (hby : Bytes l) {pv : Option Addr} {cs : List Cl} (cc : Nat) (hc : CallsArg w pv cs) :
    Calls Tryz.prog 10 #[.slice vp l.length vc, .slice pv cs.length cc] w fun e w' => e = .returned (.bool true) ∧ Below w.heap.size w w' := by
  by_cases hbig : 2147483647 < l.length
  · exact off_big _ _ l.length vc _ rfl hbig
  by_cases hmid : 8192 < l.length
  · exact off_mid hG _ l.length vc _ rfl (by omega) hmid cc hc
  exact off_walk hG hv hby (by omega) cc hc
set_option maxRecDepth 100000 in
theorem fnLexOffset_lifted (os : Os) (started : os.Started) (H : Type) (enc : TypeId × Value → H) :
    ReturnsInHanded {} Tryz.checked os 10 .any (fun w args => (Rows.fnLexOffsetSpec.pre enc Tryz.prog Tryz.f10 Rows.fnLexOffsetRow.domain false w args ∧ laidMetH Tryz.prog laidL w) ∧ sizedMet enc Tryz.prog Tryz.f10 (OpenSpec.ofChange Rows.fnLexOffsetSpec) false w args)
      (Rows.fnLexOffsetSpec.post enc Tryz.prog Tryz.f10 false true false false) := by
  refine returnsInHanded_of_change_and (C := Tryz.checked) (X := fun w _ => laidMetH Tryz.prog laidL w) (fun _ _ _ hh h => h.of_heap hh) own started (by kernel_rfl) Tryz.func10
    (ChangeSpec.witness_shaped (enc := enc) (C := Tryz.checked) (os := os) (X := fun w _ => laidMetH Tryz.prog laidL w) false (World.laidAll Tryz.prog os laidL) #[.slice none 0 0, .slice none 0 0] 8 (World.laidAll_os _ _ _)
      (wit_shaped os _) (by kernel_rfl) (by kernel_rfl) (by kernel_rfl) (wit_met os _)) ?_
  intro W base args ds gs before hval0 hW hc _ hL _
  obtain ⟨ae, ao, c0, c1, t0, t1, he, h2, hae, hao⟩ := env_of_laid hL
  have hval : ∀ (j : Nat) t v, Tryz.f10.params[j]? = some t → args[j]? = some v → Value.okWide Tryz.prog W .any base t v := hval0
  have hW' := hW
  obtain ⟨p, q, hA0, hV, rfl, _, _⟩ := hW
  have hA : DataW.TrodAll enc Tryz.prog W 0 (fun _ => true) true Tryz.f10.params.toList args.toList ds p := hA0
  rw [Tryz.params10] at hA hval
  obtain ⟨v0, v1, d0, d1, p0, p1, rfl, rfl, rfl, r0, r1⟩ := trodAll_two hA
  obtain ⟨rfl, rfl⟩ := trodVars_none hV
  have walk : Calls Tryz.prog 10 #[v0, v1] W fun e w' => e = .returned (.bool true) ∧ Below W.heap.size W w' := by
    obtain ⟨a0, tl, tc, l, rfl, hb, hby, hl⟩ := bytes_arg (hval 0 22 v0 rfl rfl) r0
    subst hl
    obtain ⟨a1, n1, c1', cs, rfl, hc1, hn⟩ := calls_arg (hval 1 28 v1 rfl rfl) r1
    subst hn
    obtain ⟨ae', ao', hG⟩ := ground_of hL
    exact off_any hG hb hby c1' hc1
  refine walk.mono fun e W' ⟨he, hb⟩ => ?_
  subst he
  exact ⟨_, rfl, law_post hW' rfl rfl (by decide) rfl hb⟩
theorem fnLexOffset_named : Tryz.pinned.checked.prog.funcNamed "pub-duolect/laws.FnLexOffset" = some 10 := by kernel_rfl
theorem fnLexOffset_inst : Tryz.f10.isInstance Tryz.pinned.checked.prog Rows.fnLexOffsetRow.origin Rows.fnLexOffsetRow.targs := of_decide_eq_true (by kernel_rfl)
theorem fnLexOffset_wrap : Tryz.f10.isWrapper Tryz.pinned.checked.prog Rows.fnLexOffsetRow.wrapper Rows.fnLexOffsetRow.mainSum := by unfold Func.isWrapper; first | (rw [if_pos (by decide +kernel)]; kernel_rfl) | (rw [if_neg (by decide +kernel)]; exact ⟨rfl, rfl⟩)
theorem fnLexOffset_said : Rows.FnLexOffsetSaid :=
  OpenClaim.holds_of_wide 10 Tryz.f10 rfl rfl rfl rfl rfl rfl rfl ⟨rfl, rfl, rfl, rfl, rfl⟩ rfl rfl rfl rfl rfl fnLexOffset_named Tryz.func10 fnLexOffset_facts fnLexOffset_inst fnLexOffset_wrap
    (fun os started H enc _ => fnLexOffset_lifted os started H enc)
theorem fnLexOffset_plain (f : FuncId) (fn : Func) (hf : Tryz.pinned.checked.prog.funcNamed "pub-duolect/laws.FnLexOffset" = some f) (hfn : Tryz.pinned.checked.prog.funcs[f]? = some fn) :
    true = Tryz.pinned.checked.prog.looks [] ∧ ∀ (j : Nat) t, fn.params[j]? = some t → Tryz.pinned.checked.prog.wantsStandIn t = false := by
  obtain rfl : f = 10 := Option.some.inj ((show Tryz.prog.funcNamed "pub-duolect/laws.FnLexOffset" = some 10 by kernel_rfl).symm.trans hf) |>.symm
  obtain rfl : fn = Tryz.f10 := (Option.some.inj (Tryz.func10.symm.trans hfn)).symm
  refine ⟨by kernel_rfl, fun j t ht => ?_⟩
  rw [Tryz.params10] at ht
  have hm : t ∈ [22, 28] := by simpa using Array.mem_of_getElem? ht
  have hall : ([22, 28].all fun u => !Tryz.prog.wantsStandIn u) = true := by kernel_rfl
  exact (show Tryz.prog.wantsStandIn t = false by simpa using List.all_eq_true.1 hall t hm)
theorem fnLexOffset_holds : Rows.FnLexOffsetCardSaid :=
  Claim7.holds_tied_plain_at .later [] _ _ _ _ fnLexOffset_said (fun _ h => by cases h) (by kernel_rfl) (fun _ h => by cases h) fnLexOffset_row_tie rfl ⟨rfl, rfl⟩ (by kernel_rfl) rfl fnLexOffset_plain (by kernel_rfl)
#print axioms fnLexOffset_holds
end Go.Proofs.YtaecbclonmhbcaaGreatDoor
