/- Proved: for all bytes and for every row of calls, laws.FnLexStops tells true and leaves its arguments as they were. Conditions: the listed package-level variables hold what the program's text lays (the card ties them). -/
import Derived.Test.YtaecbclonmhbcaaGreatDoorCards
import Derived.Test.YtaecbclonmhbcaaGreatDoorTie
import Derived.Test.YtaecbclonmhbcaaGreatDoorG34
import Derived.Test.YtaecbclonmhbcaaGreatDoorHSf
import Derived.Test.YtaecbclonmhbcaaGreatDoorHSw
import Derived.Test.YtaecbclonmhbcaaGreatDoorHSa
import Derived.SevenTiedAt
import Derived.Stop.Joined
import Derived.Deep.Grids
set_option linter.unusedVariables false
set_option linter.unusedSimpArgs false
namespace Go.Proofs.YtaecbclonmhbcaaGreatDoor
open Go.ChangeShapes Go.WideShapes Go.ChangeAt Go.RowKit Go.Deep

set_option maxHeartbeats 1000000 in
set_option maxRecDepth 100000 in
theorem stops_big {w : World} (v u : Value) (n cap : Nat) (p : Option Addr) (hv : v = .slice p n cap) (h : 2147483647 < n) :
    Calls Tryz.prog 8 #[v, u] w fun e w' => e = .returned (.bool true) ∧ Below w.heap.size w w' := by
  subst hv
  have h1 : (2147483647 : Int) < n := by omega
  go_enter Tryz.func8, Tryz.ntmps8
  go_wp2
  go_ret
  exact ⟨rfl, Below.refl _ _⟩
set_option maxHeartbeats 1000000 in
set_option maxRecDepth 100000 in
theorem stops_mid {w : World} {ae : Sur} {ao : Addr} (he : Env w ae ao) (h2 : 1 < w.heap.size) (v : Value) (n cap : Nat) (p : Option Addr) (hv : v = .slice p n cap) (h0 : n ≤ 2147483647) (h : 8192 < n) {pv : Option Addr} {cs : List Cl} (cc : Nat) (hc : CallsArg w pv cs) :
    Calls Tryz.prog 8 #[v, .slice pv cs.length cc] w fun e w' => e = .returned (.bool true) ∧ Below w.heap.size w w' := by
  subst hv
  have HE := Lib.hid he
  have HC := Lib.hid hc
  clear he hc
  have h1 : ¬ (2147483647 : Int) < n := by omega
  have h3 : (8192 : Int) < n := by omega
  go_enter Tryz.func8, Tryz.ntmps8
  go_upto_if 16 with (go_at_call 15; refine (fits1_any cc HC.out).mono ?_; rintro e w1 ⟨r, rfl, -, hb1⟩; have HB1 := Lib.hid hb1; clear hb1)
  cases r
  · go_wp2_with fail
    exact bodyPost_ret (results_tmp rfl _ _ _) rfl ⟨rfl, HB1.out⟩
  · go_wp2_with (go_at_call 12; refine (known_any (env_below HE.out HB1.out h2) (Nat.lt_of_lt_of_le h2 HB1.out.size)).mono ?_; rintro e w9 ⟨rfl, hb9⟩; have HB9 := Lib.hid hb9; clear hb9)
    exact bodyPost_ret (results_tmp rfl _ _ _) rfl ⟨rfl, HB1.out.trans (HB9.out.mono HB1.out.size)⟩
theorem stops_any {w : World} {ae ao : Addr} (he : Env w ⟨ae, fun _ => False⟩ ao) (h2 : 1 < w.heap.size) (hT : Tabs w) {ca cb : Array Value} {ta tb : TypeId} (ha : w.heap[ao.block]? = some (.cells ca ta (0, 0))) (hb : w.heap[ae.block]? = some (.cells cb tb (0, 0)))
    {vp : Option Addr} {vc : Nat} {l : List Int} (hv : BytesArg w (.slice vp l.length vc) l) (hby : Bytes l) {pv : Option Addr} {cs : List Cl} (cc : Nat) (hc : CallsArg w pv cs) :
    Calls Tryz.prog 8 #[.slice vp l.length vc, .slice pv cs.length cc] w fun e w' => e = .returned (.bool true) ∧ Below w.heap.size w w' := by
  by_cases hbig : 2147483647 < l.length
  · exact stops_big _ _ l.length vc _ rfl hbig
  by_cases hmid : 8192 < l.length
  · exact stops_mid he h2 _ l.length vc _ rfl (by omega) hmid cc hc
  exact stops_walk he h2 hT ha hb hv hby (by omega) cc hc

set_option maxRecDepth 100000 in
theorem fnLexStops_lifted (os : Os) (started : os.Started) (H : Type) (enc : TypeId × Value → H) :
    ReturnsInHanded {} Tryz.checked os 8 .any (fun w args => (Rows.fnLexStopsSpec.pre enc Tryz.prog Tryz.f8 Rows.fnLexStopsRow.domain false w args ∧ laidMetH Tryz.prog laidL w) ∧ sizedMet enc Tryz.prog Tryz.f8 (OpenSpec.ofChange Rows.fnLexStopsSpec) false w args)
      (Rows.fnLexStopsSpec.post enc Tryz.prog Tryz.f8 false true false false) := by
  refine returnsInHanded_of_change_and (C := Tryz.checked) (X := fun w _ => laidMetH Tryz.prog laidL w) (fun _ _ _ hh h => h.of_heap hh) own started (by kernel_rfl) Tryz.func8
    (ChangeSpec.witness_shaped (enc := enc) (C := Tryz.checked) (os := os) (X := fun w _ => laidMetH Tryz.prog laidL w) false (World.laidAll Tryz.prog os laidL) #[.slice none 0 0, .slice none 0 0] 8 (World.laidAll_os _ _ _)
      (wit_shaped os _) (by kernel_rfl) (by kernel_rfl) (by kernel_rfl) (wit_met os _)) ?_
  intro W base args ds gs before hval0 hW hc _ hL _
  obtain ⟨ae, ao, c0, c1, t0, t1, he, h2, hae, hao⟩ := env_of_laid hL
  have hval : ∀ (j : Nat) t v, Tryz.f8.params[j]? = some t → args[j]? = some v → Value.okWide Tryz.prog W .any base t v := hval0
  have hW' := hW
  obtain ⟨p, q, hA0, hV, rfl, _, _⟩ := hW
  have hA : DataW.TrodAll enc Tryz.prog W 0 (fun _ => true) true Tryz.f8.params.toList args.toList ds p := hA0
  rw [Tryz.params8] at hA hval
  obtain ⟨v0, v1, d0, d1, p0, p1, rfl, rfl, rfl, r0, r1⟩ := trodAll_two hA
  obtain ⟨rfl, rfl⟩ := trodVars_none hV
  have walk : Calls Tryz.prog 8 #[v0, v1] W fun e w' => e = .returned (.bool true) ∧ Below W.heap.size W w' := by
    obtain ⟨a0, tl, tc, l, rfl, hb, hby, hl⟩ := bytes_arg (hval 0 22 v0 rfl rfl) r0
    subst hl
    obtain ⟨a1, n1, c1', cs, rfl, hc1, hn⟩ := calls_arg (hval 1 28 v1 rfl rfl) r1
    subst hn
    exact stops_any he h2 (tabs_of hL) hao hae hb hby c1' hc1
  refine walk.mono fun e W' ⟨he, hb⟩ => ?_
  subst he
  exact ⟨_, rfl, law_post hW' rfl rfl (by decide) rfl hb⟩

theorem fnLexStops_named : Tryz.pinned.checked.prog.funcNamed "pub-duolect/laws.FnLexStops" = some 8 := by kernel_rfl
theorem fnLexStops_inst : Tryz.f8.isInstance Tryz.pinned.checked.prog Rows.fnLexStopsRow.origin Rows.fnLexStopsRow.targs := of_decide_eq_true (by kernel_rfl)
theorem fnLexStops_wrap : Tryz.f8.isWrapper Tryz.pinned.checked.prog Rows.fnLexStopsRow.wrapper Rows.fnLexStopsRow.mainSum := by unfold Func.isWrapper; first | (rw [if_pos (by decide +kernel)]; kernel_rfl) | (rw [if_neg (by decide +kernel)]; exact ⟨rfl, rfl⟩)
theorem fnLexStops_said : Rows.FnLexStopsSaid :=
  OpenClaim.holds_of_wide 8 Tryz.f8 rfl rfl rfl rfl rfl rfl rfl ⟨rfl, rfl, rfl, rfl, rfl⟩ rfl rfl rfl rfl rfl fnLexStops_named Tryz.func8 fnLexStops_facts fnLexStops_inst fnLexStops_wrap
    (fun os started H enc _ => fnLexStops_lifted os started H enc)
theorem fnLexStops_plain (f : FuncId) (fn : Func) (hf : Tryz.pinned.checked.prog.funcNamed "pub-duolect/laws.FnLexStops" = some f) (hfn : Tryz.pinned.checked.prog.funcs[f]? = some fn) :
    true = Tryz.pinned.checked.prog.looks [] ∧ ∀ (j : Nat) t, fn.params[j]? = some t → Tryz.pinned.checked.prog.wantsStandIn t = false := by
  obtain rfl : f = 8 := Option.some.inj ((show Tryz.prog.funcNamed "pub-duolect/laws.FnLexStops" = some 8 by kernel_rfl).symm.trans hf) |>.symm
  obtain rfl : fn = Tryz.f8 := (Option.some.inj (Tryz.func8.symm.trans hfn)).symm
  refine ⟨by kernel_rfl, fun j t ht => ?_⟩
  rw [Tryz.params8] at ht
  have hm : t ∈ [22, 28] := by simpa using Array.mem_of_getElem? ht
  have hall : ([22, 28].all fun u => !Tryz.prog.wantsStandIn u) = true := by kernel_rfl
  exact (show Tryz.prog.wantsStandIn t = false by simpa using List.all_eq_true.1 hall t hm)
theorem fnLexStops_holds : Rows.FnLexStopsCardSaid :=
  Claim7.holds_tied_plain_at .later [] _ _ _ _ fnLexStops_said (fun _ h => by cases h) (by kernel_rfl) (fun _ h => by cases h) fnLexStops_row_tie rfl ⟨rfl, rfl⟩ (by kernel_rfl) rfl fnLexStops_plain (by kernel_rfl)
#print axioms fnLexStops_holds
end Go.Proofs.YtaecbclonmhbcaaGreatDoor
