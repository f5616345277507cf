/- Proved: for all bytes, laws.FnLexGrammarRefused tells true and leaves its argument as it was. Conditions: the listed package-level variables hold what the program's text lays (the card ties them). -/
import Derived.Test.YtaecbclonmhbcaaGreatDoorCards
import Derived.Test.YtaecbclonmhbcaaGreatDoorTie
import Derived.Test.YtaecbclonmhbcaaGreatDoorR20
import Derived.Test.YtaecbclonmhbcaaGreatDoorHRf
import Derived.Test.YtaecbclonmhbcaaGreatDoorR39
import Derived.SevenTiedAt
import Derived.Stop.Joined
import Derived.Deep.Grids
set_option linter.unusedVariables false
set_option linter.unusedSimpArgs false
namespace Go.Proofs.YtaecbclonmhbcaaGreatDoor
open Go.ChangeShapes Go.WideShapes Go.ChangeAt Go.RowKit Go.Deep
set_option maxHeartbeats 1000000 in
set_option maxRecDepth 100000 in
theorem grm_big {w : World} (v : Value) (n cap : Nat) (p : Option Addr) (hv : v = .slice p n cap) (h : 2147483647 < n) :
    Calls Tryz.prog 11 #[v] w fun e w' => e = .returned (.bool true) ∧ Below w.heap.size w w' := by
  subst hv
  have h1 : (2147483647 : Int) < n := by omega
  go_enter Tryz.func11, Tryz.ntmps11
  go_wp2
  go_ret
  exact ⟨rfl, Below.refl _ _⟩
set_option maxHeartbeats 1000000 in
set_option maxRecDepth 100000 in
theorem grm_mid {w : World} {ae : Sur} {ao : Addr} (he : Env w ae ao) (h2 : 1 < w.heap.size) (v : Value) (n cap : Nat) (p : Option Addr) (hv : v = .slice p n cap) (h0 : n ≤ 2147483647) (h : 8192 < n) :
    Calls Tryz.prog 11 #[v] w fun e w' => e = .returned (.bool true) ∧ Below w.heap.size w w' := by
  subst hv
  have HE := Lib.hid he
  clear he
  have h1 : ¬ (2147483647 : Int) < n := by omega
  have h3 : (8192 : Int) < n := by omega
  go_enter Tryz.func11, Tryz.ntmps11
  go_wp2_with (go_at_call 12; refine (known_any HE.out h2).mono ?_; rintro e w2 ⟨rfl, hb2⟩)
  go_ret
  exact ⟨rfl, hb2⟩
theorem grm_any {w : World} {ae ao : Addr} (he : Env w ⟨ae, fun _ => False⟩ ao) (h2 : 1 < w.heap.size)
    (ho : ∃ ca ta, w.heap[ao.block]? = some (.cells ca ta (0, 0))) (hea : ∃ ca ta, w.heap[ae.block]? = some (.cells ca ta (0, 0)))
    {vp : Option Addr} {vc : Nat} {l : List Int} (hv : BytesArg w (.slice vp l.length vc) l) (hby : Bytes l) :
    Calls Tryz.prog 11 #[.slice vp l.length vc] w fun e w' => e = .returned (.bool true) ∧ Below w.heap.size w w' := by
  by_cases hbig : 2147483647 < l.length
  · exact grm_big _ l.length vc _ rfl hbig
  by_cases hmid : 8192 < l.length
  · exact grm_mid he h2 _ l.length vc _ rfl (by omega) hmid
  exact grm_walk he h2 ho hea hv hby (by omega)
set_option maxRecDepth 100000 in
theorem fnLexGrammarRefused_lifted (os : Os) (started : os.Started) (H : Type) (enc : TypeId × Value → H) :
    ReturnsInHanded {} Tryz.checked os 11 .any (fun w args => (Rows.fnLexGrammarRefusedSpec.pre enc Tryz.prog Tryz.f11 Rows.fnLexGrammarRefusedRow.domain false w args ∧ laidMetH Tryz.prog laidL w) ∧ sizedMet enc Tryz.prog Tryz.f11 (OpenSpec.ofChange Rows.fnLexGrammarRefusedSpec) false w args)
      (Rows.fnLexGrammarRefusedSpec.post enc Tryz.prog Tryz.f11 false true false false) := by
  refine returnsInHanded_of_change_and (C := Tryz.checked) (X := fun w _ => laidMetH Tryz.prog laidL w) (fun _ _ _ hh h => h.of_heap hh) own started (by kernel_rfl) Tryz.func11
    (ChangeSpec.witness_shaped (enc := enc) (C := Tryz.checked) (os := os) (X := fun w _ => laidMetH Tryz.prog laidL w) false (World.laidAll Tryz.prog os laidL) #[.slice none 0 0] 8 (World.laidAll_os _ _ _)
      (wit_shaped os _) (by kernel_rfl) (by kernel_rfl) (by kernel_rfl) (wit_met os _)) ?_
  intro W base args ds gs before hval0 hW hc _ hL _
  obtain ⟨ae, ao, c0, c1, t0, t1, he, h2, hae, hao⟩ := env_of_laid hL
  have hval : ∀ (j : Nat) t v, Tryz.f11.params[j]? = some t → args[j]? = some v → Value.okWide Tryz.prog W .any base t v := hval0
  have hW' := hW
  obtain ⟨p, q, hA0, hV, rfl, _, _⟩ := hW
  have hA : DataW.TrodAll enc Tryz.prog W 0 (fun _ => true) true Tryz.f11.params.toList args.toList ds p := hA0
  rw [Tryz.params11] at hA hval
  obtain ⟨v0, d0, rfl, rfl, r0⟩ := trodAll_one hA
  obtain ⟨rfl, rfl⟩ := trodVars_none hV
  have walk : Calls Tryz.prog 11 #[v0] W fun e w' => e = .returned (.bool true) ∧ Below W.heap.size W w' := by
    obtain ⟨a0, tl, tc, l, rfl, hb, hby, hl⟩ := bytes_arg (hval 0 22 v0 rfl rfl) r0
    subst hl
    exact grm_any he h2 ⟨_, _, hao⟩ ⟨_, _, hae⟩ hb hby
  refine walk.mono fun e W' ⟨he, hb⟩ => ?_
  subst he
  exact ⟨_, rfl, law_post hW' rfl rfl (by decide) rfl hb⟩
theorem fnLexGrammarRefused_named : Tryz.pinned.checked.prog.funcNamed "pub-duolect/laws.FnLexGrammarRefused" = some 11 := by kernel_rfl
theorem fnLexGrammarRefused_inst : Tryz.f11.isInstance Tryz.pinned.checked.prog Rows.fnLexGrammarRefusedRow.origin Rows.fnLexGrammarRefusedRow.targs := of_decide_eq_true (by kernel_rfl)
theorem fnLexGrammarRefused_wrap : Tryz.f11.isWrapper Tryz.pinned.checked.prog Rows.fnLexGrammarRefusedRow.wrapper Rows.fnLexGrammarRefusedRow.mainSum := by unfold Func.isWrapper; first | (rw [if_pos (by decide +kernel)]; kernel_rfl) | (rw [if_neg (by decide +kernel)]; exact ⟨rfl, rfl⟩)
theorem fnLexGrammarRefused_said : Rows.FnLexGrammarRefusedSaid :=
  OpenClaim.holds_of_wide 11 Tryz.f11 rfl rfl rfl rfl rfl rfl rfl ⟨rfl, rfl, rfl, rfl, rfl⟩ rfl rfl rfl rfl rfl fnLexGrammarRefused_named Tryz.func11 fnLexGrammarRefused_facts fnLexGrammarRefused_inst fnLexGrammarRefused_wrap
    (fun os started H enc _ => fnLexGrammarRefused_lifted os started H enc)
theorem fnLexGrammarRefused_plain (f : FuncId) (fn : Func) (hf : Tryz.pinned.checked.prog.funcNamed "pub-duolect/laws.FnLexGrammarRefused" = some f) (hfn : Tryz.pinned.checked.prog.funcs[f]? = some fn) :
    true = Tryz.pinned.checked.prog.looks [] ∧ ∀ (j : Nat) t, fn.params[j]? = some t → Tryz.pinned.checked.prog.wantsStandIn t = false := by
  obtain rfl : f = 11 := Option.some.inj ((show Tryz.prog.funcNamed "pub-duolect/laws.FnLexGrammarRefused" = some 11 by kernel_rfl).symm.trans hf) |>.symm
  obtain rfl : fn = Tryz.f11 := (Option.some.inj (Tryz.func11.symm.trans hfn)).symm
  refine ⟨by kernel_rfl, fun j t ht => ?_⟩
  rw [Tryz.params11] at ht
  have hm : t ∈ [22] := by simpa using Array.mem_of_getElem? ht
  have hall : ([22].all fun u => !Tryz.prog.wantsStandIn u) = true := by kernel_rfl
  exact (show Tryz.prog.wantsStandIn t = false by simpa using List.all_eq_true.1 hall t hm)
theorem fnLexGrammarRefused_holds : Rows.FnLexGrammarRefusedCardSaid :=
  Claim7.holds_tied_plain_at .later [] _ _ _ _ fnLexGrammarRefused_said (fun _ h => by cases h) (by kernel_rfl) (fun _ h => by cases h) fnLexGrammarRefused_row_tie rfl ⟨rfl, rfl⟩ (by kernel_rfl) rfl fnLexGrammarRefused_plain (by kernel_rfl)
#print axioms fnLexGrammarRefused_holds
end Go.Proofs.YtaecbclonmhbcaaGreatDoor
