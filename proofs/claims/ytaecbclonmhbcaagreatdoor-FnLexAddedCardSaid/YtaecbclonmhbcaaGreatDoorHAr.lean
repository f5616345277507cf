/- Proved: for all bytes and for every pair of numbers, laws.FnLexAdded tells true and leaves its arguments as they were. Conditions: the listed package-level variables hold what the program's text lays (the card ties them). -/
import Derived.Test.YtaecbclonmhbcaaGreatDoorCards
import Derived.Test.YtaecbclonmhbcaaGreatDoorTie
import Derived.Test.YtaecbclonmhbcaaGreatDoorG34
import Derived.Test.YtaecbclonmhbcaaGreatDoorHAf
import Derived.Test.YtaecbclonmhbcaaGreatDoorHAw
import Derived.SevenTiedAt
import Derived.Stop.Joined
import Derived.Deep.Grids
set_option linter.unusedVariables false
set_option linter.unusedSimpArgs false
namespace Go.Proofs.YtaecbclonmhbcaaGreatDoor
open Go.ChangeShapes Go.WideShapes Go.ChangeAt Go.RowKit Go.Deep

set_option maxHeartbeats 1000000 in
set_option maxRecDepth 100000 in
theorem added_big {w : World} (v : Value) (n cap : Nat) (p : Option Addr) (hv : v = .slice p n cap) (h : 2147483647 < n) (a b : Int) :
    Calls Tryz.prog 3 #[v, .int .u8 a, .int .u8 b] w fun e w' => e = .returned (.bool true) ∧ Below w.heap.size w w' := by
  subst hv
  have h1 : (2147483647 : Int) < n := by omega
  go_enter Tryz.func3, Tryz.ntmps3
  go_wp2
  go_ret
  exact ⟨rfl, Below.refl _ _⟩
set_option maxHeartbeats 1000000 in
set_option maxRecDepth 100000 in
theorem added_mid {w : World} {ae : Sur} {ao : Addr} (he : Env w ae ao) (h2 : 1 < w.heap.size) (v : Value) (n cap : Nat) (p : Option Addr) (hv : v = .slice p n cap) (h0 : n ≤ 2147483647) (h : 8192 < n) (a b : Int) :
    Calls Tryz.prog 3 #[v, .int .u8 a, .int .u8 b] w fun e w' => e = .returned (.bool true) ∧ Below w.heap.size w w' := by
  subst hv
  have HE := Lib.hid he
  clear he
  have h1 : ¬ (2147483647 : Int) < n := by omega
  have h3 : (8192 : Int) < n := by omega
  go_enter Tryz.func3, Tryz.ntmps3
  go_wp2_with (go_at_call 12; refine (known_any HE.out h2).mono ?_; rintro e w2 ⟨rfl, hb2⟩)
  go_ret
  exact ⟨rfl, hb2⟩
theorem added_any {w : World} {ae ao : Addr} (he : Env w ⟨ae, fun _ => False⟩ ao) (h2 : 1 < w.heap.size) (hT : Tabs w) {ca cb : Array Value} {ta tb : TypeId} (ha : w.heap[ao.block]? = some (.cells ca ta (0, 0))) (hb : w.heap[ae.block]? = some (.cells cb tb (0, 0)))
    {vp : Option Addr} {vc : Nat} {l : List Int} (hv : BytesArg w (.slice vp l.length vc) l) (hby : Bytes l) (p q : Int) (hp : 0 ≤ p ∧ p ≤ 255) (hq : 0 ≤ q ∧ q ≤ 255) :
    Calls Tryz.prog 3 #[.slice vp l.length vc, .int .u8 p, .int .u8 q] w fun e w' => e = .returned (.bool true) ∧ Below w.heap.size w w' := by
  by_cases hbig : 2147483647 < l.length
  · exact added_big _ l.length vc _ rfl hbig p q
  by_cases hmid : 8192 < l.length
  · exact added_mid he h2 _ l.length vc _ rfl (by omega) hmid p q
  exact added_walk he h2 hT ha hb hv hby (by omega) p q hp hq

set_option maxRecDepth 100000 in
theorem fnLexAdded_lifted (os : Os) (started : os.Started) (H : Type) (enc : TypeId × Value → H) :
    ReturnsInHanded {} Tryz.checked os 3 .any (fun w args => (Rows.fnLexAddedSpec.pre enc Tryz.prog Tryz.f3 Rows.fnLexAddedRow.domain false w args ∧ laidMetH Tryz.prog laidL w) ∧ sizedMet enc Tryz.prog Tryz.f3 (OpenSpec.ofChange Rows.fnLexAddedSpec) false w args)
      (Rows.fnLexAddedSpec.post enc Tryz.prog Tryz.f3 false true false false) := by
  refine returnsInHanded_of_change_and (C := Tryz.checked) (X := fun w _ => laidMetH Tryz.prog laidL w) (fun _ _ _ hh h => h.of_heap hh) own started (by kernel_rfl) Tryz.func3
    (ChangeSpec.witness_shaped (enc := enc) (C := Tryz.checked) (os := os) (X := fun w _ => laidMetH Tryz.prog laidL w) false (World.laidAll Tryz.prog os laidL) #[.slice none 0 0, .int .u8 0, .int .u8 0] 8 (World.laidAll_os _ _ _)
      (wit_shaped os _) (by kernel_rfl) (by kernel_rfl) (by kernel_rfl) (wit_met os _)) ?_
  intro W base args ds gs before hval0 hW hc _ hL _
  obtain ⟨ae, ao, c0, c1, t0, t1, he, h2, hae, hao⟩ := env_of_laid hL
  have hval : ∀ (j : Nat) t v, Tryz.f3.params[j]? = some t → args[j]? = some v → Value.okWide Tryz.prog W .any base t v := hval0
  have hW' := hW
  obtain ⟨p, q, hA0, hV, rfl, _, _⟩ := hW
  have hA : DataW.TrodAll enc Tryz.prog W 0 (fun _ => true) true Tryz.f3.params.toList args.toList ds p := hA0
  rw [Tryz.params3] at hA hval
  obtain ⟨v0, v1, v2, d0, d1, d2, p0, p1, p2, rfl, rfl, rfl, r0, r1, r2⟩ := trodAll_three hA
  obtain ⟨rfl, rfl⟩ := trodVars_none hV
  obtain ⟨x, rfl, rfl, -, wx⟩ := open_int Tryz.underlying5 (hval 1 5 v1 rfl rfl) r1
  obtain ⟨y, rfl, rfl, -, wy⟩ := open_int Tryz.underlying5 (hval 2 5 v2 rfl rfl) r2
  have walk : Calls Tryz.prog 3 #[v0, .int .u8 x, .int .u8 y] W fun e w' => e = .returned (.bool true) ∧ Below W.heap.size W w' := by
    obtain ⟨a0, tl, tc, l, rfl, hb, hby, hl⟩ := bytes_arg (hval 0 22 v0 rfl rfl) r0
    subst hl
    exact added_any he h2 (tabs_of hL) hao hae hb hby x y (bounds_u8 wx) (bounds_u8 wy)
  refine walk.mono fun e W' ⟨he, hb⟩ => ?_
  subst he
  exact ⟨_, rfl, law_post hW' rfl rfl (by decide) rfl hb⟩

theorem fnLexAdded_named : Tryz.pinned.checked.prog.funcNamed "pub-duolect/laws.FnLexAdded" = some 3 := by kernel_rfl
theorem fnLexAdded_inst : Tryz.f3.isInstance Tryz.pinned.checked.prog Rows.fnLexAddedRow.origin Rows.fnLexAddedRow.targs := of_decide_eq_true (by kernel_rfl)
theorem fnLexAdded_wrap : Tryz.f3.isWrapper Tryz.pinned.checked.prog Rows.fnLexAddedRow.wrapper Rows.fnLexAddedRow.mainSum := by unfold Func.isWrapper; first | (rw [if_pos (by decide +kernel)]; kernel_rfl) | (rw [if_neg (by decide +kernel)]; exact ⟨rfl, rfl⟩)
theorem fnLexAdded_said : Rows.FnLexAddedSaid :=
  OpenClaim.holds_of_wide 3 Tryz.f3 rfl rfl rfl rfl rfl rfl rfl ⟨rfl, rfl, rfl, rfl, rfl⟩ rfl rfl rfl rfl rfl fnLexAdded_named Tryz.func3 fnLexAdded_facts fnLexAdded_inst fnLexAdded_wrap
    (fun os started H enc _ => fnLexAdded_lifted os started H enc)
theorem fnLexAdded_plain (f : FuncId) (fn : Func) (hf : Tryz.pinned.checked.prog.funcNamed "pub-duolect/laws.FnLexAdded" = some f) (hfn : Tryz.pinned.checked.prog.funcs[f]? = some fn) :
    true = Tryz.pinned.checked.prog.looks [] ∧ ∀ (j : Nat) t, fn.params[j]? = some t → Tryz.pinned.checked.prog.wantsStandIn t = false := by
  obtain rfl : f = 3 := Option.some.inj ((show Tryz.prog.funcNamed "pub-duolect/laws.FnLexAdded" = some 3 by kernel_rfl).symm.trans hf) |>.symm
  obtain rfl : fn = Tryz.f3 := (Option.some.inj (Tryz.func3.symm.trans hfn)).symm
  refine ⟨by kernel_rfl, fun j t ht => ?_⟩
  rw [Tryz.params3] at ht
  have hm : t ∈ [22, 5, 5] := by simpa using Array.mem_of_getElem? ht
  have hall : ([22, 5, 5].all fun u => !Tryz.prog.wantsStandIn u) = true := by kernel_rfl
  exact (show Tryz.prog.wantsStandIn t = false by simpa using List.all_eq_true.1 hall t hm)
theorem fnLexAdded_holds : Rows.FnLexAddedCardSaid :=
  Claim7.holds_tied_plain_at .later [] _ _ _ _ fnLexAdded_said (fun _ h => by cases h) (by kernel_rfl) (fun _ h => by cases h) fnLexAdded_row_tie rfl ⟨rfl, rfl⟩ (by kernel_rfl) rfl fnLexAdded_plain (by kernel_rfl)
#print axioms fnLexAdded_holds
end Go.Proofs.YtaecbclonmhbcaaGreatDoor
