/- Proved: for every row of brackets and every sign, laws.FnLexDelims tells true and leaves its arguments as they were. Conditions: the listed package-level variables hold what the program's text lays (the card ties them). -/
import Derived.Test.YtaecbclonmhbcaaGreatDoorCards
import Derived.Test.YtaecbclonmhbcaaGreatDoorTie
import Derived.Test.YtaecbclonmhbcaaGreatDoorWit
import Derived.Test.YtaecbclonmhbcaaGreatDoorDelF
import Derived.Test.YtaecbclonmhbcaaGreatDoorDelM
import Derived.SevenTiedAt
import Derived.Stop.Joined
import Derived.Deep.Grids
namespace Go.Proofs.YtaecbclonmhbcaaGreatDoor
open Go.ChangeShapes Go.WideShapes Go.ChangeAt Go.RowKit Go.Deep

set_option maxHeartbeats 1000000 in
set_option maxRecDepth 100000 in
theorem delims_big {w : World} (v : Value) (n cap : Nat) (p : Option Addr) (hv : v = .slice p n cap) (h : 2147483647 < n) (c : Int) :
    Calls Tryz.prog 4 #[v, .int .u8 c] w fun e w' => e = .returned (.bool true) ∧ Below w.heap.size w w' := by
  subst hv
  have h1 : (2147483647 : Int) < n := by omega
  go_enter Tryz.func4, Tryz.ntmps4
  go_wp2
  go_ret
  exact ⟨rfl, Below.refl _ _⟩
set_option maxHeartbeats 1000000 in
set_option maxRecDepth 100000 in
theorem delims_mid {w : World} {ae : Sur} {ao : Addr} (he : Env w ae ao) (h2 : 1 < w.heap.size) (v : Value) (n cap : Nat) (p : Option Addr) (hv : v = .slice p n cap) (h0 : n ≤ 2147483647) (h : 200 < n) (c : Int) :
    Calls Tryz.prog 4 #[v, .int .u8 c] w fun e w' => e = .returned (.bool true) ∧ Below w.heap.size w w' := by
  subst hv
  have HE := Lib.hid he
  clear he
  have h1 : ¬ (2147483647 : Int) < n := by omega
  have h3 : (200 : Int) < n := by omega
  go_enter Tryz.func4, Tryz.ntmps4
  go_wp2_with (go_at_call 12; refine (known_any HE.out h2).mono ?_; rintro e w2 ⟨rfl, hb2⟩)
  go_ret
  exact ⟨rfl, hb2⟩

theorem cells32 : Tryz.prog.cellsOf 4 = 1 := by kernel_rfl
/-- Every row, every sign. -/
theorem delims_any {w : World} {ae : Sur} {ao : Addr} (he : Env w ae ao) (h2 : 1 < w.heap.size) {v : Value} (c : Int) (hc0 : 0 ≤ c) (hc1 : c ≤ 255)
    (hv : v = .slice none 0 0 ∨ ∃ (a : Addr) (len cap : Nat) (B : Nat → Bool), v = .slice (some a) len cap ∧ len ≤ cap ∧ ∀ i, i < cap → w.cell? (a.add i) = some (.bool (B i))) :
    Calls Tryz.prog 4 #[v, .int .u8 c] w fun e w' => e = .returned (.bool true) ∧ Below w.heap.size w w' := by
  rcases hv with rfl | ⟨a, len, cap, B, rfl, hl, hx⟩
  · exact delims_none he h2 none 0 c
  by_cases hbig : 2147483647 < len
  · exact delims_big _ len cap _ rfl hbig c
  by_cases hmid : 200 < len
  · exact delims_mid he h2 _ len cap _ rfl (by omega) hmid c
  by_cases h0 : len = 0
  · subst h0; exact delims_none he h2 _ cap c
  have hla : a.spot = none := by simpa [Addr.add] using World.cell?_spot (hx 0 (by omega))
  obtain ⟨rb, ro, ea⟩ := a
  simp only at hla
  subst hla
  have hlen : ((List.range len).map B).length = len := by simp
  have hrow := delims_row he h2 (rb := rb) (ro := ro) (cap := cap) (row := (List.range len).map B) (by intro e; rw [e] at hlen; simp at hlen; omega) (by rw [hlen]; omega)
    (World.block_lt_of_cell? w _ (hx 0 (by omega))) (fun i hi => by
      rw [hlen] at hi
      have := hx i (by omega)
      rw [addr_add] at this
      rw [this]
      simp [List.getD, hi]) c hc0 hc1
  rw [hlen] at hrow
  exact hrow

set_option maxRecDepth 100000 in
theorem fnLexDelims_lifted (os : Os) (started : os.Started) (H : Type) (enc : TypeId × Value → H) :
    ReturnsInHanded {} Tryz.checked os 4 .any (fun w args => (Rows.fnLexDelimsSpec.pre enc Tryz.prog Tryz.f4 Rows.fnLexDelimsRow.domain false w args ∧ laidMetH Tryz.prog laidL w) ∧ sizedMet enc Tryz.prog Tryz.f4 (OpenSpec.ofChange Rows.fnLexDelimsSpec) false w args)
      (Rows.fnLexDelimsSpec.post enc Tryz.prog Tryz.f4 false true false false) := by
  refine returnsInHanded_of_change_and (C := Tryz.checked) (X := fun w _ => laidMetH Tryz.prog laidL w) (fun _ _ _ hh h => h.of_heap hh) own started (by kernel_rfl) Tryz.func4
    (ChangeSpec.witness_shaped (enc := enc) (C := Tryz.checked) (os := os) (X := fun w _ => laidMetH Tryz.prog laidL w) false (World.laidAll Tryz.prog os laidL) #[.slice none 0 0, .int .u8 0] 8 (World.laidAll_os _ _ _)
      (wit_shaped os _) (by kernel_rfl) (by kernel_rfl) (by kernel_rfl) (wit_met os _)) ?_
  intro W base args ds gs before hval0 hW hc _ hL _
  obtain ⟨ae, ao, c0, c1, t0, t1, he, h2, hae, hao⟩ := env_of_laid hL
  have hval : ∀ (j : Nat) t v, Tryz.f4.params[j]? = some t → args[j]? = some v → Value.okWide Tryz.prog W .any base t v := hval0
  have hW' := hW
  obtain ⟨p, q, hA0, hV, rfl, _, _⟩ := hW
  have hA : DataW.TrodAll enc Tryz.prog W 0 (fun _ => true) true Tryz.f4.params.toList args.toList ds p := hA0
  rw [Tryz.params4] at hA hval
  obtain ⟨v0, v1, d0, d1, p0, p1, rfl, rfl, rfl, r0, r1⟩ := trodAll_two hA
  obtain ⟨rfl, rfl⟩ := trodVars_none hV
  obtain ⟨x, rfl, rfl, -, wx⟩ := open_int Tryz.underlying5 (hval 1 5 v1 rfl rfl) r1
  have hx : 0 ≤ x ∧ x ≤ 255 := bounds_u8 wx
  have walk : Calls Tryz.prog 4 #[v0, .int .u8 x] W fun e w' => e = .returned (.bool true) ∧ Below W.heap.size W w' := by
    refine delims_any he h2 x hx.1 hx.2 ?_
    obtain ⟨a0, len, cap, rfl⟩ := okWide_slice Tryz.underlying32 (hval 0 32 v0 rfl rfl)
    obtain ⟨fuel, hf⟩ := r0
    rcases open_bools Tryz.underlying32 Tryz.underlying4 cells32 hf with ⟨hcs, -⟩ | ⟨a, len', cap', B, hcs, -, hl, -, -, hcell⟩
    · left
      simpa [Value.cells] using hcs
    · right
      simp [Value.cells] at hcs
      obtain ⟨rfl, rfl, rfl⟩ := hcs
      exact ⟨a, len, cap, B, rfl, hl, hcell⟩
  refine walk.mono fun e W' ⟨he, hb⟩ => ?_
  subst he
  exact ⟨_, rfl, law_post hW' rfl rfl (by decide) rfl hb⟩

theorem fnLexDelims_named : Tryz.pinned.checked.prog.funcNamed "pub-duolect/laws.FnLexDelims" = some 4 := by kernel_rfl
theorem fnLexDelims_inst : Tryz.f4.isInstance Tryz.pinned.checked.prog Rows.fnLexDelimsRow.origin Rows.fnLexDelimsRow.targs := of_decide_eq_true (by kernel_rfl)
theorem fnLexDelims_wrap : Tryz.f4.isWrapper Tryz.pinned.checked.prog Rows.fnLexDelimsRow.wrapper Rows.fnLexDelimsRow.mainSum := by unfold Func.isWrapper; first | (rw [if_pos (by decide +kernel)]; kernel_rfl) | (rw [if_neg (by decide +kernel)]; exact ⟨rfl, rfl⟩)
theorem fnLexDelims_said : Rows.FnLexDelimsSaid :=
  OpenClaim.holds_of_wide 4 Tryz.f4 rfl rfl rfl rfl rfl rfl rfl ⟨rfl, rfl, rfl, rfl, rfl⟩ rfl rfl rfl rfl rfl fnLexDelims_named Tryz.func4 fnLexDelims_facts fnLexDelims_inst fnLexDelims_wrap
    (fun os started H enc _ => fnLexDelims_lifted os started H enc)
theorem fnLexDelims_plain (f : FuncId) (fn : Func) (hf : Tryz.pinned.checked.prog.funcNamed "pub-duolect/laws.FnLexDelims" = some f) (hfn : Tryz.pinned.checked.prog.funcs[f]? = some fn) :
    true = Tryz.pinned.checked.prog.looks [] ∧ ∀ (j : Nat) t, fn.params[j]? = some t → Tryz.pinned.checked.prog.wantsStandIn t = false := by
  obtain rfl : f = 4 := Option.some.inj ((show Tryz.prog.funcNamed "pub-duolect/laws.FnLexDelims" = some 4 by kernel_rfl).symm.trans hf) |>.symm
  obtain rfl : fn = Tryz.f4 := (Option.some.inj (Tryz.func4.symm.trans hfn)).symm
  refine ⟨by kernel_rfl, fun j t ht => ?_⟩
  rw [Tryz.params4] at ht
  have hm : t ∈ [32, 5] := by simpa using Array.mem_of_getElem? ht
  have hall : ([32, 5].all fun u => !Tryz.prog.wantsStandIn u) = true := by kernel_rfl
  exact (show Tryz.prog.wantsStandIn t = false by simpa using List.all_eq_true.1 hall t hm)
theorem fnLexDelims_holds : Rows.FnLexDelimsCardSaid :=
  Claim7.holds_tied_plain_at .later [] _ _ _ _ fnLexDelims_said (fun _ h => by cases h) (by kernel_rfl) (fun _ h => by cases h) fnLexDelims_row_tie rfl ⟨rfl, rfl⟩ (by kernel_rfl) rfl fnLexDelims_plain (by kernel_rfl)
#print axioms fnLexDelims_holds
end Go.Proofs.YtaecbclonmhbcaaGreatDoor
