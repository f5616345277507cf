/- Proved: for every word, all blanks ahead and all bytes behind, laws.FnLexWords tells true and leaves its arguments as they were. Conditions: the listed package-level variables hold what the program's text lays (the card ties them). -/
import Derived.Test.YtaecbclonmhbcaaGreatDoorCards
import Derived.Test.YtaecbclonmhbcaaGreatDoorTie
import Derived.Test.YtaecbclonmhbcaaGreatDoorWit
import Derived.Test.YtaecbclonmhbcaaGreatDoorWordF
import Derived.Test.YtaecbclonmhbcaaGreatDoorWordW
import Derived.SevenTiedAt
import Derived.Stop.Joined
import Derived.Deep.Grids
namespace Go.Proofs.YtaecbclonmhbcaaGreatDoor
open Go.ChangeShapes Go.WideShapes Go.ChangeAt Go.RowKit Go.Deep

set_option maxHeartbeats 1000000 in
set_option maxRecDepth 100000 in
theorem words_big {w : World} (v : Value) (n cap : Nat) (p : Option Addr) (hv : v = .slice p n cap) (h : 2147483647 < n) (a b : Int) :
    Calls Tryz.prog 9 #[.int .u8 a, .int .u8 b, v] w fun e w' => e = .returned (.bool true) ∧ Below w.heap.size w w' := by
  subst hv
  have h1 : (2147483647 : Int) < n := by omega
  go_enter Tryz.func9, Tryz.ntmps9
  go_wp2
  go_ret
  exact ⟨rfl, Below.refl _ _⟩
set_option maxHeartbeats 1000000 in
set_option maxRecDepth 100000 in
theorem words_mid {w : World} {ae : Sur} {ao : Addr} (he : Env w ae ao) (h2 : 1 < w.heap.size) (v : Value) (n cap : Nat) (p : Option Addr) (hv : v = .slice p n cap) (h0 : n ≤ 2147483647) (h : 8192 < n) (a b : Int) :
    Calls Tryz.prog 9 #[.int .u8 a, .int .u8 b, v] w fun e w' => e = .returned (.bool true) ∧ Below w.heap.size w w' := by
  subst hv
  have HE := Lib.hid he
  clear he
  have h1 : ¬ (2147483647 : Int) < n := by omega
  have h3 : (8192 : Int) < n := by omega
  go_enter Tryz.func9, Tryz.ntmps9
  go_wp2_with (go_at_call 12; refine (known_any HE.out h2).mono ?_; rintro e w2 ⟨rfl, hb2⟩)
  go_ret
  exact ⟨rfl, hb2⟩
theorem words_any {w : World} {ae : Sur} {ao : Addr} (he : Env w ae ao) (h2 : 1 < w.heap.size) (a b : Int) (ha : 0 ≤ a ∧ a ≤ 255) (hb : 0 ≤ b ∧ b ≤ 255)
    {p : Option Addr} {tc : Nat} {tail : List Int} (hv : BytesArg w (.slice p tail.length tc) tail) (hby : Bytes tail) :
    Calls Tryz.prog 9 #[.int .u8 a, .int .u8 b, .slice p tail.length tc] w fun e w' => e = .returned (.bool true) ∧ Below w.heap.size w w' := by
  by_cases hbig : 2147483647 < tail.length
  · exact words_big _ tail.length tc _ rfl hbig a b
  by_cases hmid : 8192 < tail.length
  · exact words_mid he h2 _ tail.length tc _ rfl (by omega) hmid a b
  have h3 : a % 3 = 0 ∨ a % 3 = 1 ∨ a % 3 = 2 := by omega
  rcases h3 with h | h | h
  · exact words_0 he h2 a b ha.1 ha.2 h hb.1 hb.2 hv hby (by omega)
  · exact words_1 he h2 a b ha.1 ha.2 h hb.1 hb.2 hv hby (by omega)
  · exact words_2 he h2 a b ha.1 ha.2 h hb.1 hb.2 hv hby (by omega)

set_option maxRecDepth 100000 in
theorem fnLexWords_lifted (os : Os) (started : os.Started) (H : Type) (enc : TypeId × Value → H) :
    ReturnsInHanded {} Tryz.checked os 9 .any (fun w args => (Rows.fnLexWordsSpec.pre enc Tryz.prog Tryz.f9 Rows.fnLexWordsRow.domain false w args ∧ laidMetH Tryz.prog laidL w) ∧ sizedMet enc Tryz.prog Tryz.f9 (OpenSpec.ofChange Rows.fnLexWordsSpec) false w args)
      (Rows.fnLexWordsSpec.post enc Tryz.prog Tryz.f9 false true false false) := by
  refine returnsInHanded_of_change_and (C := Tryz.checked) (X := fun w _ => laidMetH Tryz.prog laidL w) (fun _ _ _ hh h => h.of_heap hh) own started (by kernel_rfl) Tryz.func9
    (ChangeSpec.witness_shaped (enc := enc) (C := Tryz.checked) (os := os) (X := fun w _ => laidMetH Tryz.prog laidL w) false (World.laidAll Tryz.prog os laidL) #[.int .u8 0, .int .u8 0, .slice none 0 0] 8 (World.laidAll_os _ _ _)
      (wit_shaped os _) (by kernel_rfl) (by kernel_rfl) (by kernel_rfl) (wit_met os _)) ?_
  intro W base args ds gs before hval0 hW hc _ hL _
  obtain ⟨ae, ao, c0, c1, t0, t1, he, h2, hae, hao⟩ := env_of_laid hL
  have hval : ∀ (j : Nat) t v, Tryz.f9.params[j]? = some t → args[j]? = some v → Value.okWide Tryz.prog W .any base t v := hval0
  have hW' := hW
  obtain ⟨p, q, hA0, hV, rfl, _, _⟩ := hW
  have hA : DataW.TrodAll enc Tryz.prog W 0 (fun _ => true) true Tryz.f9.params.toList args.toList ds p := hA0
  rw [Tryz.params9] at hA hval
  obtain ⟨v0, v1, v2, d0, d1, d2, p0, p1, p2, rfl, rfl, rfl, r0, r1, r2⟩ := trodAll_three hA
  obtain ⟨rfl, rfl⟩ := trodVars_none hV
  obtain ⟨x, rfl, rfl, -, wx⟩ := open_int Tryz.underlying5 (hval 0 5 v0 rfl rfl) r0
  obtain ⟨y, rfl, rfl, -, wy⟩ := open_int Tryz.underlying5 (hval 1 5 v1 rfl rfl) r1
  have walk : Calls Tryz.prog 9 #[.int .u8 x, .int .u8 y, v2] W fun e w' => e = .returned (.bool true) ∧ Below W.heap.size W w' := by
    obtain ⟨a0, tl, tc, tail, rfl, hb, hby, hl⟩ := bytes_arg (hval 2 22 v2 rfl rfl) r2
    subst hl
    exact words_any he h2 x y (bounds_u8 wx) (bounds_u8 wy) hb hby
  refine walk.mono fun e W' ⟨he, hb⟩ => ?_
  subst he
  exact ⟨_, rfl, law_post hW' rfl rfl (by decide) rfl hb⟩

theorem fnLexWords_named : Tryz.pinned.checked.prog.funcNamed "pub-duolect/laws.FnLexWords" = some 9 := by kernel_rfl
theorem fnLexWords_inst : Tryz.f9.isInstance Tryz.pinned.checked.prog Rows.fnLexWordsRow.origin Rows.fnLexWordsRow.targs := of_decide_eq_true (by kernel_rfl)
theorem fnLexWords_wrap : Tryz.f9.isWrapper Tryz.pinned.checked.prog Rows.fnLexWordsRow.wrapper Rows.fnLexWordsRow.mainSum := by unfold Func.isWrapper; first | (rw [if_pos (by decide +kernel)]; kernel_rfl) | (rw [if_neg (by decide +kernel)]; exact ⟨rfl, rfl⟩)
theorem fnLexWords_said : Rows.FnLexWordsSaid :=
  OpenClaim.holds_of_wide 9 Tryz.f9 rfl rfl rfl rfl rfl rfl rfl ⟨rfl, rfl, rfl, rfl, rfl⟩ rfl rfl rfl rfl rfl fnLexWords_named Tryz.func9 fnLexWords_facts fnLexWords_inst fnLexWords_wrap
    (fun os started H enc _ => fnLexWords_lifted os started H enc)
theorem fnLexWords_plain (f : FuncId) (fn : Func) (hf : Tryz.pinned.checked.prog.funcNamed "pub-duolect/laws.FnLexWords" = some f) (hfn : Tryz.pinned.checked.prog.funcs[f]? = some fn) :
    true = Tryz.pinned.checked.prog.looks [] ∧ ∀ (j : Nat) t, fn.params[j]? = some t → Tryz.pinned.checked.prog.wantsStandIn t = false := by
  obtain rfl : f = 9 := Option.some.inj ((show Tryz.prog.funcNamed "pub-duolect/laws.FnLexWords" = some 9 by kernel_rfl).symm.trans hf) |>.symm
  obtain rfl : fn = Tryz.f9 := (Option.some.inj (Tryz.func9.symm.trans hfn)).symm
  refine ⟨by kernel_rfl, fun j t ht => ?_⟩
  rw [Tryz.params9] at ht
  have hm : t ∈ [5, 5, 22] := by simpa using Array.mem_of_getElem? ht
  have hall : ([5, 5, 22].all fun u => !Tryz.prog.wantsStandIn u) = true := by kernel_rfl
  exact (show Tryz.prog.wantsStandIn t = false by simpa using List.all_eq_true.1 hall t hm)
theorem fnLexWords_holds : Rows.FnLexWordsCardSaid :=
  Claim7.holds_tied_plain_at .later [] _ _ _ _ fnLexWords_said (fun _ h => by cases h) (by kernel_rfl) (fun _ h => by cases h) fnLexWords_row_tie rfl ⟨rfl, rfl⟩ (by kernel_rfl) rfl fnLexWords_plain (by kernel_rfl)
#print axioms fnLexWords_holds
end Go.Proofs.YtaecbclonmhbcaaGreatDoor
