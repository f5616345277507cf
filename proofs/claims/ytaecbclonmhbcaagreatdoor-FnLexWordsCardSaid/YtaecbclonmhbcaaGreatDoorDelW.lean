/- laws.FnLexDelims: the walk. -/
import Derived.Test.YtaecbclonmhbcaaGreatDoorDelP
import Derived.StillTailTactics
namespace Go.Proofs.YtaecbclonmhbcaaGreatDoor
open Go.RowKit

/-- A region that draws its order, reads, and ends in one way: the world behind the draw under its short name. -/
theorem wp_region_tail {P : Program} {id : Nat} {Q : Exit → Act → World → Prop} {a : Act} {w : World} {l : List Oper} (n : Nat) (hm : P.follows .mixedOrders = true) (hB : Region.lexTailB .any l.toArray n = true)
    (h : wpStill P l.toArray w.drew (fun a' => wpList P l.toArray Q (l.drop n) a' w.drew) (l.take n) a) : (Code.region id l.toArray true).wp P Q a w := wp_region_still_tail n hm hB h

set_option maxHeartbeats 1000000 in
set_option maxRecDepth 100000 in
/-- impl.Lex without calls. -/
theorem lex_none {w : World} {ae : Sur} {ao : Addr} (he : Env w ae ao) (h2 : 1 < w.heap.size) :
    Calls Tryz.prog 13 #[.slice none 0 0, .bool false, .slice none 0 0] w fun e w' => e = .returned (.slice none 0 0) ∧ Below w.heap.size w w' := by
  go_enter Tryz.func13, Tryz.ntmps13
  go_wp2_with (go_at_call 25; refine (lexer_any (A := fun _ => False) (l := []) (ae := ⟨ae.addr, fun _ => False⟩) (.inl ⟨rfl, rfl⟩) (by decide) ⟨he.eof, he.other, he.ne⟩ (fun _ a => a.elim) h2 false).mono ?_; rintro e w1 ⟨b, vd, rfl, hb, hg, hlx⟩)
  have HB0 := Lib.hid ((Below.refl w.heap.size w).grown hg (Nat.le_refl _) (by simp))
  clear hg hlx he
  refine wp_loop_rounds 1 ?_
  rw [rounds_succ]
  go_wp2
  go_ret
  exact ⟨rfl, HB0.out⟩

set_option maxHeartbeats 1000000 in
set_option maxRecDepth 100000 in
/-- No row. -/
theorem delims_none {w : World} {ae : Sur} {ao : Addr} (he : Env w ae ao) (h2 : 1 < w.heap.size) (p : Option Addr) (cap : Nat) (c : Int) :
    Calls Tryz.prog 4 #[.slice p 0 cap, .int .u8 c] w fun e w' => e = .returned (.bool true) ∧ Below w.heap.size w w' := by
  have HE := Lib.hid he
  clear he
  go_enter Tryz.func4, Tryz.ntmps4
  go_wp2
  refine wp_loop_rounds 1 ?_
  rw [rounds_succ]
  go_wp2_with (go_at_call 13; refine (lex_none HE.out h2).mono ?_; rintro e w1 ⟨rfl, hb⟩)
  have HB := Lib.hid hb
  have hs := hb.size
  clear hb
  refine wp_loop_rounds 1 ?_
  rw [rounds_succ]
  go_wp2_with (go_at_call 12; refine (known_any (HE.out.below HB.out h2) (Nat.lt_of_lt_of_le h2 hs)).mono ?_; rintro e w2 ⟨rfl, hb2⟩)
  go_ret
  exact ⟨rfl, HB.out.trans (hb2.mono hs)⟩
end Go.Proofs.YtaecbclonmhbcaaGreatDoor
