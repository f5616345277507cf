/- The three words: every way. Printed by gen_lits.py. -/
import Derived.Test.YtaecbclonmhbcaaGreatDoorR04
import Derived.Test.YtaecbclonmhbcaaGreatDoorR05
import Derived.Test.YtaecbclonmhbcaaGreatDoorR06
import Derived.Test.YtaecbclonmhbcaaGreatDoorR07
import Derived.Test.YtaecbclonmhbcaaGreatDoorR08
import Derived.Test.YtaecbclonmhbcaaGreatDoorR09
import Derived.Test.YtaecbclonmhbcaaGreatDoorR10
import Derived.Test.YtaecbclonmhbcaaGreatDoorR11
set_option linter.unusedVariables false
set_option linter.unusedSimpArgs false
namespace Go.Proofs.YtaecbclonmhbcaaGreatDoor
open Go.RowKit
section
variable {w : World} {b : Nat} {ae : Sur} {ao : Addr} {x : Lx} {vd vt ve vm : Value}
theorem fetchNull_any (h : LexAt w b ae ao x vd vt ve vm) (hw : x.Wf) (hp : x.pos < x.d.length) :
    Calls Tryz.prog 121 #[.pointer (some ⟨b, 0, none⟩)] w fun e w' => e = .returned (.tuple #[]) ∧ Failed w b ae ao (x.word [117, 108, 108]) vd vt vm w' := by
  unfold Lx.word
  by_cases hs : x.d.length < x.pos + 4
  · rw [wordAt3_short _ _ _ _ _ hs]
    exact fetchNull_short h hw hp hs
  rw [wordAt3 _ _ _ _ _ (by omega)]
  by_cases e1 : x.d.getD (x.pos + 1) 0 = 117
  case neg => simp only [beq_eq_false_iff_ne.2 e1, Bool.false_and, Bool.false_eq_true, if_false]; exact fetchNull_no1 h hw (by omega)  e1
  by_cases e2 : x.d.getD (x.pos + 2) 0 = 108
  case neg => simp only [beq_eq_false_iff_ne.2 e2, Bool.false_and, Bool.and_false, Bool.false_eq_true, if_false]; exact fetchNull_no2 h hw (by omega) e1 e2
  by_cases e3 : x.d.getD (x.pos + 3) 0 = 108
  case neg => simp only [beq_eq_false_iff_ne.2 e3, Bool.false_and, Bool.and_false, Bool.false_eq_true, if_false]; exact fetchNull_no3 h hw (by omega) e1 e2 e3
  simp only [e1, e2, e3, beq_self_eq_true, Bool.true_and]
  by_cases hp4 : x.pos + 4 = x.d.length
  · simp only [hp4, decide_true, Bool.true_or, if_true]; exact fetchNull_end h hw hp4 e1 e2 e3
  cases ee : isEndB (x.d.getD (x.pos + 4) 0) with
  | true => simp only [Bool.or_true, if_true]; exact fetchNull_yes h hw (by omega) e1 e2 e3 ee
  | false => simp only [hp4, decide_false, Bool.or_false, Bool.false_eq_true, if_false]; exact fetchNull_noend h hw (by omega) e1 e2 e3 ee
theorem fetchTrue_any (h : LexAt w b ae ao x vd vt ve vm) (hw : x.Wf) (hp : x.pos < x.d.length) :
    Calls Tryz.prog 122 #[.pointer (some ⟨b, 0, none⟩)] w fun e w' => e = .returned (.tuple #[]) ∧ Failed w b ae ao (x.word [114, 117, 101]) vd vt vm w' := by
  unfold Lx.word
  by_cases hs : x.d.length < x.pos + 4
  · rw [wordAt3_short _ _ _ _ _ hs]
    exact fetchTrue_short h hw hp hs
  rw [wordAt3 _ _ _ _ _ (by omega)]
  by_cases e1 : x.d.getD (x.pos + 1) 0 = 114
  case neg => simp only [beq_eq_false_iff_ne.2 e1, Bool.false_and, Bool.false_eq_true, if_false]; exact fetchTrue_no1 h hw (by omega)  e1
  by_cases e2 : x.d.getD (x.pos + 2) 0 = 117
  case neg => simp only [beq_eq_false_iff_ne.2 e2, Bool.false_and, Bool.and_false, Bool.false_eq_true, if_false]; exact fetchTrue_no2 h hw (by omega) e1 e2
  by_cases e3 : x.d.getD (x.pos + 3) 0 = 101
  case neg => simp only [beq_eq_false_iff_ne.2 e3, Bool.false_and, Bool.and_false, Bool.false_eq_true, if_false]; exact fetchTrue_no3 h hw (by omega) e1 e2 e3
  simp only [e1, e2, e3, beq_self_eq_true, Bool.true_and]
  by_cases hp4 : x.pos + 4 = x.d.length
  · simp only [hp4, decide_true, Bool.true_or, if_true]; exact fetchTrue_end h hw hp4 e1 e2 e3
  cases ee : isEndB (x.d.getD (x.pos + 4) 0) with
  | true => simp only [Bool.or_true, if_true]; exact fetchTrue_yes h hw (by omega) e1 e2 e3 ee
  | false => simp only [hp4, decide_false, Bool.or_false, Bool.false_eq_true, if_false]; exact fetchTrue_noend h hw (by omega) e1 e2 e3 ee
theorem fetchFalse_any (h : LexAt w b ae ao x vd vt ve vm) (hw : x.Wf) (hp : x.pos < x.d.length) :
    Calls Tryz.prog 123 #[.pointer (some ⟨b, 0, none⟩)] w fun e w' => e = .returned (.tuple #[]) ∧ Failed w b ae ao (x.word [97, 108, 115, 101]) vd vt vm w' := by
  unfold Lx.word
  by_cases hs : x.d.length < x.pos + 5
  · rw [wordAt4_short _ _ _ _ _ _ hs]
    exact fetchFalse_short h hw hp hs
  rw [wordAt4 _ _ _ _ _ _ (by omega)]
  by_cases e1 : x.d.getD (x.pos + 1) 0 = 97
  case neg => simp only [beq_eq_false_iff_ne.2 e1, Bool.false_and, Bool.false_eq_true, if_false]; exact fetchFalse_no1 h hw (by omega)  e1
  by_cases e2 : x.d.getD (x.pos + 2) 0 = 108
  case neg => simp only [beq_eq_false_iff_ne.2 e2, Bool.false_and, Bool.and_false, Bool.false_eq_true, if_false]; exact fetchFalse_no2 h hw (by omega) e1 e2
  by_cases e3 : x.d.getD (x.pos + 3) 0 = 115
  case neg => simp only [beq_eq_false_iff_ne.2 e3, Bool.false_and, Bool.and_false, Bool.false_eq_true, if_false]; exact fetchFalse_no3 h hw (by omega) e1 e2 e3
  by_cases e4 : x.d.getD (x.pos + 4) 0 = 101
  case neg => simp only [beq_eq_false_iff_ne.2 e4, Bool.false_and, Bool.and_false, Bool.false_eq_true, if_false]; exact fetchFalse_no4 h hw (by omega) e1 e2 e3 e4
  simp only [e1, e2, e3, e4, beq_self_eq_true, Bool.true_and]
  by_cases hp4 : x.pos + 5 = x.d.length
  · simp only [hp4, decide_true, Bool.true_or, if_true]; exact fetchFalse_end h hw hp4 e1 e2 e3 e4
  cases ee : isEndB (x.d.getD (x.pos + 5) 0) with
  | true => simp only [Bool.or_true, if_true]; exact fetchFalse_yes h hw (by omega) e1 e2 e3 e4 ee
  | false => simp only [hp4, decide_false, Bool.or_false, Bool.false_eq_true, if_false]; exact fetchFalse_noend h hw (by omega) e1 e2 e3 e4 ee
end
end Go.Proofs.YtaecbclonmhbcaaGreatDoor
