/- The closed facts of the row of FnLexGrammarRefused. -/
import Derived.Test.YtaecbclonmhbcaaGreatDoorRows
import Derived.JoinedOf
import Derived.ProofKit
set_option linter.unusedVariables false
set_option linter.unusedSimpArgs false
namespace Go.Proofs.YtaecbclonmhbcaaGreatDoor
open Go.RowKit
set_option maxRecDepth 100000
theorem fnLexGrammarRefused_f1 : (Rows.fnLexGrammarRefusedRow.inPlace == Tryz.pinned.checked.prog.inPlace 11) = true := by kernel_rfl
theorem fnLexGrammarRefused_f2 : (Rows.fnLexGrammarRefusedRow.unfollowed == Tryz.pinned.checked.prog.unfollowed 11) = true := by kernel_rfl
theorem fnLexGrammarRefused_f3 : (Rows.fnLexGrammarRefusedRow.recurses == Tryz.pinned.checked.prog.recurses 11) = true := by kernel_rfl
theorem fnLexGrammarRefused_f4 : (Rows.fnLexGrammarRefusedRow.named == Tryz.pinned.checked.prog.varsNamed 11) = true := by kernel_rfl
theorem fnLexGrammarRefused_facts : joinedFacts Tryz.pinned.checked.prog 11 Tryz.f11 Rows.fnLexGrammarRefusedSpec Rows.fnLexGrammarRefusedRow = true := by
  unfold joinedFacts
  rw [fnLexGrammarRefused_f1, fnLexGrammarRefused_f2, fnLexGrammarRefused_f3, fnLexGrammarRefused_f4]
  kernel_rfl
end Go.Proofs.YtaecbclonmhbcaaGreatDoor
