/- The closed facts of the row of FnLexOffset. -/
import Derived.Test.YtaecbclonmhbcaaGreatDoorRows
import Derived.JoinedOf
import Derived.ProofKit
set_option linter.unusedVariables false
set_option linter.unusedSimpArgs false
namespace Go.Proofs.YtaecbclonmhbcaaGreatDoor
open Go.RowKit
set_option maxRecDepth 100000
theorem fnLexOffset_f1 : (Rows.fnLexOffsetRow.inPlace == Tryz.pinned.checked.prog.inPlace 10) = true := by kernel_rfl
theorem fnLexOffset_f2 : (Rows.fnLexOffsetRow.unfollowed == Tryz.pinned.checked.prog.unfollowed 10) = true := by kernel_rfl
theorem fnLexOffset_f3 : (Rows.fnLexOffsetRow.recurses == Tryz.pinned.checked.prog.recurses 10) = true := by kernel_rfl
theorem fnLexOffset_f4 : (Rows.fnLexOffsetRow.named == Tryz.pinned.checked.prog.varsNamed 10) = true := by kernel_rfl
theorem fnLexOffset_facts : joinedFacts Tryz.pinned.checked.prog 10 Tryz.f10 Rows.fnLexOffsetSpec Rows.fnLexOffsetRow = true := by
  unfold joinedFacts
  rw [fnLexOffset_f1, fnLexOffset_f2, fnLexOffset_f3, fnLexOffset_f4]
  kernel_rfl
end Go.Proofs.YtaecbclonmhbcaaGreatDoor
