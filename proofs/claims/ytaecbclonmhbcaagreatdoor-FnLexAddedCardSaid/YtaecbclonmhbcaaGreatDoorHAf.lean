/- The closed facts of the row of FnLexAdded. -/
import Derived.Test.YtaecbclonmhbcaaGreatDoorRows
import Derived.JoinedOf
import Derived.ProofKit
set_option linter.unusedVariables false
set_option linter.unusedSimpArgs false
namespace Go.Proofs.YtaecbclonmhbcaaGreatDoor
open Go.RowKit
set_option maxRecDepth 100000
theorem fnLexAdded_f1 : (Rows.fnLexAddedRow.inPlace == Tryz.pinned.checked.prog.inPlace 3) = true := by kernel_rfl
theorem fnLexAdded_f2 : (Rows.fnLexAddedRow.unfollowed == Tryz.pinned.checked.prog.unfollowed 3) = true := by kernel_rfl
theorem fnLexAdded_f3 : (Rows.fnLexAddedRow.recurses == Tryz.pinned.checked.prog.recurses 3) = true := by kernel_rfl
theorem fnLexAdded_f4 : (Rows.fnLexAddedRow.named == Tryz.pinned.checked.prog.varsNamed 3) = true := by kernel_rfl
theorem fnLexAdded_facts : joinedFacts Tryz.pinned.checked.prog 3 Tryz.f3 Rows.fnLexAddedSpec Rows.fnLexAddedRow = true := by
  unfold joinedFacts
  rw [fnLexAdded_f1, fnLexAdded_f2, fnLexAdded_f3, fnLexAdded_f4]
  kernel_rfl
end Go.Proofs.YtaecbclonmhbcaaGreatDoor
