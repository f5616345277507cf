/- The closed facts of the row of FnLexPos. -/
import Derived.Test.YtaecbclonmhbcaaGreatDoorRows
import Derived.JoinedOf
import Derived.ProofKit
set_option linter.unusedVariables false
set_option linter.unusedSimpArgs false
namespace Go.Proofs.YtaecbclonmhbcaaGreatDoor
open Go.RowKit
set_option maxRecDepth 100000
theorem fnLexPos_f1 : (Rows.fnLexPosRow.inPlace == Tryz.pinned.checked.prog.inPlace 6) = true := by kernel_rfl
theorem fnLexPos_f2 : (Rows.fnLexPosRow.unfollowed == Tryz.pinned.checked.prog.unfollowed 6) = true := by kernel_rfl
theorem fnLexPos_f3 : (Rows.fnLexPosRow.recurses == Tryz.pinned.checked.prog.recurses 6) = true := by kernel_rfl
theorem fnLexPos_f4 : (Rows.fnLexPosRow.named == Tryz.pinned.checked.prog.varsNamed 6) = true := by kernel_rfl
theorem fnLexPos_facts : joinedFacts Tryz.pinned.checked.prog 6 Tryz.f6 Rows.fnLexPosSpec Rows.fnLexPosRow = true := by
  unfold joinedFacts
  rw [fnLexPos_f1, fnLexPos_f2, fnLexPos_f3, fnLexPos_f4]
  kernel_rfl
end Go.Proofs.YtaecbclonmhbcaaGreatDoor
