/- The closed facts of the row of FnLexDelims. -/
import Derived.Test.YtaecbclonmhbcaaGreatDoorRows
import Derived.JoinedOf
import Derived.ProofKit
namespace Go.Proofs.YtaecbclonmhbcaaGreatDoor
open Go.RowKit
set_option maxRecDepth 100000
theorem fnLexDelims_f1 : (Rows.fnLexDelimsRow.inPlace == Tryz.pinned.checked.prog.inPlace 4) = true := by kernel_rfl
theorem fnLexDelims_f2 : (Rows.fnLexDelimsRow.unfollowed == Tryz.pinned.checked.prog.unfollowed 4) = true := by kernel_rfl
theorem fnLexDelims_f3 : (Rows.fnLexDelimsRow.recurses == Tryz.pinned.checked.prog.recurses 4) = true := by kernel_rfl
theorem fnLexDelims_f4 : (Rows.fnLexDelimsRow.named == Tryz.pinned.checked.prog.varsNamed 4) = true := by kernel_rfl
theorem fnLexDelims_facts : joinedFacts Tryz.pinned.checked.prog 4 Tryz.f4 Rows.fnLexDelimsSpec Rows.fnLexDelimsRow = true := by
  unfold joinedFacts
  rw [fnLexDelims_f1, fnLexDelims_f2, fnLexDelims_f3, fnLexDelims_f4]
  kernel_rfl
end Go.Proofs.YtaecbclonmhbcaaGreatDoor
