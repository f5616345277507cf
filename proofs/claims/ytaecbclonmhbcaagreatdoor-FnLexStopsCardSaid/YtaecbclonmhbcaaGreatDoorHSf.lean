/- The closed facts of the row of FnLexStops. -/
import Derived.Test.YtaecbclonmhbcaaGreatDoorRows
import Derived.JoinedOf
import Derived.ProofKit
set_option linter.unusedVariables false
set_option linter.unusedSimpArgs false
namespace Go.Proofs.YtaecbclonmhbcaaGreatDoor
open Go.RowKit
set_option maxRecDepth 100000
theorem fnLexStops_f1 : (Rows.fnLexStopsRow.inPlace == Tryz.pinned.checked.prog.inPlace 8) = true := by kernel_rfl
theorem fnLexStops_f2 : (Rows.fnLexStopsRow.unfollowed == Tryz.pinned.checked.prog.unfollowed 8) = true := by kernel_rfl
theorem fnLexStops_f3 : (Rows.fnLexStopsRow.recurses == Tryz.pinned.checked.prog.recurses 8) = true := by kernel_rfl
theorem fnLexStops_f4 : (Rows.fnLexStopsRow.named == Tryz.pinned.checked.prog.varsNamed 8) = true := by kernel_rfl
theorem fnLexStops_facts : joinedFacts Tryz.pinned.checked.prog 8 Tryz.f8 Rows.fnLexStopsSpec Rows.fnLexStopsRow = true := by
  unfold joinedFacts
  rw [fnLexStops_f1, fnLexStops_f2, fnLexStops_f3, fnLexStops_f4]
  kernel_rfl
end Go.Proofs.YtaecbclonmhbcaaGreatDoor
