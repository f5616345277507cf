/- The closed facts of the row of FnLexWords. -/
import Derived.Test.YtaecbclonmhbcaaGreatDoorRows
import Derived.JoinedOf
import Derived.ProofKit
namespace Go.Proofs.YtaecbclonmhbcaaGreatDoor
open Go.RowKit
set_option maxRecDepth 100000
theorem fnLexWords_f1 : (Rows.fnLexWordsRow.inPlace == Tryz.pinned.checked.prog.inPlace 9) = true := by kernel_rfl
theorem fnLexWords_f2 : (Rows.fnLexWordsRow.unfollowed == Tryz.pinned.checked.prog.unfollowed 9) = true := by kernel_rfl
theorem fnLexWords_f3 : (Rows.fnLexWordsRow.recurses == Tryz.pinned.checked.prog.recurses 9) = true := by kernel_rfl
theorem fnLexWords_f4 : (Rows.fnLexWordsRow.named == Tryz.pinned.checked.prog.varsNamed 9) = true := by kernel_rfl
theorem fnLexWords_facts : joinedFacts Tryz.pinned.checked.prog 9 Tryz.f9 Rows.fnLexWordsSpec Rows.fnLexWordsRow = true := by
  unfold joinedFacts
  rw [fnLexWords_f1, fnLexWords_f2, fnLexWords_f3, fnLexWords_f4]
  kernel_rfl
end Go.Proofs.YtaecbclonmhbcaaGreatDoor
