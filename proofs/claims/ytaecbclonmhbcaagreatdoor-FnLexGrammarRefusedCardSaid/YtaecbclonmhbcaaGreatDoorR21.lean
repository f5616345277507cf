/- FetchToken, at every state. -/
import Derived.Test.YtaecbclonmhbcaaGreatDoorR13
import Derived.Test.YtaecbclonmhbcaaGreatDoorR16
set_option linter.unusedVariables false
set_option linter.unusedSimpArgs false
namespace Go.Proofs.YtaecbclonmhbcaaGreatDoor
open Go.RowKit
section
variable {w : World} {b : Nat} {ae : Sur} {ao : Addr} {x : Lx} {vd vt ve vm : Value}
theorem fetchToken_any (h : LexAt w b ae ao x vd vt ve vm) (hw : x.Wf) :
    Calls Tryz.prog 86 #[.pointer (some ⟨b, 0, none⟩)] w fun e w' => e = .returned (.tuple #[]) ∧ NumDone w b ae ao x.fetch vd vm w' := by
  have hp := hw.pos
  rcases h.data with ⟨h0, rfl⟩ | ⟨bd, o, cap, rfl, hc, hne, hx⟩
  · have hl : x.d.length = 0 := by rw [h0]; rfl
    exact fetchToken_none h (by omega) hl
  · by_cases hcp : cap = x.pos
    · obtain rfl : cap = x.d.length := by omega
      exact fetchToken_cap bd o h hw hcp.symm
    · exact fetchToken_more bd o cap h hw hc (fun e => hne.1 (.inl e)) hcp
end
end Go.Proofs.YtaecbclonmhbcaaGreatDoor
