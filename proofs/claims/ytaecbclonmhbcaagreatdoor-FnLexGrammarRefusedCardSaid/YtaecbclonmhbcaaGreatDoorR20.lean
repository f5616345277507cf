/- A world in which all the listed tables lie as listed. -/
import Derived.Test.YtaecbclonmhbcaaGreatDoorR16
import Derived.Lay
import Derived.LaidMore
import Derived.MakeChecks
import Derived.ProofKit
import Derived.OpenShut
set_option linter.unusedVariables false
set_option linter.unusedSimpArgs false
namespace Go.Proofs.YtaecbclonmhbcaaGreatDoor
open Go.ChangeShapes Go.WideShapes Go.RowKit
set_option maxRecDepth 1000000 in
theorem wit_fits (os : Os) : (World.holding Tryz.prog os ⟨#[], #[], []⟩).layFits Tryz.prog laidL [] = true := by kernel_rfl
set_option maxRecDepth 1000000 in
theorem wit_ifaces (os : Os) : (World.holding Tryz.prog os ⟨#[], #[], []⟩).layIfaces Tryz.prog laidL (World.laidAll Tryz.prog os laidL) = true := by kernel_rfl
theorem wit_met (os : Os) (args : Array Value) : laidMetH Tryz.prog laidL ((World.laidAll Tryz.prog os laidL).forCall (fun _ _ => 0) ⟨#[], args, []⟩).memory := by
  rw [MakeChecks.laidMetH_plain _ _ _ (by kernel_rfl)]
  exact laidMet_laidAll args (wit_fits os) (wit_ifaces os)
set_option maxRecDepth 1000000 in
theorem wit_shaped (os : Os) (args : Array Value) : ((World.laidAll Tryz.prog os laidL).forCall (fun _ _ => 0) ⟨#[], args, []⟩).Shaped Tryz.prog :=
  World.shaped_of_ZipB (by kernel_rfl) (by kernel_rfl)
end Go.Proofs.YtaecbclonmhbcaaGreatDoor
