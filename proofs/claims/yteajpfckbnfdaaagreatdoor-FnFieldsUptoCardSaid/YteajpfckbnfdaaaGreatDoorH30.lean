/-
  A part of the proof: The places that the listed variables reach are apart.
  Conditions: each contract's own.
-/
import Derived.Test.YteajpfckbnfdaaaGreatDoorH28
set_option linter.all false
namespace Go.Proofs.YteajpfckbnfdaaaGreatDoor
open Go
set_option maxRecDepth 100000
theorem t_bits : ∀ os tape, (DataW.laidRun Tryz.prog (varsWorld Tryz.prog 600 (varsId Tryz.prog) os tape).memory 8 (laidL.map (·.1))).map (fun x => nodupBits 512 x.2 0) = some true := fun _ _ => by kernel_rfl
end Go.Proofs.YteajpfckbnfdaaaGreatDoor
