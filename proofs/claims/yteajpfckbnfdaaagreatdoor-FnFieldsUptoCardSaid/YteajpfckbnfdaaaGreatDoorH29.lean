/-
  A part of the proof: The program's set-up of its variables returns, and they hold what the list says.
  Conditions: each contract's own.
-/
import Derived.Test.YteajpfckbnfdaaaGreatDoorH28
set_option linter.all false
namespace Go.Proofs.YteajpfckbnfdaaaGreatDoor
open Go
set_option maxRecDepth 100000
theorem t_done : ∀ os tape, varsDone Tryz.prog 600 (varsId Tryz.prog) os tape = true := fun _ _ => by kernel_rfl
theorem t_read : ∀ os tape, (DataW.laidRun Tryz.prog (varsWorld Tryz.prog 600 (varsId Tryz.prog) os tape).memory 8 (laidL.map (·.1))).map (·.1) = some laidL := fun _ _ => by kernel_rfl
end Go.Proofs.YteajpfckbnfdaaaGreatDoor
