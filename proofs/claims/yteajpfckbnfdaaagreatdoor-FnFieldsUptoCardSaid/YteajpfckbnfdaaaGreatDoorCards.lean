/-
  DERIVED. GIVEN WITH THE SEED: THE CARDS: each row of YteajpfckbnfdaaaGreatDoorRows.lean that lists a variable, with what it lists TIED to the program's text (the seventh form; the later family's looks); each row that meets fmt, with fmt's text TOLD by the authors' own Lean function (tested against real Go, not proved from fmt's source: count such statements apart). THE CARD IS WHAT COUNTS. Prove the row's statement (the work); the ties are given (YteajpfckbnfdaaaGreatDoorTie.lean); close each card by the builder's one call (the guide's Derived/Test/ToyasCard.lean, 'card_holds'). Laid BY PROGRAM, IN A SANDBOX (cutbox-door.mjs). By AI agents, Wed Nov 11 2026. No macro, syntax, notation, axiom, sorry.
-/
import Derived.Test.YteajpfckbnfdaaaGreatDoorRows
import GoSem.ClaimSeven
namespace Go.Proofs.YteajpfckbnfdaaaGreatDoor
namespace Rows

/-- THE TIED CARD OF 'laws.FnFields'. -/
def fnFieldsCard : Claim7 := { stood := { row := fnFieldsRow, standIns := [], harness := (true, "a136e8bcf7f609e8f905ad3846dc8b4ec9bbb6ad61918acac5a5dc411ca4ab93"), looks := true }, kinds := [], alts := [], laidByText := true, laidKinds := [.sentinel, .sentinel, .sentinel, .sentinel, .sentinel, .sentinel, .sentinel, .sentinel, .sentinel, .sentinel, .sentinel, .sentinel, .pinned, .data, .data, .data, .pinned, .sentinel, .sentinel, .data, .listed, .sentinel, .sentinel, .sentinel, .sentinel, .data, .data, .data], laidTests := true, laidLooks := .later }
def FnFieldsCardSaid : Prop := Claim7.holds Tryz.pinned (.plain (OpenSpec.ofChange fnFieldsSpec)) fnFieldsCard

/-- THE SECOND FORM's CARD OF 'laws.FnFields'. -/
def fnFieldsUptoCard : Claim7 := { stood := { row := fnFieldsUptoRow, standIns := [], harness := (true, "a136e8bcf7f609e8f905ad3846dc8b4ec9bbb6ad61918acac5a5dc411ca4ab93"), looks := true }, kinds := [], alts := [], laidByText := true, laidKinds := [.sentinel, .sentinel, .sentinel, .sentinel, .sentinel, .sentinel, .sentinel, .sentinel, .sentinel, .sentinel, .sentinel, .sentinel, .pinned, .data, .data, .data, .pinned, .sentinel, .sentinel, .data, .listed, .sentinel, .sentinel, .sentinel, .sentinel, .data, .data, .data], laidTests := true, laidLooks := .later }
def FnFieldsUptoCardSaid : Prop := Claim7.holds Tryz.pinned (.plain (OpenSpec.upto fnFieldsSpec)) fnFieldsUptoCard
end Rows
end Go.Proofs.YteajpfckbnfdaaaGreatDoor
