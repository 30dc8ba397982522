/-
  DERIVED. GIVEN WITH THE SEED: THE CARDS: each row of YtfajmapajpfocaaGreatDoorRows.lean that lists a variable, with what it lists TIED to the program's text (the seventh form; the later family's looks); each row that meets fmt, with fmt's text TOLD by the authors' own Lean function (tested against real Go, not proved from fmt's source: count such statements apart). THE CARD IS WHAT COUNTS. Prove the row's statement (the work); the ties are given (YtfajmapajpfocaaGreatDoorTie.lean); close each card by the builder's one call (the guide's Derived/Test/ToyasCard.lean, 'card_holds'). Laid BY PROGRAM, IN A SANDBOX (cutbox-door.mjs). By AI agents, Wed Nov 11 2026. No macro, syntax, notation, axiom, sorry.
-/
import Derived.Test.YtfajmapajpfocaaGreatDoorRows
import GoSem.ClaimSeven
namespace Go.Proofs.YtfajmapajpfocaaGreatDoor
namespace Rows

/-- THE TIED CARD OF 'laws.FnNone'. -/
def fnNoneCard : Claim7 := { stood := { row := fnNoneRow, standIns := [], harness := (true, "e759db504361a6b93e6f6c04670161846664acea2c46a1e5197e006fcfe665ff"), looks := true }, kinds := [], alts := [], laidByText := true, laidKinds := [.data, .sentinel, .sentinel, .sentinel, .sentinel, .sentinel, .data, .data, .sentinel, .sentinel, .sentinel, .sentinel, .sentinel, .sentinel, .sentinel, .pinned, .pinned], laidTests := true, laidLooks := .later }
def FnNoneCardSaid : Prop := Claim7.holds Tryz.pinned (.plain (OpenSpec.ofChange fnNoneSpec)) fnNoneCard

/-- THE TIED CARD OF 'laws.FnExactForm'. -/
def fnExactFormCard : Claim7 := { stood := { row := fnExactFormRow, standIns := [], harness := (true, "e759db504361a6b93e6f6c04670161846664acea2c46a1e5197e006fcfe665ff"), looks := true }, kinds := [], alts := [], laidByText := true, laidKinds := [.data, .sentinel, .sentinel, .sentinel, .sentinel, .sentinel, .data, .data, .sentinel, .sentinel, .sentinel, .sentinel, .sentinel, .sentinel, .sentinel, .pinned, .pinned], laidTests := true, laidLooks := .later }
def FnExactFormCardSaid : Prop := Claim7.holds Tryz.pinned (.plain (OpenSpec.ofChange fnExactFormSpec)) fnExactFormCard

/-- THE TIED CARD OF 'laws.FnCut'. -/
def fnCutCard : Claim7 := { stood := { row := fnCutRow, standIns := [], harness := (true, "e759db504361a6b93e6f6c04670161846664acea2c46a1e5197e006fcfe665ff"), looks := true }, kinds := [], alts := [], laidByText := true, laidKinds := [.data, .sentinel, .sentinel, .sentinel, .sentinel, .sentinel, .data, .data, .sentinel, .sentinel, .sentinel, .sentinel, .sentinel, .sentinel, .sentinel, .pinned, .pinned], laidTests := true, laidLooks := .later }
def FnCutCardSaid : Prop := Claim7.holds Tryz.pinned (.plain (OpenSpec.ofChange fnCutSpec)) fnCutCard

/-- THE TIED CARD OF 'laws.FnNested'. -/
def fnNestedCard : Claim7 := { stood := { row := fnNestedRow, standIns := [], harness := (true, "e759db504361a6b93e6f6c04670161846664acea2c46a1e5197e006fcfe665ff"), looks := true }, kinds := [], alts := [], laidByText := true, laidKinds := [.data, .sentinel, .sentinel, .sentinel, .sentinel, .sentinel, .data, .data, .sentinel, .sentinel, .sentinel, .sentinel, .sentinel, .sentinel, .sentinel, .pinned, .pinned], laidTests := true, laidLooks := .later }
def FnNestedCardSaid : Prop := Claim7.holds Tryz.pinned (.plain (OpenSpec.ofChange fnNestedSpec)) fnNestedCard

/-- THE TIED CARD OF 'laws.FnRound'. -/
def fnRoundCard : Claim7 := { stood := { row := fnRoundRow, standIns := [], harness := (true, "e759db504361a6b93e6f6c04670161846664acea2c46a1e5197e006fcfe665ff"), looks := true }, kinds := [], alts := [], laidByText := true, laidKinds := [.data, .sentinel, .sentinel, .sentinel, .sentinel, .sentinel, .data, .data, .sentinel, .sentinel, .sentinel, .sentinel, .sentinel, .sentinel, .sentinel, .pinned, .pinned], laidTests := true, laidLooks := .later }
def FnRoundCardSaid : Prop := Claim7.holds Tryz.pinned (.plain (OpenSpec.ofChange fnRoundSpec)) fnRoundCard

/-- THE TIED CARD OF 'laws.FnNextQuoted'. -/
def fnNextQuotedCard : Claim7 := { stood := { row := fnNextQuotedRow, standIns := [], harness := (true, "e759db504361a6b93e6f6c04670161846664acea2c46a1e5197e006fcfe665ff"), looks := true }, kinds := [], alts := [], laidByText := true, laidKinds := [.data, .sentinel, .sentinel, .sentinel, .sentinel, .sentinel, .data, .data, .sentinel, .sentinel, .sentinel, .sentinel, .sentinel, .sentinel, .sentinel, .pinned, .pinned], laidTests := true, laidLooks := .later }
def FnNextQuotedCardSaid : Prop := Claim7.holds Tryz.pinned (.plain (OpenSpec.ofChange fnNextQuotedSpec)) fnNextQuotedCard

/-- THE SECOND FORM's CARD OF 'laws.FnNone'. -/
def fnNoneUptoCard : Claim7 := { stood := { row := fnNoneUptoRow, standIns := [], harness := (true, "e759db504361a6b93e6f6c04670161846664acea2c46a1e5197e006fcfe665ff"), looks := true }, kinds := [], alts := [], laidByText := true, laidKinds := [.data, .sentinel, .sentinel, .sentinel, .sentinel, .sentinel, .data, .data, .sentinel, .sentinel, .sentinel, .sentinel, .sentinel, .sentinel, .sentinel, .pinned, .pinned], laidTests := true, laidLooks := .later }
def FnNoneUptoCardSaid : Prop := Claim7.holds Tryz.pinned (.plain (OpenSpec.upto fnNoneSpec)) fnNoneUptoCard

/-- THE SECOND FORM's CARD OF 'laws.FnExactForm'. -/
def fnExactFormUptoCard : Claim7 := { stood := { row := fnExactFormUptoRow, standIns := [], harness := (true, "e759db504361a6b93e6f6c04670161846664acea2c46a1e5197e006fcfe665ff"), looks := true }, kinds := [], alts := [], laidByText := true, laidKinds := [.data, .sentinel, .sentinel, .sentinel, .sentinel, .sentinel, .data, .data, .sentinel, .sentinel, .sentinel, .sentinel, .sentinel, .sentinel, .sentinel, .pinned, .pinned], laidTests := true, laidLooks := .later }
def FnExactFormUptoCardSaid : Prop := Claim7.holds Tryz.pinned (.plain (OpenSpec.upto fnExactFormSpec)) fnExactFormUptoCard

/-- THE SECOND FORM's CARD OF 'laws.FnCut'. -/
def fnCutUptoCard : Claim7 := { stood := { row := fnCutUptoRow, standIns := [], harness := (true, "e759db504361a6b93e6f6c04670161846664acea2c46a1e5197e006fcfe665ff"), looks := true }, kinds := [], alts := [], laidByText := true, laidKinds := [.data, .sentinel, .sentinel, .sentinel, .sentinel, .sentinel, .data, .data, .sentinel, .sentinel, .sentinel, .sentinel, .sentinel, .sentinel, .sentinel, .pinned, .pinned], laidTests := true, laidLooks := .later }
def FnCutUptoCardSaid : Prop := Claim7.holds Tryz.pinned (.plain (OpenSpec.upto fnCutSpec)) fnCutUptoCard

/-- THE SECOND FORM's CARD OF 'laws.FnNested'. -/
def fnNestedUptoCard : Claim7 := { stood := { row := fnNestedUptoRow, standIns := [], harness := (true, "e759db504361a6b93e6f6c04670161846664acea2c46a1e5197e006fcfe665ff"), looks := true }, kinds := [], alts := [], laidByText := true, laidKinds := [.data, .sentinel, .sentinel, .sentinel, .sentinel, .sentinel, .data, .data, .sentinel, .sentinel, .sentinel, .sentinel, .sentinel, .sentinel, .sentinel, .pinned, .pinned], laidTests := true, laidLooks := .later }
def FnNestedUptoCardSaid : Prop := Claim7.holds Tryz.pinned (.plain (OpenSpec.upto fnNestedSpec)) fnNestedUptoCard

/-- THE SECOND FORM's CARD OF 'laws.FnRound'. -/
def fnRoundUptoCard : Claim7 := { stood := { row := fnRoundUptoRow, standIns := [], harness := (true, "e759db504361a6b93e6f6c04670161846664acea2c46a1e5197e006fcfe665ff"), looks := true }, kinds := [], alts := [], laidByText := true, laidKinds := [.data, .sentinel, .sentinel, .sentinel, .sentinel, .sentinel, .data, .data, .sentinel, .sentinel, .sentinel, .sentinel, .sentinel, .sentinel, .sentinel, .pinned, .pinned], laidTests := true, laidLooks := .later }
def FnRoundUptoCardSaid : Prop := Claim7.holds Tryz.pinned (.plain (OpenSpec.upto fnRoundSpec)) fnRoundUptoCard

/-- THE SECOND FORM's CARD OF 'laws.FnNextQuoted'. -/
def fnNextQuotedUptoCard : Claim7 := { stood := { row := fnNextQuotedUptoRow, standIns := [], harness := (true, "e759db504361a6b93e6f6c04670161846664acea2c46a1e5197e006fcfe665ff"), looks := true }, kinds := [], alts := [], laidByText := true, laidKinds := [.data, .sentinel, .sentinel, .sentinel, .sentinel, .sentinel, .data, .data, .sentinel, .sentinel, .sentinel, .sentinel, .sentinel, .sentinel, .sentinel, .pinned, .pinned], laidTests := true, laidLooks := .later }
def FnNextQuotedUptoCardSaid : Prop := Claim7.holds Tryz.pinned (.plain (OpenSpec.upto fnNextQuotedSpec)) fnNextQuotedUptoCard
end Rows
end Go.Proofs.YtfajmapajpfocaaGreatDoor
