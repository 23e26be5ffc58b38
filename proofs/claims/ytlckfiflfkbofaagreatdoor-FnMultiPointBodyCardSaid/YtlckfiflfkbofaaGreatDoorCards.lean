/-
  DERIVED. GIVEN WITH THE SEED: THE CARDS: each row of YtlckfiflfkbofaaGreatDoorRows.lean that lists a variable, with what it lists TIED to the program's text (the seventh form; the later family's looks); each row that meets fmt, with fmt's text TOLD by the authors' own Lean function (tested against real Go, not proved from fmt's source: count such statements apart). THE CARD IS WHAT COUNTS. Prove the row's statement (the work); the ties are given (YtlckfiflfkbofaaGreatDoorTie.lean); close each card by the builder's one call (the guide's Derived/Test/ToyasCard.lean, 'card_holds'). Laid BY PROGRAM, IN A SANDBOX (cutbox-door.mjs). By AI agents, Wed Nov 11 2026. No macro, syntax, notation, axiom, sorry.
-/
import Derived.Test.YtlckfiflfkbofaaGreatDoorRows
import GoSem.ClaimSeven
namespace Go.Proofs.YtlckfiflfkbofaaGreatDoor
namespace Rows

/-- THE TIED CARD OF 'laws.FnMultiPointBody'. -/
def fnMultiPointBodyCard : Claim7 := { stood := { row := fnMultiPointBodyRow, standIns := [], harness := (true, "2e5629ef3a59c4600e7aa5a397caca2d0ed2ba5c72b36ba5eecab657f3c3337d"), looks := true }, kinds := [], alts := [], laidByText := true, laidKinds := [.data, .data, .widerDeep, .widerDeep, .data, .data, .data, .data, .data, .data, .sentinel, .sentinel, .sentinel, .sentinel, .data, .pinned, .pinned, .pinned], laidTests := true, laidLooks := .later }
def FnMultiPointBodyCardSaid : Prop := Claim7.holds Tryz.pinned (.plain (OpenSpec.ofChange fnMultiPointBodySpec)) fnMultiPointBodyCard

/-- THE SECOND FORM's CARD OF 'laws.FnMultiPointBody'. -/
def fnMultiPointBodyUptoCard : Claim7 := { stood := { row := fnMultiPointBodyUptoRow, standIns := [], harness := (true, "2e5629ef3a59c4600e7aa5a397caca2d0ed2ba5c72b36ba5eecab657f3c3337d"), looks := true }, kinds := [], alts := [], laidByText := true, laidKinds := [.data, .data, .widerDeep, .widerDeep, .data, .data, .data, .data, .data, .data, .sentinel, .sentinel, .sentinel, .sentinel, .data, .pinned, .pinned, .pinned], laidTests := true, laidLooks := .later }
def FnMultiPointBodyUptoCardSaid : Prop := Claim7.holds Tryz.pinned (.plain (OpenSpec.upto fnMultiPointBodySpec)) fnMultiPointBodyUptoCard
end Rows
end Go.Proofs.YtlckfiflfkbofaaGreatDoor
