/-
  DERIVED. GIVEN WITH THE SEED: THE CARDS: each row of YtinfkihnedpdnaaGreatDoorRows.lean that lists a variable, with what it lists TIED to the program's text (the seventh form; the later family's looks); each row that meets fmt, with fmt's text TOLD by the authors' own Lean function (tested against real Go, not proved from fmt's source: count such statements apart). THE CARD IS WHAT COUNTS. Prove the row's statement (the work); the ties are given (YtinfkihnedpdnaaGreatDoorTie.lean); close each card by the builder's one call (the guide's Derived/Test/ToyasCard.lean, 'card_holds'). Laid BY PROGRAM, IN A SANDBOX (cutbox-door.mjs). By AI agents, Wed Nov 11 2026. No macro, syntax, notation, axiom, sorry.
-/
import Derived.Test.YtinfkihnedpdnaaGreatDoorRows
import GoSem.ClaimSeven
namespace Go.Proofs.YtinfkihnedpdnaaGreatDoor
namespace Rows

/-- THE TIED CARD OF 'laws.FnKind'. -/
def fnKindCard : Claim7 := { stood := { row := fnKindRow, standIns := [], harness := (true, "924badbe8d4d140e898523b9d7d1b0be1aa46275bb27e2265582ed5bf73cb845"), looks := true }, kinds := [], alts := [], laidByText := true, laidKinds := [.handle, .sentinel, .sentinel, .sentinel, .sentinel, .data, .sentinel, .sentinel, .data, .data], laidTests := true, laidLooks := .later }
def FnKindCardSaid : Prop := Claim7.holds Tryz.pinned (.plain (OpenSpec.ofChange fnKindSpec)) fnKindCard

/-- THE SECOND FORM's CARD OF 'laws.FnKind'. -/
def fnKindUptoCard : Claim7 := { stood := { row := fnKindUptoRow, standIns := [], harness := (true, "924badbe8d4d140e898523b9d7d1b0be1aa46275bb27e2265582ed5bf73cb845"), looks := true }, kinds := [], alts := [], laidByText := true, laidKinds := [.handle, .sentinel, .sentinel, .sentinel, .sentinel, .data, .sentinel, .sentinel, .data, .data], laidTests := true, laidLooks := .later }
def FnKindUptoCardSaid : Prop := Claim7.holds Tryz.pinned (.plain (OpenSpec.upto fnKindSpec)) fnKindUptoCard
end Rows
end Go.Proofs.YtinfkihnedpdnaaGreatDoor
