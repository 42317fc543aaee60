/-
  DERIVED. GIVEN WITH THE SEED: THE CARDS: each row of YtadpeebcombjnaaGreatDoorRows.lean that lists a variable, with what it lists TIED to the program's text (the seventh form; the later family's looks); each row that meets fmt, with fmt's text TOLD by the authors' own Lean function (tested against real Go, not proved from fmt's source: count such statements apart). THE CARD IS WHAT COUNTS. Prove the row's statement (the work); the ties are given (YtadpeebcombjnaaGreatDoorTie.lean); close each card by the builder's one call (the guide's Derived/Test/ToyasCard.lean, 'card_holds'). Laid BY PROGRAM, IN A SANDBOX (cutbox-door.mjs). By AI agents, Wed Nov 11 2026. No macro, syntax, notation, axiom, sorry.
-/
import Derived.Test.YtadpeebcombjnaaGreatDoorRows
import GoSem.ClaimSeven
namespace Go.Proofs.YtadpeebcombjnaaGreatDoor
namespace Rows

/-- THE TIED CARD OF 'laws.FnPointBody'. -/
def fnPointBodyCard : Claim7 := { stood := { row := fnPointBodyRow, standIns := [], harness := (true, "c6b2fd69f1ec6b771e2b599a57bb3d8e5dd13ed5ef7fbfe4e81295bc96da9b29"), looks := true }, kinds := [], alts := [], laidByText := true, laidKinds := [.data, .data, .widerDeep, .widerDeep, .data, .data, .data, .data, .data, .data, .sentinel, .sentinel, .sentinel, .sentinel, .data, .pinned, .pinned, .pinned], laidTests := true, laidLooks := .later }
def FnPointBodyCardSaid : Prop := Claim7.holds Tryz.pinned (.plain (OpenSpec.ofChange fnPointBodySpec)) fnPointBodyCard

/-- THE SECOND FORM's CARD OF 'laws.FnPointBody'. -/
def fnPointBodyUptoCard : Claim7 := { stood := { row := fnPointBodyUptoRow, standIns := [], harness := (true, "c6b2fd69f1ec6b771e2b599a57bb3d8e5dd13ed5ef7fbfe4e81295bc96da9b29"), looks := true }, kinds := [], alts := [], laidByText := true, laidKinds := [.data, .data, .widerDeep, .widerDeep, .data, .data, .data, .data, .data, .data, .sentinel, .sentinel, .sentinel, .sentinel, .data, .pinned, .pinned, .pinned], laidTests := true, laidLooks := .later }
def FnPointBodyUptoCardSaid : Prop := Claim7.holds Tryz.pinned (.plain (OpenSpec.upto fnPointBodySpec)) fnPointBodyUptoCard
end Rows
end Go.Proofs.YtadpeebcombjnaaGreatDoor
