/-
  DERIVED. GIVEN WITH THE SEED: THE CARDS: each row of YtpigmadopflfkaaGreatDoorRows.lean that lists a variable, with what it lists TIED to the program's text (the seventh form; the later family's looks); each row that meets fmt, with fmt's text TOLD by the authors' own Lean function (tested against real Go, not proved from fmt's source: count such statements apart). THE CARD IS WHAT COUNTS. Prove the row's statement (the work); the ties are given (YtpigmadopflfkaaGreatDoorTie.lean); close each card by the builder's one call (the guide's Derived/Test/ToyasCard.lean, 'card_holds'). Laid BY PROGRAM, IN A SANDBOX (cutbox-door.mjs). By AI agents, Wed Nov 11 2026. No macro, syntax, notation, axiom, sorry.
-/
import Derived.Test.YtpigmadopflfkaaGreatDoorRows
import GoSem.ClaimSeven
namespace Go.Proofs.YtpigmadopflfkaaGreatDoor
namespace Rows

/-- THE TIED CARD OF 'laws.FnEquivalent'. -/
def fnEquivalentCard : Claim7 := { stood := { row := fnEquivalentRow, standIns := [], harness := (true, "a5345045f05cacc47d9d2c79ee5f2acd4a9f6fb9148c53e39cd4c8042617c887"), looks := true }, kinds := [], alts := [], laidByText := true, laidKinds := [.data, .data, .widerDeep, .widerDeep, .data, .data, .data, .data, .data, .data, .sentinel, .sentinel, .pinned, .pinned, .pinned], laidTests := true, laidLooks := .later }
def FnEquivalentCardSaid : Prop := Claim7.holds Tryz.pinned (.plain (OpenSpec.ofChange fnEquivalentSpec)) fnEquivalentCard

/-- THE SECOND FORM's CARD OF 'laws.FnEquivalent'. -/
def fnEquivalentUptoCard : Claim7 := { stood := { row := fnEquivalentUptoRow, standIns := [], harness := (true, "a5345045f05cacc47d9d2c79ee5f2acd4a9f6fb9148c53e39cd4c8042617c887"), looks := true }, kinds := [], alts := [], laidByText := true, laidKinds := [.data, .data, .widerDeep, .widerDeep, .data, .data, .data, .data, .data, .data, .sentinel, .sentinel, .pinned, .pinned, .pinned], laidTests := true, laidLooks := .later }
def FnEquivalentUptoCardSaid : Prop := Claim7.holds Tryz.pinned (.plain (OpenSpec.upto fnEquivalentSpec)) fnEquivalentUptoCard
end Rows
end Go.Proofs.YtpigmadopflfkaaGreatDoor
