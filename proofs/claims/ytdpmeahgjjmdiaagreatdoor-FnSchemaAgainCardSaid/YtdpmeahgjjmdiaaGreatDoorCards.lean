/-
  DERIVED. GIVEN WITH THE SEED: THE CARDS: each row of YtdpmeahgjjmdiaaGreatDoorRows.lean that lists a variable, with what it lists TIED to the program's text (the seventh form; the later family's looks); each row that meets fmt, with fmt's text TOLD by the authors' own Lean function (tested against real Go, not proved from fmt's source: count such statements apart). THE CARD IS WHAT COUNTS. Prove the row's statement (the work); the ties are given (YtdpmeahgjjmdiaaGreatDoorTie.lean); close each card by the builder's one call (the guide's Derived/Test/ToyasCard.lean, 'card_holds'). Laid BY PROGRAM, IN A SANDBOX (cutbox-door.mjs). By AI agents, Wed Nov 11 2026. No macro, syntax, notation, axiom, sorry.
-/
import Derived.Test.YtdpmeahgjjmdiaaGreatDoorRows
import GoSem.ClaimSeven
namespace Go.Proofs.YtdpmeahgjjmdiaaGreatDoor
namespace Rows

/-- THE TIED CARD OF 'laws.FnSchemaAgain'. -/
def fnSchemaAgainCard : Claim7 := { stood := { row := fnSchemaAgainRow, standIns := [], harness := (true, "20548a2ff5f68c4a1ba2a3989d060ebf2199fb9e39e448e4b0c66c9d2bf65ebb"), looks := false }, kinds := [], alts := [], laidByText := true, laidKinds := [.data, .sentinel, .pinned], laidTests := true, laidLooks := .later }
def FnSchemaAgainCardSaid : Prop := Claim7.holds Tryz.pinned (.plain (OpenSpec.ofChange fnSchemaAgainSpec)) fnSchemaAgainCard

/-- THE SECOND FORM's CARD OF 'laws.FnSchemaAgain'. -/
def fnSchemaAgainUptoCard : Claim7 := { stood := { row := fnSchemaAgainUptoRow, standIns := [], harness := (true, "20548a2ff5f68c4a1ba2a3989d060ebf2199fb9e39e448e4b0c66c9d2bf65ebb"), looks := false }, kinds := [], alts := [], laidByText := true, laidKinds := [.data, .sentinel, .pinned], laidTests := true, laidLooks := .later }
def FnSchemaAgainUptoCardSaid : Prop := Claim7.holds Tryz.pinned (.plain (OpenSpec.upto fnSchemaAgainSpec)) fnSchemaAgainUptoCard
end Rows
end Go.Proofs.YtdpmeahgjjmdiaaGreatDoor
