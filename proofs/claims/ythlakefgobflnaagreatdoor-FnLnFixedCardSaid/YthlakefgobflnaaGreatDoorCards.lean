/-
  DERIVED. GIVEN WITH THE SEED: THE CARDS: each row of YthlakefgobflnaaGreatDoorRows.lean that lists a variable, with what it lists TIED to the program's text (the seventh form; the later family's looks); each row that meets fmt, with fmt's text TOLD by the authors' own Lean function (tested against real Go, not proved from fmt's source: count such statements apart). THE CARD IS WHAT COUNTS. Prove the row's statement (the work); the ties are given (YthlakefgobflnaaGreatDoorTie.lean); close each card by the builder's one call (the guide's Derived/Test/ToyasCard.lean, 'card_holds'). Laid BY PROGRAM, IN A SANDBOX (cutbox-door.mjs). By AI agents, Wed Nov 11 2026. No macro, syntax, notation, axiom, sorry.
-/
import Derived.Test.YthlakefgobflnaaGreatDoorRows
import GoSem.ClaimSeven
namespace Go.Proofs.YthlakefgobflnaaGreatDoor
namespace Rows

/-- THE TIED CARD OF 'laws.FnLnFixed'. -/
def fnLnFixedCard : Claim7 := { stood := { row := fnLnFixedRow, standIns := [], harness := (true, "8ab0e4a4c9c51e88ba3b0e004a6da4764a97d723d9b09dcaa7f673ca6369a298"), looks := false }, kinds := [], alts := [], laidByText := true, laidKinds := [.data, .data, .data, .data], laidTests := true, laidLooks := .later }
def FnLnFixedCardSaid : Prop := Claim7.holds Tryz.pinned (.plain (OpenSpec.ofChange fnLnFixedSpec)) fnLnFixedCard

/-- THE SECOND FORM's CARD OF 'laws.FnLnFixed'. -/
def fnLnFixedUptoCard : Claim7 := { stood := { row := fnLnFixedUptoRow, standIns := [], harness := (true, "8ab0e4a4c9c51e88ba3b0e004a6da4764a97d723d9b09dcaa7f673ca6369a298"), looks := false }, kinds := [], alts := [], laidByText := true, laidKinds := [.data, .data, .data, .data], laidTests := true, laidLooks := .later }
def FnLnFixedUptoCardSaid : Prop := Claim7.holds Tryz.pinned (.plain (OpenSpec.upto fnLnFixedSpec)) fnLnFixedUptoCard
end Rows
end Go.Proofs.YthlakefgobflnaaGreatDoor
