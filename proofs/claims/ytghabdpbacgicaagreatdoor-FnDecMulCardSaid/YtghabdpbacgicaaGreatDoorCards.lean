/-
  DERIVED. GIVEN WITH THE SEED: THE CARDS: each row of YtghabdpbacgicaaGreatDoorRows.lean that lists a variable, with what it lists TIED to the program's text (the seventh form; the later family's looks); each row that meets fmt, with fmt's text TOLD by the authors' own Lean function (tested against real Go, not proved from fmt's source: count such statements apart). THE CARD IS WHAT COUNTS. Prove the row's statement (the work); the ties are given (YtghabdpbacgicaaGreatDoorTie.lean); close each card by the builder's one call (the guide's Derived/Test/ToyasCard.lean, 'card_holds'). Laid BY PROGRAM, IN A SANDBOX (cutbox-door.mjs). By AI agents, Wed Nov 11 2026. No macro, syntax, notation, axiom, sorry.
-/
import Derived.Test.YtghabdpbacgicaaGreatDoorRows
import GoSem.ClaimSeven
namespace Go.Proofs.YtghabdpbacgicaaGreatDoor
namespace Rows

/-- THE TIED CARD OF 'laws.FnDecMul'. -/
def fnDecMulCard : Claim7 := { stood := { row := fnDecMulRow, standIns := [], harness := (true, "be56eeab24cb8dac16cced7e9665efb4648a0960477f32833e86735924e14eb6"), looks := false }, kinds := [], alts := [], laidByText := true, laidKinds := [.data, .data, .data], laidTests := true, laidLooks := .later }
def FnDecMulCardSaid : Prop := Claim7.holds Tryz.pinned (.plain (OpenSpec.ofChange fnDecMulSpec)) fnDecMulCard

/-- THE SECOND FORM's CARD OF 'laws.FnDecMul'. -/
def fnDecMulUptoCard : Claim7 := { stood := { row := fnDecMulUptoRow, standIns := [], harness := (true, "be56eeab24cb8dac16cced7e9665efb4648a0960477f32833e86735924e14eb6"), looks := false }, kinds := [], alts := [], laidByText := true, laidKinds := [.data, .data, .data], laidTests := true, laidLooks := .later }
def FnDecMulUptoCardSaid : Prop := Claim7.holds Tryz.pinned (.plain (OpenSpec.upto fnDecMulSpec)) fnDecMulUptoCard
end Rows
end Go.Proofs.YtghabdpbacgicaaGreatDoor
