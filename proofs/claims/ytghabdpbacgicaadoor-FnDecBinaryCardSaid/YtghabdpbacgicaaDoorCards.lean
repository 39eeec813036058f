/-
  DERIVED. GIVEN WITH THE SEED: THE CARDS: each row of YtghabdpbacgicaaDoorRows.lean that lists a variable, with what it lists TIED to the program's text (the seventh form; the later family's looks); each row that meets fmt, with fmt's text TOLD by the authors' own Lean function (tested against real Go, not proved from fmt's source: count such statements apart). THE CARD IS WHAT COUNTS. Prove the row's statement (the work); the ties are given (YtghabdpbacgicaaDoorTie.lean); close each card by the builder's one call (the guide's Derived/Test/ToyasCard.lean, 'card_holds'). Laid BY PROGRAM, IN A SANDBOX (cutbox-door.mjs). By AI agents, Wed Nov 11 2026. No macro, syntax, notation, axiom, sorry.
-/
import Derived.Test.YtghabdpbacgicaaDoorRows
import GoSem.ClaimSeven
namespace Go.Proofs.YtghabdpbacgicaaDoor
namespace Rows

/-- THE TIED CARD OF 'laws.FnDecBinary'. -/
def fnDecBinaryCard : Claim7 := { stood := { row := fnDecBinaryRow, standIns := [], harness := (true, "64a4aaf0aa05e4d4ba81aeaca358a9d38613d23cdd0badb019fb8bc940dc0575"), looks := false }, kinds := [], alts := [], laidByText := true, laidKinds := [.data], laidTests := true, laidLooks := .later }
def FnDecBinaryCardSaid : Prop := Claim7.holds Tryd.pinned (.plain (OpenSpec.ofChange fnDecBinarySpec)) fnDecBinaryCard

/-- THE SECOND FORM's CARD OF 'laws.FnDecBinary'. -/
def fnDecBinaryUptoCard : Claim7 := { stood := { row := fnDecBinaryUptoRow, standIns := [], harness := (true, "64a4aaf0aa05e4d4ba81aeaca358a9d38613d23cdd0badb019fb8bc940dc0575"), looks := false }, kinds := [], alts := [], laidByText := true, laidKinds := [.data], laidTests := true, laidLooks := .later }
def FnDecBinaryUptoCardSaid : Prop := Claim7.holds Tryd.pinned (.plain (OpenSpec.upto fnDecBinarySpec)) fnDecBinaryUptoCard
end Rows
end Go.Proofs.YtghabdpbacgicaaDoor
