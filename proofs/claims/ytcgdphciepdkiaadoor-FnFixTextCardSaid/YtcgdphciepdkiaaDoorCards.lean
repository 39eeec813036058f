/-
  DERIVED. GIVEN WITH THE SEED: THE CARDS: each row of YtcgdphciepdkiaaDoorRows.lean that lists a variable, with what it lists TIED to the program's text (the seventh form; the later family's looks); each row that meets fmt, with fmt's text TOLD by the authors' own Lean function (tested against real Go, not proved from fmt's source: count such statements apart). THE CARD IS WHAT COUNTS. Prove the row's statement (the work); the ties are given (YtcgdphciepdkiaaDoorTie.lean); close each card by the builder's one call (the guide's Derived/Test/ToyasCard.lean, 'card_holds'). Laid BY PROGRAM, IN A SANDBOX (cutbox-door.mjs). By AI agents, Wed Nov 11 2026. No macro, syntax, notation, axiom, sorry.
-/
import Derived.Test.YtcgdphciepdkiaaDoorRows
import GoSem.ClaimSeven
namespace Go.Proofs.YtcgdphciepdkiaaDoor
namespace Rows

/-- THE TIED CARD OF 'laws.FnFintShift'. -/
def fnFintShiftCard : Claim7 := { stood := { row := fnFintShiftRow, standIns := [], harness := (true, "ebbb1223caa71a789861c79da721ee1b1ce20fde3b19b1fb66ebb5fecac777cc"), looks := false }, kinds := [], alts := [], laidByText := true, laidKinds := [.data], laidTests := true, laidLooks := .later }
def FnFintShiftCardSaid : Prop := Claim7.holds Tryd.pinned (.plain (OpenSpec.ofChange fnFintShiftSpec)) fnFintShiftCard

/-- THE TIED CARD OF 'laws.FnFixMake'. -/
def fnFixMakeCard : Claim7 := { stood := { row := fnFixMakeRow, standIns := [], harness := (true, "ebbb1223caa71a789861c79da721ee1b1ce20fde3b19b1fb66ebb5fecac777cc"), looks := false }, kinds := [], alts := [], laidByText := true, laidKinds := [.sentinel, .sentinel], laidTests := true, laidLooks := .later }
def FnFixMakeCardSaid : Prop := Claim7.holds Tryd.pinned (.plain (OpenSpec.ofChange fnFixMakeSpec)) fnFixMakeCard

/-- THE TIED CARD OF 'laws.FnFixRound'. -/
def fnFixRoundCard : Claim7 := { stood := { row := fnFixRoundRow, standIns := [], harness := (true, "ebbb1223caa71a789861c79da721ee1b1ce20fde3b19b1fb66ebb5fecac777cc"), looks := false }, kinds := [], alts := [], laidByText := true, laidKinds := [.sentinel, .sentinel, .data], laidTests := true, laidLooks := .later }
def FnFixRoundCardSaid : Prop := Claim7.holds Tryd.pinned (.plain (OpenSpec.ofChange fnFixRoundSpec)) fnFixRoundCard

/-- THE TIED CARD OF 'laws.FnFixText'. -/
def fnFixTextCard : Claim7 := { stood := { row := fnFixTextRow, standIns := [], harness := (true, "ebbb1223caa71a789861c79da721ee1b1ce20fde3b19b1fb66ebb5fecac777cc"), looks := false }, kinds := [], alts := [], laidByText := true, laidKinds := [.sentinel, .sentinel], laidTests := true, laidLooks := .later }
def FnFixTextCardSaid : Prop := Claim7.holds Tryd.pinned (.plain (OpenSpec.ofChange fnFixTextSpec)) fnFixTextCard

/-- THE TIED CARD OF 'laws.FnFixFloor'. -/
def fnFixFloorCard : Claim7 := { stood := { row := fnFixFloorRow, standIns := [], harness := (true, "ebbb1223caa71a789861c79da721ee1b1ce20fde3b19b1fb66ebb5fecac777cc"), looks := false }, kinds := [], alts := [], laidByText := true, laidKinds := [.sentinel, .sentinel, .data], laidTests := true, laidLooks := .later }
def FnFixFloorCardSaid : Prop := Claim7.holds Tryd.pinned (.plain (OpenSpec.ofChange fnFixFloorSpec)) fnFixFloorCard

/-- THE TIED CARD OF 'laws.FnFixQuantize'. -/
def fnFixQuantizeCard : Claim7 := { stood := { row := fnFixQuantizeRow, standIns := [], harness := (true, "ebbb1223caa71a789861c79da721ee1b1ce20fde3b19b1fb66ebb5fecac777cc"), looks := false }, kinds := [], alts := [], laidByText := true, laidKinds := [.sentinel, .sentinel, .data], laidTests := true, laidLooks := .later }
def FnFixQuantizeCardSaid : Prop := Claim7.holds Tryd.pinned (.plain (OpenSpec.ofChange fnFixQuantizeSpec)) fnFixQuantizeCard

/-- THE SECOND FORM's CARD OF 'laws.FnFintShift'. -/
def fnFintShiftUptoCard : Claim7 := { stood := { row := fnFintShiftUptoRow, standIns := [], harness := (true, "ebbb1223caa71a789861c79da721ee1b1ce20fde3b19b1fb66ebb5fecac777cc"), looks := false }, kinds := [], alts := [], laidByText := true, laidKinds := [.data], laidTests := true, laidLooks := .later }
def FnFintShiftUptoCardSaid : Prop := Claim7.holds Tryd.pinned (.plain (OpenSpec.upto fnFintShiftSpec)) fnFintShiftUptoCard

/-- THE SECOND FORM's CARD OF 'laws.FnFixMake'. -/
def fnFixMakeUptoCard : Claim7 := { stood := { row := fnFixMakeUptoRow, standIns := [], harness := (true, "ebbb1223caa71a789861c79da721ee1b1ce20fde3b19b1fb66ebb5fecac777cc"), looks := false }, kinds := [], alts := [], laidByText := true, laidKinds := [.sentinel, .sentinel], laidTests := true, laidLooks := .later }
def FnFixMakeUptoCardSaid : Prop := Claim7.holds Tryd.pinned (.plain (OpenSpec.upto fnFixMakeSpec)) fnFixMakeUptoCard

/-- THE SECOND FORM's CARD OF 'laws.FnFixRound'. -/
def fnFixRoundUptoCard : Claim7 := { stood := { row := fnFixRoundUptoRow, standIns := [], harness := (true, "ebbb1223caa71a789861c79da721ee1b1ce20fde3b19b1fb66ebb5fecac777cc"), looks := false }, kinds := [], alts := [], laidByText := true, laidKinds := [.sentinel, .sentinel, .data], laidTests := true, laidLooks := .later }
def FnFixRoundUptoCardSaid : Prop := Claim7.holds Tryd.pinned (.plain (OpenSpec.upto fnFixRoundSpec)) fnFixRoundUptoCard

/-- THE SECOND FORM's CARD OF 'laws.FnFixText'. -/
def fnFixTextUptoCard : Claim7 := { stood := { row := fnFixTextUptoRow, standIns := [], harness := (true, "ebbb1223caa71a789861c79da721ee1b1ce20fde3b19b1fb66ebb5fecac777cc"), looks := false }, kinds := [], alts := [], laidByText := true, laidKinds := [.sentinel, .sentinel], laidTests := true, laidLooks := .later }
def FnFixTextUptoCardSaid : Prop := Claim7.holds Tryd.pinned (.plain (OpenSpec.upto fnFixTextSpec)) fnFixTextUptoCard

/-- THE SECOND FORM's CARD OF 'laws.FnFixFloor'. -/
def fnFixFloorUptoCard : Claim7 := { stood := { row := fnFixFloorUptoRow, standIns := [], harness := (true, "ebbb1223caa71a789861c79da721ee1b1ce20fde3b19b1fb66ebb5fecac777cc"), looks := false }, kinds := [], alts := [], laidByText := true, laidKinds := [.sentinel, .sentinel, .data], laidTests := true, laidLooks := .later }
def FnFixFloorUptoCardSaid : Prop := Claim7.holds Tryd.pinned (.plain (OpenSpec.upto fnFixFloorSpec)) fnFixFloorUptoCard

/-- THE SECOND FORM's CARD OF 'laws.FnFixQuantize'. -/
def fnFixQuantizeUptoCard : Claim7 := { stood := { row := fnFixQuantizeUptoRow, standIns := [], harness := (true, "ebbb1223caa71a789861c79da721ee1b1ce20fde3b19b1fb66ebb5fecac777cc"), looks := false }, kinds := [], alts := [], laidByText := true, laidKinds := [.sentinel, .sentinel, .data], laidTests := true, laidLooks := .later }
def FnFixQuantizeUptoCardSaid : Prop := Claim7.holds Tryd.pinned (.plain (OpenSpec.upto fnFixQuantizeSpec)) fnFixQuantizeUptoCard
end Rows
end Go.Proofs.YtcgdphciepdkiaaDoor
