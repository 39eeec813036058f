/-
  NARROWER THAN 'FOR EVERY INPUT', by the rows' own cells (each row's printed sentence says how): FnFintShift: laid · FnFixMake: ifaces, laid · FnFixRound: ifaces, laid · FnFixText: ifaces, laid · FnFixFloor: ifaces, laid · FnFixQuantize: ifaces, laid.
  DERIVED. THE GIVEN ROWS OF THIS SEAT. 6 by the template 'for every input the law returns true; each argument reads behind the call as it read before'; 0 by the template 'total and deterministic' (their statements: YtcgdphciepdkiaaDoorTotals.lean).
  GIVEN WITH THE SEED: the statements are not yours to turn. If you find one false, say at which input.
  Laid BY PROGRAM, IN A SANDBOX (cutbox-rows.mjs): the forced cells as the released guide's own fill.sh prints them over the translation 4361c9534b5d7763… (all of the seat's roots in one cut). By AI agents, Wed Nov 11 2026. No macro, syntax, notation, axiom, sorry.
-/
import Derived.Test.YtcgdphciepdkiaaDoorChecked
import GoSem.Claim
import GoSem.ClaimJoined
import GoSem.ClaimMapViews
import Derived.JoinedTies
import Derived.KernelRfl
namespace Go.Proofs.YtcgdphciepdkiaaDoor
/- THE CELL 'sum', in the pinned program and in every row, IS THE sha256 OF THE DUMP (.gsa) THAT YtcgdphciepdkiaaDoorProg.lean LOADS. Nothing in Lean hashes anything: it is a label: what it is worth is what the hold of that sum in a sandbox is worth. -/
noncomputable def Tryd.pinned : Pinned := { name := "ytcgdphciepdkiaadoor", sum := "4361c9534b5d776341bb2d6a26d80cb3f32f2384058c030505a028c9ffc52725", checked := Tryd.checked }
namespace Rows
def none {H : Type} : Left H := { results := [], args := [] }

/- WHAT THE LISTED PACKAGE-LEVEL VARIABLES READ AS WHEN THE CALL BEGINS. Each datum BY PROGRAM (the guide's laid-datum.mjs) off the statement by which the dump's own 'gosem.cut.vars' lays the variable. In a bare row this is a premise. The card (YtcgdphciepdkiaaDoorCards.lean) ties it to the program's text. -/
def laid_given_example_pub_alexandrine_pub_govalues_pow10 {H : Type} : DataW H := .agg [.lit (.int .u64 1), .lit (.int .u64 10), .lit (.int .u64 100), .lit (.int .u64 1000), .lit (.int .u64 10000), .lit (.int .u64 100000), .lit (.int .u64 1000000), .lit (.int .u64 10000000), .lit (.int .u64 100000000), .lit (.int .u64 1000000000), .lit (.int .u64 10000000000), .lit (.int .u64 100000000000), .lit (.int .u64 1000000000000), .lit (.int .u64 10000000000000), .lit (.int .u64 100000000000000), .lit (.int .u64 1000000000000000), .lit (.int .u64 10000000000000000), .lit (.int .u64 100000000000000000), .lit (.int .u64 1000000000000000000), .lit (.int .u64 10000000000000000000)]
def laid_given_example_pub_alexandrine_pub_govalues_errDecimalOverflow {H : Type} : DataW H := .iface "*errors.errorString" (.ptr (.agg [.lit (.string [100, 101, 99, 105, 109, 97, 108, 32, 111, 118, 101, 114, 102, 108, 111, 119])]))
def laid_given_example_pub_alexandrine_pub_govalues_errScaleRange {H : Type} : DataW H := .iface "*errors.errorString" (.ptr (.agg [.lit (.string [115, 99, 97, 108, 101, 32, 111, 117, 116, 32, 111, 102, 32, 114, 97, 110, 103, 101])]))

/-- 'laws.FnFintShift': WHATEVER THE INPUT: true; the input reads as it did. -/
def fnFintShiftSpec : ChangeSpec := { name := "fnFintShift", vars := ["given.example/pub-alexandrine/pub/govalues.pow10"], fn := fun _ => fun
  | [d1, d2, g1] => { results := [.lit (.bool true)], args := [d1, d2], vars := [g1] }
  | _ => none }
def fnFintShiftRow : OpenClaim := { program := "ytcgdphciepdkiaadoor", sum := "4361c9534b5d776341bb2d6a26d80cb3f32f2384058c030505a028c9ffc52725", func := "given.example/pub-alexandrine/laws.FnFintShift", spec := "fnFintShift", named := ["given.example/pub-alexandrine/pub/govalues.pow10"], apart := false, laid := [("given.example/pub-alexandrine/pub/govalues.pow10", laid_given_example_pub_alexandrine_pub_govalues_pow10)] }
def FnFintShiftSaid : Prop := fnFintShiftRow.holds Tryd.pinned (OpenSpec.ofChange fnFintShiftSpec)

/-- ITS FALSE NEIGHBOUR: 'it returns false'. Refute it at one input. -/
def fnFintShiftWrong : ChangeSpec := { name := "fnFintShift", vars := ["given.example/pub-alexandrine/pub/govalues.pow10"], fn := fun _ => fun
  | [d1, d2, g1] => { results := [.lit (.bool false)], args := [d1, d2], vars := [g1] }
  | _ => none }
def FnFintShiftWrongFalsely : Prop := fnFintShiftRow.holds Tryd.pinned (OpenSpec.ofChange fnFintShiftWrong)

/-- 'laws.FnFixMake': WHATEVER THE INPUT: true; the input reads as it did. -/
def fnFixMakeSpec : ChangeSpec := { name := "fnFixMake", vars := ["given.example/pub-alexandrine/pub/govalues.errScaleRange", "given.example/pub-alexandrine/pub/govalues.errDecimalOverflow"], fn := fun _ => fun
  | [d1, d2, d3, g1, g2] => { results := [.lit (.bool true)], args := [d1, d2, d3], vars := [g1, g2] }
  | _ => none }
def fnFixMakeRow : OpenClaim := { program := "ytcgdphciepdkiaadoor", sum := "4361c9534b5d776341bb2d6a26d80cb3f32f2384058c030505a028c9ffc52725", func := "given.example/pub-alexandrine/laws.FnFixMake", spec := "fnFixMake", named := ["given.example/pub-alexandrine/pub/govalues.errScaleRange", "given.example/pub-alexandrine/pub/govalues.errDecimalOverflow"], ifaces := true, apart := false, laid := [("given.example/pub-alexandrine/pub/govalues.errDecimalOverflow", laid_given_example_pub_alexandrine_pub_govalues_errDecimalOverflow), ("given.example/pub-alexandrine/pub/govalues.errScaleRange", laid_given_example_pub_alexandrine_pub_govalues_errScaleRange)] }
def FnFixMakeSaid : Prop := fnFixMakeRow.holds Tryd.pinned (OpenSpec.ofChange fnFixMakeSpec)

/-- ITS FALSE NEIGHBOUR: 'it returns false'. Refute it at one input. -/
def fnFixMakeWrong : ChangeSpec := { name := "fnFixMake", vars := ["given.example/pub-alexandrine/pub/govalues.errScaleRange", "given.example/pub-alexandrine/pub/govalues.errDecimalOverflow"], fn := fun _ => fun
  | [d1, d2, d3, g1, g2] => { results := [.lit (.bool false)], args := [d1, d2, d3], vars := [g1, g2] }
  | _ => none }
def FnFixMakeWrongFalsely : Prop := fnFixMakeRow.holds Tryd.pinned (OpenSpec.ofChange fnFixMakeWrong)

/-- 'laws.FnFixRound': WHATEVER THE INPUT: true; the input reads as it did. -/
def fnFixRoundSpec : ChangeSpec := { name := "fnFixRound", vars := ["given.example/pub-alexandrine/pub/govalues.errScaleRange", "given.example/pub-alexandrine/pub/govalues.errDecimalOverflow", "given.example/pub-alexandrine/pub/govalues.pow10"], fn := fun _ => fun
  | [d1, d2, g1, g2, g3] => { results := [.lit (.bool true)], args := [d1, d2], vars := [g1, g2, g3] }
  | _ => none }
def fnFixRoundRow : OpenClaim := { program := "ytcgdphciepdkiaadoor", sum := "4361c9534b5d776341bb2d6a26d80cb3f32f2384058c030505a028c9ffc52725", func := "given.example/pub-alexandrine/laws.FnFixRound", spec := "fnFixRound", unfollowed := true, recurses := true, named := ["given.example/pub-alexandrine/pub/govalues.errScaleRange", "given.example/pub-alexandrine/pub/govalues.errDecimalOverflow", "given.example/pub-alexandrine/pub/govalues.pow10"], ifaces := true, apart := false, laid := [("given.example/pub-alexandrine/pub/govalues.errDecimalOverflow", laid_given_example_pub_alexandrine_pub_govalues_errDecimalOverflow), ("given.example/pub-alexandrine/pub/govalues.errScaleRange", laid_given_example_pub_alexandrine_pub_govalues_errScaleRange), ("given.example/pub-alexandrine/pub/govalues.pow10", laid_given_example_pub_alexandrine_pub_govalues_pow10)] }
def FnFixRoundSaid : Prop := fnFixRoundRow.holds Tryd.pinned (OpenSpec.ofChange fnFixRoundSpec)

/-- ITS FALSE NEIGHBOUR: 'it returns false'. Refute it at one input. -/
def fnFixRoundWrong : ChangeSpec := { name := "fnFixRound", vars := ["given.example/pub-alexandrine/pub/govalues.errScaleRange", "given.example/pub-alexandrine/pub/govalues.errDecimalOverflow", "given.example/pub-alexandrine/pub/govalues.pow10"], fn := fun _ => fun
  | [d1, d2, g1, g2, g3] => { results := [.lit (.bool false)], args := [d1, d2], vars := [g1, g2, g3] }
  | _ => none }
def FnFixRoundWrongFalsely : Prop := fnFixRoundRow.holds Tryd.pinned (OpenSpec.ofChange fnFixRoundWrong)

/-- 'laws.FnFixText': WHATEVER THE INPUT: true; the input reads as it did. -/
def fnFixTextSpec : ChangeSpec := { name := "fnFixText", vars := ["given.example/pub-alexandrine/pub/govalues.errScaleRange", "given.example/pub-alexandrine/pub/govalues.errDecimalOverflow"], fn := fun _ => fun
  | [d, g1, g2] => { results := [.lit (.bool true)], args := [d], vars := [g1, g2] }
  | _ => none }
def fnFixTextRow : OpenClaim := { program := "ytcgdphciepdkiaadoor", sum := "4361c9534b5d776341bb2d6a26d80cb3f32f2384058c030505a028c9ffc52725", func := "given.example/pub-alexandrine/laws.FnFixText", spec := "fnFixText", unfollowed := true, recurses := true, named := ["given.example/pub-alexandrine/pub/govalues.errScaleRange", "given.example/pub-alexandrine/pub/govalues.errDecimalOverflow"], ifaces := true, apart := false, laid := [("given.example/pub-alexandrine/pub/govalues.errDecimalOverflow", laid_given_example_pub_alexandrine_pub_govalues_errDecimalOverflow), ("given.example/pub-alexandrine/pub/govalues.errScaleRange", laid_given_example_pub_alexandrine_pub_govalues_errScaleRange)] }
def FnFixTextSaid : Prop := fnFixTextRow.holds Tryd.pinned (OpenSpec.ofChange fnFixTextSpec)

/-- ITS FALSE NEIGHBOUR: 'it returns false'. Refute it at one input. -/
def fnFixTextWrong : ChangeSpec := { name := "fnFixText", vars := ["given.example/pub-alexandrine/pub/govalues.errScaleRange", "given.example/pub-alexandrine/pub/govalues.errDecimalOverflow"], fn := fun _ => fun
  | [d, g1, g2] => { results := [.lit (.bool false)], args := [d], vars := [g1, g2] }
  | _ => none }
def FnFixTextWrongFalsely : Prop := fnFixTextRow.holds Tryd.pinned (OpenSpec.ofChange fnFixTextWrong)

/-- 'laws.FnFixFloor': WHATEVER THE INPUT: true; the input reads as it did. -/
def fnFixFloorSpec : ChangeSpec := { name := "fnFixFloor", vars := ["given.example/pub-alexandrine/pub/govalues.errScaleRange", "given.example/pub-alexandrine/pub/govalues.errDecimalOverflow", "given.example/pub-alexandrine/pub/govalues.pow10"], fn := fun _ => fun
  | [d1, d2, g1, g2, g3] => { results := [.lit (.bool true)], args := [d1, d2], vars := [g1, g2, g3] }
  | _ => none }
def fnFixFloorRow : OpenClaim := { program := "ytcgdphciepdkiaadoor", sum := "4361c9534b5d776341bb2d6a26d80cb3f32f2384058c030505a028c9ffc52725", func := "given.example/pub-alexandrine/laws.FnFixFloor", spec := "fnFixFloor", unfollowed := true, recurses := true, named := ["given.example/pub-alexandrine/pub/govalues.errScaleRange", "given.example/pub-alexandrine/pub/govalues.errDecimalOverflow", "given.example/pub-alexandrine/pub/govalues.pow10"], ifaces := true, apart := false, laid := [("given.example/pub-alexandrine/pub/govalues.errDecimalOverflow", laid_given_example_pub_alexandrine_pub_govalues_errDecimalOverflow), ("given.example/pub-alexandrine/pub/govalues.errScaleRange", laid_given_example_pub_alexandrine_pub_govalues_errScaleRange), ("given.example/pub-alexandrine/pub/govalues.pow10", laid_given_example_pub_alexandrine_pub_govalues_pow10)] }
def FnFixFloorSaid : Prop := fnFixFloorRow.holds Tryd.pinned (OpenSpec.ofChange fnFixFloorSpec)

/-- ITS FALSE NEIGHBOUR: 'it returns false'. Refute it at one input. -/
def fnFixFloorWrong : ChangeSpec := { name := "fnFixFloor", vars := ["given.example/pub-alexandrine/pub/govalues.errScaleRange", "given.example/pub-alexandrine/pub/govalues.errDecimalOverflow", "given.example/pub-alexandrine/pub/govalues.pow10"], fn := fun _ => fun
  | [d1, d2, g1, g2, g3] => { results := [.lit (.bool false)], args := [d1, d2], vars := [g1, g2, g3] }
  | _ => none }
def FnFixFloorWrongFalsely : Prop := fnFixFloorRow.holds Tryd.pinned (OpenSpec.ofChange fnFixFloorWrong)

/-- 'laws.FnFixQuantize': WHATEVER THE INPUT: true; the input reads as it did. -/
def fnFixQuantizeSpec : ChangeSpec := { name := "fnFixQuantize", vars := ["given.example/pub-alexandrine/pub/govalues.errScaleRange", "given.example/pub-alexandrine/pub/govalues.errDecimalOverflow", "given.example/pub-alexandrine/pub/govalues.pow10"], fn := fun _ => fun
  | [d1, d2, g1, g2, g3] => { results := [.lit (.bool true)], args := [d1, d2], vars := [g1, g2, g3] }
  | _ => none }
def fnFixQuantizeRow : OpenClaim := { program := "ytcgdphciepdkiaadoor", sum := "4361c9534b5d776341bb2d6a26d80cb3f32f2384058c030505a028c9ffc52725", func := "given.example/pub-alexandrine/laws.FnFixQuantize", spec := "fnFixQuantize", unfollowed := true, recurses := true, named := ["given.example/pub-alexandrine/pub/govalues.errScaleRange", "given.example/pub-alexandrine/pub/govalues.errDecimalOverflow", "given.example/pub-alexandrine/pub/govalues.pow10"], ifaces := true, apart := false, laid := [("given.example/pub-alexandrine/pub/govalues.errDecimalOverflow", laid_given_example_pub_alexandrine_pub_govalues_errDecimalOverflow), ("given.example/pub-alexandrine/pub/govalues.errScaleRange", laid_given_example_pub_alexandrine_pub_govalues_errScaleRange), ("given.example/pub-alexandrine/pub/govalues.pow10", laid_given_example_pub_alexandrine_pub_govalues_pow10)] }
def FnFixQuantizeSaid : Prop := fnFixQuantizeRow.holds Tryd.pinned (OpenSpec.ofChange fnFixQuantizeSpec)

/-- ITS FALSE NEIGHBOUR: 'it returns false'. Refute it at one input. -/
def fnFixQuantizeWrong : ChangeSpec := { name := "fnFixQuantize", vars := ["given.example/pub-alexandrine/pub/govalues.errScaleRange", "given.example/pub-alexandrine/pub/govalues.errDecimalOverflow", "given.example/pub-alexandrine/pub/govalues.pow10"], fn := fun _ => fun
  | [d1, d2, g1, g2, g3] => { results := [.lit (.bool false)], args := [d1, d2], vars := [g1, g2, g3] }
  | _ => none }
def FnFixQuantizeWrongFalsely : Prop := fnFixQuantizeRow.holds Tryd.pinned (OpenSpec.ofChange fnFixQuantizeWrong)

/- THE SECOND FORM. 'bulk': how many values and letters a reading holds, each counted each time it is reached (what is shared counts as often as it is met; a slice's spare places count too). A statement '..UptoSaid' is the law's where the arguments, and the package variables that the reading takes, are together of bulk at most 1048576: NARROWER than '..Said'. Prove '..Said' where nothing that the law and all that it calls make is longer than what came in: it says more and counts as full. Else prove '..UptoSaid'. A law counts once. -/
mutual
def uptoBulk {H : Type} : DataW H → Nat
  | .lit (.string bytes) => bytes.length + 1
  | .lit _ => 1
  | .nil => 1
  | .ptr d => uptoBulk d + 1
  | .slice elems spare => uptoBulkAll elems + uptoBulkAll spare + 1
  | .agg parts => uptoBulkAll parts + 1
  | .iface _ d => uptoBulk d + 1
  | .map entries => uptoBulkEntries entries + 1
  | .held _ => 1
def uptoBulkAll {H : Type} : List (DataW H) → Nat
  | [] => 0
  | d :: r => uptoBulk d + uptoBulkAll r
def uptoBulkEntries {H : Type} : List (Lit × DataW H) → Nat
  | [] => 0
  | x :: r => uptoBulkEntry x + uptoBulkEntries r
def uptoBulkEntry {H : Type} : Lit × DataW H → Nat
  | (.string bytes, d) => bytes.length + uptoBulk d + 1
  | (_, d) => uptoBulk d + 1
 end
def uptoSmall : (H : Type) → List (DataW H) → Bool := fun _ ds => decide (uptoBulkAll ds ≤ 1048576)
def OpenSpec.upto (s : _root_.Go.ChangeSpec) : _root_.Go.OpenSpec := { _root_.Go.OpenSpec.ofChange s with cond := some uptoSmall }

/-- 'laws.FnFintShift', WHERE WHAT IT READS IS OF BULK AT MOST 1048576: true; the input reads as it did. -/
def fnFintShiftUptoRow : OpenClaim := { program := "ytcgdphciepdkiaadoor", sum := "4361c9534b5d776341bb2d6a26d80cb3f32f2384058c030505a028c9ffc52725", func := "given.example/pub-alexandrine/laws.FnFintShift", spec := "fnFintShift", named := ["given.example/pub-alexandrine/pub/govalues.pow10"], apart := false, laid := [("given.example/pub-alexandrine/pub/govalues.pow10", laid_given_example_pub_alexandrine_pub_govalues_pow10)], narrowed := true }
def FnFintShiftUptoSaid : Prop := fnFintShiftUptoRow.holds Tryd.pinned (OpenSpec.upto fnFintShiftSpec)

/-- 'laws.FnFixMake', WHERE WHAT IT READS IS OF BULK AT MOST 1048576: true; the input reads as it did. -/
def fnFixMakeUptoRow : OpenClaim := { program := "ytcgdphciepdkiaadoor", sum := "4361c9534b5d776341bb2d6a26d80cb3f32f2384058c030505a028c9ffc52725", func := "given.example/pub-alexandrine/laws.FnFixMake", spec := "fnFixMake", named := ["given.example/pub-alexandrine/pub/govalues.errScaleRange", "given.example/pub-alexandrine/pub/govalues.errDecimalOverflow"], ifaces := true, apart := false, laid := [("given.example/pub-alexandrine/pub/govalues.errDecimalOverflow", laid_given_example_pub_alexandrine_pub_govalues_errDecimalOverflow), ("given.example/pub-alexandrine/pub/govalues.errScaleRange", laid_given_example_pub_alexandrine_pub_govalues_errScaleRange)], narrowed := true }
def FnFixMakeUptoSaid : Prop := fnFixMakeUptoRow.holds Tryd.pinned (OpenSpec.upto fnFixMakeSpec)

/-- 'laws.FnFixRound', WHERE WHAT IT READS IS OF BULK AT MOST 1048576: true; the input reads as it did. -/
def fnFixRoundUptoRow : OpenClaim := { program := "ytcgdphciepdkiaadoor", sum := "4361c9534b5d776341bb2d6a26d80cb3f32f2384058c030505a028c9ffc52725", func := "given.example/pub-alexandrine/laws.FnFixRound", spec := "fnFixRound", unfollowed := true, recurses := true, named := ["given.example/pub-alexandrine/pub/govalues.errScaleRange", "given.example/pub-alexandrine/pub/govalues.errDecimalOverflow", "given.example/pub-alexandrine/pub/govalues.pow10"], ifaces := true, apart := false, laid := [("given.example/pub-alexandrine/pub/govalues.errDecimalOverflow", laid_given_example_pub_alexandrine_pub_govalues_errDecimalOverflow), ("given.example/pub-alexandrine/pub/govalues.errScaleRange", laid_given_example_pub_alexandrine_pub_govalues_errScaleRange), ("given.example/pub-alexandrine/pub/govalues.pow10", laid_given_example_pub_alexandrine_pub_govalues_pow10)], narrowed := true }
def FnFixRoundUptoSaid : Prop := fnFixRoundUptoRow.holds Tryd.pinned (OpenSpec.upto fnFixRoundSpec)

/-- 'laws.FnFixText', WHERE WHAT IT READS IS OF BULK AT MOST 1048576: true; the input reads as it did. -/
def fnFixTextUptoRow : OpenClaim := { program := "ytcgdphciepdkiaadoor", sum := "4361c9534b5d776341bb2d6a26d80cb3f32f2384058c030505a028c9ffc52725", func := "given.example/pub-alexandrine/laws.FnFixText", spec := "fnFixText", unfollowed := true, recurses := true, named := ["given.example/pub-alexandrine/pub/govalues.errScaleRange", "given.example/pub-alexandrine/pub/govalues.errDecimalOverflow"], ifaces := true, apart := false, laid := [("given.example/pub-alexandrine/pub/govalues.errDecimalOverflow", laid_given_example_pub_alexandrine_pub_govalues_errDecimalOverflow), ("given.example/pub-alexandrine/pub/govalues.errScaleRange", laid_given_example_pub_alexandrine_pub_govalues_errScaleRange)], narrowed := true }
def FnFixTextUptoSaid : Prop := fnFixTextUptoRow.holds Tryd.pinned (OpenSpec.upto fnFixTextSpec)

/-- 'laws.FnFixFloor', WHERE WHAT IT READS IS OF BULK AT MOST 1048576: true; the input reads as it did. -/
def fnFixFloorUptoRow : OpenClaim := { program := "ytcgdphciepdkiaadoor", sum := "4361c9534b5d776341bb2d6a26d80cb3f32f2384058c030505a028c9ffc52725", func := "given.example/pub-alexandrine/laws.FnFixFloor", spec := "fnFixFloor", unfollowed := true, recurses := true, named := ["given.example/pub-alexandrine/pub/govalues.errScaleRange", "given.example/pub-alexandrine/pub/govalues.errDecimalOverflow", "given.example/pub-alexandrine/pub/govalues.pow10"], ifaces := true, apart := false, laid := [("given.example/pub-alexandrine/pub/govalues.errDecimalOverflow", laid_given_example_pub_alexandrine_pub_govalues_errDecimalOverflow), ("given.example/pub-alexandrine/pub/govalues.errScaleRange", laid_given_example_pub_alexandrine_pub_govalues_errScaleRange), ("given.example/pub-alexandrine/pub/govalues.pow10", laid_given_example_pub_alexandrine_pub_govalues_pow10)], narrowed := true }
def FnFixFloorUptoSaid : Prop := fnFixFloorUptoRow.holds Tryd.pinned (OpenSpec.upto fnFixFloorSpec)

/-- 'laws.FnFixQuantize', WHERE WHAT IT READS IS OF BULK AT MOST 1048576: true; the input reads as it did. -/
def fnFixQuantizeUptoRow : OpenClaim := { program := "ytcgdphciepdkiaadoor", sum := "4361c9534b5d776341bb2d6a26d80cb3f32f2384058c030505a028c9ffc52725", func := "given.example/pub-alexandrine/laws.FnFixQuantize", spec := "fnFixQuantize", unfollowed := true, recurses := true, named := ["given.example/pub-alexandrine/pub/govalues.errScaleRange", "given.example/pub-alexandrine/pub/govalues.errDecimalOverflow", "given.example/pub-alexandrine/pub/govalues.pow10"], ifaces := true, apart := false, laid := [("given.example/pub-alexandrine/pub/govalues.errDecimalOverflow", laid_given_example_pub_alexandrine_pub_govalues_errDecimalOverflow), ("given.example/pub-alexandrine/pub/govalues.errScaleRange", laid_given_example_pub_alexandrine_pub_govalues_errScaleRange), ("given.example/pub-alexandrine/pub/govalues.pow10", laid_given_example_pub_alexandrine_pub_govalues_pow10)], narrowed := true }
def FnFixQuantizeUptoSaid : Prop := fnFixQuantizeUptoRow.holds Tryd.pinned (OpenSpec.upto fnFixQuantizeSpec)

end Rows
end Go.Proofs.YtcgdphciepdkiaaDoor
