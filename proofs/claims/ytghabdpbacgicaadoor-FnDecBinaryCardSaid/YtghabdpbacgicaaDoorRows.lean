/-
  NARROWER THAN 'FOR EVERY INPUT', by the rows' own cells (each row's printed sentence says how): FnDecBinary: laid.
  DERIVED. THE GIVEN ROWS OF THIS SEAT. 1 by the template 'for every input the law returns true; each argument reads behind the call as it read before'; 0 by the template 'total and deterministic' (their statements: YtghabdpbacgicaaDoorTotals.lean).
  GIVEN WITH THE SEED: the statements are not yours to turn. If you find one false, say at which input.
  Laid BY PROGRAM, IN A SANDBOX (cutbox-rows.mjs): the forced cells as the released guide's own fill.sh prints them over the translation b361e424de807398… (all of the seat's roots in one cut). By AI agents, Wed Nov 11 2026. No macro, syntax, notation, axiom, sorry.
-/
import Derived.Test.YtghabdpbacgicaaDoorChecked
import GoSem.Claim
import GoSem.ClaimJoined
import GoSem.ClaimMapViews
import Derived.JoinedTies
import Derived.KernelRfl
namespace Go.Proofs.YtghabdpbacgicaaDoor
/- THE CELL 'sum', in the pinned program and in every row, IS THE sha256 OF THE DUMP (.gsa) THAT YtghabdpbacgicaaDoorProg.lean LOADS. Nothing in Lean hashes anything: it is a label: what it is worth is what the hold of that sum in a sandbox is worth. -/
noncomputable def Tryd.pinned : Pinned := { name := "ytghabdpbacgicaadoor", sum := "b361e424de807398085339596d9436ee4f942fc63fc39ab2e3729b01844e62b3", checked := Tryd.checked }
namespace Rows
def none {H : Type} : Left H := { results := [], args := [] }

/- WHAT THE LISTED PACKAGE-LEVEL VARIABLES READ AS WHEN THE CALL BEGINS. Each datum BY PROGRAM (the guide's laid-datum.mjs) off the statement by which the dump's own 'gosem.cut.vars' lays the variable. In a bare row this is a premise. The card (YtghabdpbacgicaaDoorCards.lean) ties it to the program's text. -/
def laid_given_example_pub_alexandrine_pub_shopspring_MaxDecodeExponent {H : Type} : DataW H := .lit (.int .i64 10000)

/-- 'laws.FnDecBinary': WHATEVER THE INPUT: true; the input reads as it did. -/
def fnDecBinarySpec : ChangeSpec := { name := "fnDecBinary", vars := ["given.example/pub-alexandrine/pub/shopspring.MaxDecodeExponent"], fn := fun _ => fun
  | [d, g1] => { results := [.lit (.bool true)], args := [d], vars := [g1] }
  | _ => none }
def fnDecBinaryRow : OpenClaim := { program := "ytghabdpbacgicaadoor", sum := "b361e424de807398085339596d9436ee4f942fc63fc39ab2e3729b01844e62b3", func := "given.example/pub-alexandrine/laws.FnDecBinary", spec := "fnDecBinary", unfollowed := true, recurses := true, named := ["encoding/binary.BigEndian", "given.example/pub-alexandrine/pub/shopspring.MaxDecodeExponent"], apart := false, laid := [("given.example/pub-alexandrine/pub/shopspring.MaxDecodeExponent", laid_given_example_pub_alexandrine_pub_shopspring_MaxDecodeExponent)] }
def FnDecBinarySaid : Prop := fnDecBinaryRow.holds Tryd.pinned (OpenSpec.ofChange fnDecBinarySpec)

/-- ITS FALSE NEIGHBOUR: 'it returns false'. Refute it at one input. -/
def fnDecBinaryWrong : ChangeSpec := { name := "fnDecBinary", vars := ["given.example/pub-alexandrine/pub/shopspring.MaxDecodeExponent"], fn := fun _ => fun
  | [d, g1] => { results := [.lit (.bool false)], args := [d], vars := [g1] }
  | _ => none }
def FnDecBinaryWrongFalsely : Prop := fnDecBinaryRow.holds Tryd.pinned (OpenSpec.ofChange fnDecBinaryWrong)

/- THE SECOND FORM. 'bulk': how many values and letters a reading holds, each counted each time it is reached (what is shared counts as often as it is met; a slice's spare places count too). A statement '..UptoSaid' is the law's where the arguments, and the package variables that the reading takes, are together of bulk at most 1048576: NARROWER than '..Said'. Prove '..Said' where nothing that the law and all that it calls make is longer than what came in: it says more and counts as full. Else prove '..UptoSaid'. A law counts once. -/
mutual
def uptoBulk {H : Type} : DataW H → Nat
  | .lit (.string bytes) => bytes.length + 1
  | .lit _ => 1
  | .nil => 1
  | .ptr d => uptoBulk d + 1
  | .slice elems spare => uptoBulkAll elems + uptoBulkAll spare + 1
  | .agg parts => uptoBulkAll parts + 1
  | .iface _ d => uptoBulk d + 1
  | .map entries => uptoBulkEntries entries + 1
  | .held _ => 1
def uptoBulkAll {H : Type} : List (DataW H) → Nat
  | [] => 0
  | d :: r => uptoBulk d + uptoBulkAll r
def uptoBulkEntries {H : Type} : List (Lit × DataW H) → Nat
  | [] => 0
  | x :: r => uptoBulkEntry x + uptoBulkEntries r
def uptoBulkEntry {H : Type} : Lit × DataW H → Nat
  | (.string bytes, d) => bytes.length + uptoBulk d + 1
  | (_, d) => uptoBulk d + 1
 end
def uptoSmall : (H : Type) → List (DataW H) → Bool := fun _ ds => decide (uptoBulkAll ds ≤ 1048576)
def OpenSpec.upto (s : _root_.Go.ChangeSpec) : _root_.Go.OpenSpec := { _root_.Go.OpenSpec.ofChange s with cond := some uptoSmall }

/-- 'laws.FnDecBinary', WHERE WHAT IT READS IS OF BULK AT MOST 1048576: true; the input reads as it did. -/
def fnDecBinaryUptoRow : OpenClaim := { program := "ytghabdpbacgicaadoor", sum := "b361e424de807398085339596d9436ee4f942fc63fc39ab2e3729b01844e62b3", func := "given.example/pub-alexandrine/laws.FnDecBinary", spec := "fnDecBinary", unfollowed := true, recurses := true, named := ["encoding/binary.BigEndian", "given.example/pub-alexandrine/pub/shopspring.MaxDecodeExponent"], apart := false, laid := [("given.example/pub-alexandrine/pub/shopspring.MaxDecodeExponent", laid_given_example_pub_alexandrine_pub_shopspring_MaxDecodeExponent)], narrowed := true }
def FnDecBinaryUptoSaid : Prop := fnDecBinaryUptoRow.holds Tryd.pinned (OpenSpec.upto fnDecBinarySpec)

end Rows
end Go.Proofs.YtghabdpbacgicaaDoor
