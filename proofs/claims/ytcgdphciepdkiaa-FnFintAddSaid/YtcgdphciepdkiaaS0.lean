/- WORDS OF THE PRINTED FUNCTIONS: what the texts beside this one use. (Began as print.sh's text for this seat.) -/
import Derived.Test.YtcgdphciepdkiaaProg
import Derived.Below
import Derived.Deep.Draws
import Derived.Deep.AppendLies
import Derived.Maps.AppendAt
import Derived.OwnWalk
import Derived.Laws.BytesArg
import Derived.Laws.MakeOwn
import Derived.Laws.OwnMore
import Derived.Deep.OwnRows
import Derived.Tactics
import Derived.Lib.ConvBytes
import Derived.Laws.Slices
import Derived.WalkKit
import Derived.KernelRfl
import Derived.RowKit3
import Derived.Deep.LoopGhost
import Derived.Deep.QuietTactic
import Derived.BigQuiet
import Derived.WideLaws
import Derived.Deep.DeepCutAuto
import Derived.Deep.CutBlock
import Derived.Deep.RegionHeld3
import Derived.Laws.Rows
import Derived.Lib.AppendStr
import Derived.ArgAppend
import Derived.Laws.IdiomCopy
import Derived.OrdersHeld
import Derived.Laws.BitsLemmas
import Derived.RowKit
import Derived.Test.YtcgdphciepdkiaaWWords
import Derived.Test.YtcgdphciepdkiaaWLast
import Derived.Test.YtcgdphciepdkiaaWTab
import Derived.Test.YtcgdphciepdkiaaWFour
import Derived.Test.YtcgdphciepdkiaaWQPut
import Derived.Test.YtcgdphciepdkiaaWApart
import Derived.Test.YtcgdphciepdkiaaWArr
import Derived.Test.YtcgdphciepdkiaaWZeros
import Derived.Test.YtcgdphciepdkiaaWFoot
import Derived.Test.YtcgdphciepdkiaaWKept
import Derived.Test.YtcgdphciepdkiaaWShare
import Derived.Test.YtcgdphciepdkiaaWN
import Derived.Test.YtcgdphciepdkiaaWFootNe
import Derived.Test.YtcgdphciepdkiaaWAt
import Derived.Test.YtcgdphciepdkiaaWEqStruct
import Derived.Test.YtcgdphciepdkiaaWRepsOne
import Derived.Test.YtcgdphciepdkiaaWInv
import Derived.Test.YtcgdphciepdkiaaWInvWords
import Derived.Test.YtcgdphciepdkiaaWGuard
import Derived.Test.YtcgdphciepdkiaaWNEv
import Derived.Test.YtcgdphciepdkiaaWMore
namespace Go.Proofs.Ytcgdphciepdkiaa.S
open Go.RowKit Go.Proofs.YtcgdphciepdkiaaW.PrintWords Go.Proofs.YtcgdphciepdkiaaW.PrintLast Go.Proofs.YtcgdphciepdkiaaW.PrintMore
attribute [local go_sem] max2_int min2_int max_two min_two max_three min_three max_four min_four   -- for this text's walks alone
set_option linter.unusedVariables false
set_option linter.unusedSimpArgs false



def errW : Option Int → Value
  | none => .nilIface
  | some c => .iface 0 (.int .i64 c)
theorem errW_none : errW none = .nilIface := rfl
theorem errW_some (c : Int) : errW (some c) = .iface 0 (.int .i64 c) := rfl

theorem info5 : (Try.prog.info? 5).map (fun i => (i.zero, i.size, i.bytes)) = some (some (.int .u8 0), 1, 1) := by kernel_rfl
theorem info22 : (Try.prog.info? 22).map (fun i => (i.zero, i.size, i.bytes)) = some (some (.int .u64 0), 1, 8) := by kernel_rfl
theorem info35 : (Try.prog.info? 35).map (fun i => (i.zero, i.size, i.bytes)) = some (some (.int .u32 0), 1, 4) := by kernel_rfl
-- the values' own types


end Go.Proofs.Ytcgdphciepdkiaa.S
