/-
  Rows of the table of types, for the walks of the numbers' own functions.
-/
import Derived.Test.YtghabdpbacgicaaDoorS0
namespace Go.Proofs.YtghabdpbacgicaaDoor.S
theorem tinfo_u8 : (Tryd.prog.info? 5).map (fun i => (i.zero, i.size, i.bytes)) = some (some (.int .u8 0), 1, 1) := by kernel_rfl
theorem tinfo_u64 : (Tryd.prog.info? 83).map (fun i => (i.zero, i.size, i.bytes)) = some (some (.int .u64 0), 1, 8) := by kernel_rfl
theorem tinfo_word : (Tryd.prog.info? 85).map (fun i => (i.zero, i.size, i.bytes)) = some (some (.int .u64 0), 1, 8) := by kernel_rfl
end Go.Proofs.YtghabdpbacgicaaDoor.S
