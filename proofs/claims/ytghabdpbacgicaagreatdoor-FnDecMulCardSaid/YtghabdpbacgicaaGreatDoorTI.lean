/-
  Rows of the table of types, for the walks of the numbers' own functions.
-/
import Derived.Test.YtghabdpbacgicaaGreatDoorS0
namespace Go.Proofs.YtghabdpbacgicaaGreatDoor.S
theorem tinfo_u8 : (Tryz.prog.info? 5).map (fun i => (i.zero, i.size, i.bytes)) = some (some (.int .u8 0), 1, 1) := by kernel_rfl
theorem tinfo_u64 : (Tryz.prog.info? 77).map (fun i => (i.zero, i.size, i.bytes)) = some (some (.int .u64 0), 1, 8) := by kernel_rfl
theorem tinfo_word : (Tryz.prog.info? 81).map (fun i => (i.zero, i.size, i.bytes)) = some (some (.int .u64 0), 1, 8) := by kernel_rfl
end Go.Proofs.YtghabdpbacgicaaGreatDoor.S
