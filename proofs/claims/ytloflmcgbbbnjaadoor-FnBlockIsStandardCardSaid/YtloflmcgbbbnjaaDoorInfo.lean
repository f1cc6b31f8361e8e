/-
  What the table of types says of bytes.
-/
import Derived.Test.YtloflmcgbbbnjaaDoorMem
namespace Go.Proofs.YtloflmcgbbbnjaaDoor
theorem Tryd.info_u8 : (Tryd.prog.info? 5).map (fun i => (i.zero, i.size, i.bytes)) = some (some (.int .u8 0), 1, 1) := by kernel_rfl
theorem Tryd.size_u8 : (Tryd.prog.info? 5).map (·.size) = some 1 := by kernel_rfl
end Go.Proofs.YtloflmcgbbbnjaaDoor
