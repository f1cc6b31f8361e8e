/-
  What the table of types says of bytes.
-/
import Derived.Test.YtloflmcgbbbnjaaMem
namespace Go.Proofs.Ytloflmcgbbbnjaa
theorem Try.info_u8 : (Try.prog.info? 5).map (fun i => (i.zero, i.size, i.bytes)) = some (some (.int .u8 0), 1, 1) := by kernel_rfl
theorem Try.size_u8 : (Try.prog.info? 5).map (·.size) = some 1 := by kernel_rfl
end Go.Proofs.Ytloflmcgbbbnjaa
