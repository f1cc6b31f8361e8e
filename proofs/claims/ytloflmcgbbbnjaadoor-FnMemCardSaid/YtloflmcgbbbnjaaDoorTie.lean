/-
  DERIVED. GIVEN WITH THE SEED: THE PROGRAM's TIES (one call each: nine closed facts by the kernel) AND EACH ROW's TIE, after the 31st guide's Derived/Test/Toyas{Tie, Card}.lean. No idea stands in it: it is a product of the set-up. Laid BY PROGRAM, IN A SANDBOX (cutbox-door.mjs). By AI agents, Wed Nov 11 2026. No macro, syntax, notation, axiom, sorry.
-/
import Derived.Test.YtloflmcgbbbnjaaDoorRows
import Derived.LaidByTextLater
import Derived.SevenTiedAt
import Derived.LaidSub
import Derived.LaidOnce
namespace Go.Proofs.YtloflmcgbbbnjaaDoor
open Go
set_option maxRecDepth 100000
theorem seatTie1 : Tryd.prog.laidByTextLater [("bytes.ErrTooLarge", Rows.laid_bytes_ErrTooLarge), ("logsandtables/pub/goleveldb/leveldb/comparer.DefaultComparer", Rows.laid_logsandtables_pub_goleveldb_leveldb_comparer_DefaultComparer), ("logsandtables/pub/goleveldb/leveldb/opt.DefaultBlockRestartInterval", Rows.laid_logsandtables_pub_goleveldb_leveldb_opt_DefaultBlockRestartInterval), ("logsandtables/pub/goleveldb/leveldb/opt.DefaultBlockSize", Rows.laid_logsandtables_pub_goleveldb_leveldb_opt_DefaultBlockSize), ("logsandtables/pub/goleveldb/leveldb/opt.DefaultCompressionType", Rows.laid_logsandtables_pub_goleveldb_leveldb_opt_DefaultCompressionType)] [.sentinel, .wider, .data, .data, .data] true :=
  Program.laidByTextLater_by_one 64 8 2 (by kernel_rfl) (by kernel_rfl) (by kernel_rfl) (by kernel_rfl) (by kernel_rfl) (by kernel_rfl) (fun _ _ => by kernel_rfl)
theorem noOwnUnsafe : Tryd.pinned.checked.prog.headLifts.contains "ownunsafe" = false := by kernel_rfl
theorem tie : Tryd.prog.laidByTextLater [("bytes.ErrTooLarge", Rows.laid_bytes_ErrTooLarge)] [.sentinel] true :=
  Program.laidByTextLater.sub seatTie1 ["bytes.ErrTooLarge"] (by kernel_rfl) (by kernel_rfl)
theorem fnBlockIsStandard_row_tie : Rows.fnBlockIsStandardRow.laidByTextAt .later Tryd.pinned [.sentinel] true :=
  OpenClaim.laidByTextAt_later rfl rfl tie noOwnUnsafe
theorem tie2 : Tryd.prog.laidByTextLater [("bytes.ErrTooLarge", Rows.laid_bytes_ErrTooLarge), ("logsandtables/pub/goleveldb/leveldb/comparer.DefaultComparer", Rows.laid_logsandtables_pub_goleveldb_leveldb_comparer_DefaultComparer), ("logsandtables/pub/goleveldb/leveldb/opt.DefaultBlockRestartInterval", Rows.laid_logsandtables_pub_goleveldb_leveldb_opt_DefaultBlockRestartInterval), ("logsandtables/pub/goleveldb/leveldb/opt.DefaultBlockSize", Rows.laid_logsandtables_pub_goleveldb_leveldb_opt_DefaultBlockSize), ("logsandtables/pub/goleveldb/leveldb/opt.DefaultCompressionType", Rows.laid_logsandtables_pub_goleveldb_leveldb_opt_DefaultCompressionType)] [.sentinel, .wider, .data, .data, .data] true :=
  Program.laidByTextLater.sub seatTie1 ["bytes.ErrTooLarge", "logsandtables/pub/goleveldb/leveldb/comparer.DefaultComparer", "logsandtables/pub/goleveldb/leveldb/opt.DefaultBlockRestartInterval", "logsandtables/pub/goleveldb/leveldb/opt.DefaultBlockSize", "logsandtables/pub/goleveldb/leveldb/opt.DefaultCompressionType"] (by kernel_rfl) (by kernel_rfl)
theorem fnOrderIsAsked_row_tie : Rows.fnOrderIsAskedRow.laidByTextAt .later Tryd.pinned [.sentinel, .wider, .data, .data, .data] true :=
  OpenClaim.laidByTextAt_later rfl rfl tie2 noOwnUnsafe
theorem fnTableIsStandard_row_tie : Rows.fnTableIsStandardRow.laidByTextAt .later Tryd.pinned [.sentinel, .wider, .data, .data, .data] true :=
  OpenClaim.laidByTextAt_later rfl rfl tie2 noOwnUnsafe
theorem tie3 : Tryd.prog.laidByTextLater [("logsandtables/pub/goleveldb/leveldb/comparer.DefaultComparer", Rows.laid_logsandtables_pub_goleveldb_leveldb_comparer_DefaultComparer)] [.wider] true :=
  Program.laidByTextLater.sub seatTie1 ["logsandtables/pub/goleveldb/leveldb/comparer.DefaultComparer"] (by kernel_rfl) (by kernel_rfl)
theorem fnMerge_row_tie : Rows.fnMergeRow.laidByTextAt .later Tryd.pinned [.wider] true :=
  OpenClaim.laidByTextAt_later rfl rfl tie3 noOwnUnsafe
theorem fnBlockIsRead_row_tie : Rows.fnBlockIsReadRow.laidByTextAt .later Tryd.pinned [.wider] true :=
  OpenClaim.laidByTextAt_later rfl rfl tie3 noOwnUnsafe
theorem fnMem_row_tie : Rows.fnMemRow.laidByTextAt .later Tryd.pinned [.wider] true :=
  OpenClaim.laidByTextAt_later rfl rfl tie3 noOwnUnsafe
theorem fnOrderDoesNotMatter_row_tie : Rows.fnOrderDoesNotMatterRow.laidByTextAt .later Tryd.pinned [.wider] true :=
  OpenClaim.laidByTextAt_later rfl rfl tie3 noOwnUnsafe
theorem fnBlockIsStandardUpto_row_tie : Rows.fnBlockIsStandardUptoRow.laidByTextAt .later Tryd.pinned [.sentinel] true :=
  OpenClaim.laidByTextAt_later rfl rfl tie noOwnUnsafe
theorem fnOrderIsAskedUpto_row_tie : Rows.fnOrderIsAskedUptoRow.laidByTextAt .later Tryd.pinned [.sentinel, .wider, .data, .data, .data] true :=
  OpenClaim.laidByTextAt_later rfl rfl tie2 noOwnUnsafe
theorem fnTableIsStandardUpto_row_tie : Rows.fnTableIsStandardUptoRow.laidByTextAt .later Tryd.pinned [.sentinel, .wider, .data, .data, .data] true :=
  OpenClaim.laidByTextAt_later rfl rfl tie2 noOwnUnsafe
theorem fnMergeUpto_row_tie : Rows.fnMergeUptoRow.laidByTextAt .later Tryd.pinned [.wider] true :=
  OpenClaim.laidByTextAt_later rfl rfl tie3 noOwnUnsafe
theorem fnBlockIsReadUpto_row_tie : Rows.fnBlockIsReadUptoRow.laidByTextAt .later Tryd.pinned [.wider] true :=
  OpenClaim.laidByTextAt_later rfl rfl tie3 noOwnUnsafe
theorem fnMemUpto_row_tie : Rows.fnMemUptoRow.laidByTextAt .later Tryd.pinned [.wider] true :=
  OpenClaim.laidByTextAt_later rfl rfl tie3 noOwnUnsafe
theorem fnOrderDoesNotMatterUpto_row_tie : Rows.fnOrderDoesNotMatterUptoRow.laidByTextAt .later Tryd.pinned [.wider] true :=
  OpenClaim.laidByTextAt_later rfl rfl tie3 noOwnUnsafe
end Go.Proofs.YtloflmcgbbbnjaaDoor
