/-
  NARROWER THAN 'FOR EVERY INPUT', by the rows' own cells (each row's printed sentence says how): FnBlockIsStandard: laid · FnOrderIsAsked: laid · FnTableIsStandard: laid · FnMerge: laid · FnBlockIsRead: laid · FnMem: laid · FnOrderDoesNotMatter: laid.
  DERIVED. THE GIVEN ROWS OF THIS SEAT. 7 by the template 'for every input the law returns true; each argument reads behind the call as it read before'; 0 by the template 'total and deterministic' (their statements: YtloflmcgbbbnjaaDoorTotals.lean).
  GIVEN WITH THE SEED: the statements are not yours to turn. If you find one false, say at which input.
  Laid BY PROGRAM, IN A SANDBOX (cutbox-rows.mjs): the forced cells as the released guide's own fill.sh prints them over the translation 047cbec92f2bc8e5… (all of the seat's roots in one cut). By AI agents, Wed Nov 11 2026. No macro, syntax, notation, axiom, sorry.
-/
import Derived.Test.YtloflmcgbbbnjaaDoorChecked
import GoSem.Claim
import GoSem.ClaimJoined
import GoSem.ClaimMapViews
import Derived.JoinedTies
import Derived.KernelRfl
namespace Go.Proofs.YtloflmcgbbbnjaaDoor
/- THE CELL 'sum', in the pinned program and in every row, IS THE sha256 OF THE DUMP (.gsa) THAT YtloflmcgbbbnjaaDoorProg.lean LOADS. Nothing in Lean hashes anything: it is a label: what it is worth is what the hold of that sum in a sandbox is worth. -/
noncomputable def Tryd.pinned : Pinned := { name := "ytloflmcgbbbnjaadoor", sum := "047cbec92f2bc8e5acb361a1edaa6e521af960d1c7d3e9a9bc81fcf82fb86f82", checked := Tryd.checked }
namespace Rows
def none {H : Type} : Left H := { results := [], args := [] }

/- WHAT THE LISTED PACKAGE-LEVEL VARIABLES READ AS WHEN THE CALL BEGINS. Each datum BY PROGRAM (the guide's laid-datum.mjs) off the statement by which the dump's own 'gosem.cut.vars' lays the variable. In a bare row this is a premise. The card (YtloflmcgbbbnjaaDoorCards.lean) ties it to the program's text. -/
def laid_bytes_ErrTooLarge {H : Type} : DataW H := .iface "*errors.errorString" (.ptr (.agg [.lit (.string [98, 121, 116, 101, 115, 46, 66, 117, 102, 102, 101, 114, 58, 32, 116, 111, 111, 32, 108, 97, 114, 103, 101])]))
def laid_logsandtables_pub_goleveldb_leveldb_comparer_DefaultComparer {H : Type} : DataW H := .agg []
def laid_logsandtables_pub_goleveldb_leveldb_opt_DefaultBlockRestartInterval {H : Type} : DataW H := .lit (.int .i64 16)
def laid_logsandtables_pub_goleveldb_leveldb_opt_DefaultBlockSize {H : Type} : DataW H := .lit (.int .i64 4096)
def laid_logsandtables_pub_goleveldb_leveldb_opt_DefaultCompressionType {H : Type} : DataW H := .lit (.int .u64 2)

/-- 'laws.FnBlockIsStandard': WHATEVER THE INPUT: true; the input reads as it did. -/
def fnBlockIsStandardSpec : ChangeSpec := { name := "fnBlockIsStandard", fn := fun _ => fun
  | [d1, d2] => { results := [.lit (.bool true)], args := [d1, d2] }
  | _ => none }
def fnBlockIsStandardRow : OpenClaim := { program := "ytloflmcgbbbnjaadoor", sum := "047cbec92f2bc8e5acb361a1edaa6e521af960d1c7d3e9a9bc81fcf82fb86f82", func := "logsandtables/laws.FnBlockIsStandard", spec := "fnBlockIsStandard", named := ["bytes.ErrTooLarge", "encoding/binary.LittleEndian"], apart := false, laid := [("bytes.ErrTooLarge", laid_bytes_ErrTooLarge)] }
def FnBlockIsStandardSaid : Prop := fnBlockIsStandardRow.holds Tryd.pinned (OpenSpec.ofChange fnBlockIsStandardSpec)

/-- ITS FALSE NEIGHBOUR: 'it returns false'. Refute it at one input. -/
def fnBlockIsStandardWrong : ChangeSpec := { name := "fnBlockIsStandard", fn := fun _ => fun
  | [d1, d2] => { results := [.lit (.bool false)], args := [d1, d2] }
  | _ => none }
def FnBlockIsStandardWrongFalsely : Prop := fnBlockIsStandardRow.holds Tryd.pinned (OpenSpec.ofChange fnBlockIsStandardWrong)

/-- 'laws.FnOrderIsAsked': WHATEVER THE INPUT: true; the input reads as it did. -/
def fnOrderIsAskedSpec : ChangeSpec := { name := "fnOrderIsAsked", fn := fun _ => fun
  | [d1, d2] => { results := [.lit (.bool true)], args := [d1, d2] }
  | _ => none }
def fnOrderIsAskedRow : OpenClaim := { program := "ytloflmcgbbbnjaadoor", sum := "047cbec92f2bc8e5acb361a1edaa6e521af960d1c7d3e9a9bc81fcf82fb86f82", func := "logsandtables/laws.FnOrderIsAsked", spec := "fnOrderIsAsked", unfollowed := true, recurses := true, named := ["logsandtables/pub/goleveldb/leveldb/comparer.DefaultComparer", "logsandtables/pub/goleveldb/leveldb/opt.DefaultCompressionType", "logsandtables/pub/goleveldb/leveldb/opt.DefaultBlockSize", "logsandtables/pub/goleveldb/leveldb/opt.DefaultBlockRestartInterval", "bytes.ErrTooLarge", "encoding/binary.LittleEndian"], apart := false, laid := [("bytes.ErrTooLarge", laid_bytes_ErrTooLarge), ("logsandtables/pub/goleveldb/leveldb/comparer.DefaultComparer", laid_logsandtables_pub_goleveldb_leveldb_comparer_DefaultComparer), ("logsandtables/pub/goleveldb/leveldb/opt.DefaultBlockRestartInterval", laid_logsandtables_pub_goleveldb_leveldb_opt_DefaultBlockRestartInterval), ("logsandtables/pub/goleveldb/leveldb/opt.DefaultBlockSize", laid_logsandtables_pub_goleveldb_leveldb_opt_DefaultBlockSize), ("logsandtables/pub/goleveldb/leveldb/opt.DefaultCompressionType", laid_logsandtables_pub_goleveldb_leveldb_opt_DefaultCompressionType)] }
def FnOrderIsAskedSaid : Prop := fnOrderIsAskedRow.holds Tryd.pinned (OpenSpec.ofChange fnOrderIsAskedSpec)

/-- ITS FALSE NEIGHBOUR: 'it returns false'. Refute it at one input. -/
def fnOrderIsAskedWrong : ChangeSpec := { name := "fnOrderIsAsked", fn := fun _ => fun
  | [d1, d2] => { results := [.lit (.bool false)], args := [d1, d2] }
  | _ => none }
def FnOrderIsAskedWrongFalsely : Prop := fnOrderIsAskedRow.holds Tryd.pinned (OpenSpec.ofChange fnOrderIsAskedWrong)

/-- 'laws.FnTableIsStandard': WHATEVER THE INPUT: true; the input reads as it did. -/
def fnTableIsStandardSpec : ChangeSpec := { name := "fnTableIsStandard", fn := fun _ => fun
  | [d1, d2] => { results := [.lit (.bool true)], args := [d1, d2] }
  | _ => none }
def fnTableIsStandardRow : OpenClaim := { program := "ytloflmcgbbbnjaadoor", sum := "047cbec92f2bc8e5acb361a1edaa6e521af960d1c7d3e9a9bc81fcf82fb86f82", func := "logsandtables/laws.FnTableIsStandard", spec := "fnTableIsStandard", unfollowed := true, recurses := true, named := ["logsandtables/pub/goleveldb/leveldb/comparer.DefaultComparer", "logsandtables/pub/goleveldb/leveldb/opt.DefaultCompressionType", "logsandtables/pub/goleveldb/leveldb/opt.DefaultBlockSize", "logsandtables/pub/goleveldb/leveldb/opt.DefaultBlockRestartInterval", "bytes.ErrTooLarge", "encoding/binary.LittleEndian"], apart := false, laid := [("bytes.ErrTooLarge", laid_bytes_ErrTooLarge), ("logsandtables/pub/goleveldb/leveldb/comparer.DefaultComparer", laid_logsandtables_pub_goleveldb_leveldb_comparer_DefaultComparer), ("logsandtables/pub/goleveldb/leveldb/opt.DefaultBlockRestartInterval", laid_logsandtables_pub_goleveldb_leveldb_opt_DefaultBlockRestartInterval), ("logsandtables/pub/goleveldb/leveldb/opt.DefaultBlockSize", laid_logsandtables_pub_goleveldb_leveldb_opt_DefaultBlockSize), ("logsandtables/pub/goleveldb/leveldb/opt.DefaultCompressionType", laid_logsandtables_pub_goleveldb_leveldb_opt_DefaultCompressionType)] }
def FnTableIsStandardSaid : Prop := fnTableIsStandardRow.holds Tryd.pinned (OpenSpec.ofChange fnTableIsStandardSpec)

/-- ITS FALSE NEIGHBOUR: 'it returns false'. Refute it at one input. -/
def fnTableIsStandardWrong : ChangeSpec := { name := "fnTableIsStandard", fn := fun _ => fun
  | [d1, d2] => { results := [.lit (.bool false)], args := [d1, d2] }
  | _ => none }
def FnTableIsStandardWrongFalsely : Prop := fnTableIsStandardRow.holds Tryd.pinned (OpenSpec.ofChange fnTableIsStandardWrong)

/-- 'laws.FnMerge': WHATEVER THE INPUT: true; the input reads as it did. -/
def fnMergeSpec : ChangeSpec := { name := "fnMerge", fn := fun _ => fun
  | [d1, d2, d3] => { results := [.lit (.bool true)], args := [d1, d2, d3] }
  | _ => none }
def fnMergeRow : OpenClaim := { program := "ytloflmcgbbbnjaadoor", sum := "047cbec92f2bc8e5acb361a1edaa6e521af960d1c7d3e9a9bc81fcf82fb86f82", func := "logsandtables/laws.FnMerge", spec := "fnMerge", unfollowed := true, recurses := true, named := ["logsandtables/pub/goleveldb/leveldb/comparer.DefaultComparer"], apart := false, laid := [("logsandtables/pub/goleveldb/leveldb/comparer.DefaultComparer", laid_logsandtables_pub_goleveldb_leveldb_comparer_DefaultComparer)] }
def FnMergeSaid : Prop := fnMergeRow.holds Tryd.pinned (OpenSpec.ofChange fnMergeSpec)

/-- ITS FALSE NEIGHBOUR: 'it returns false'. Refute it at one input. -/
def fnMergeWrong : ChangeSpec := { name := "fnMerge", fn := fun _ => fun
  | [d1, d2, d3] => { results := [.lit (.bool false)], args := [d1, d2, d3] }
  | _ => none }
def FnMergeWrongFalsely : Prop := fnMergeRow.holds Tryd.pinned (OpenSpec.ofChange fnMergeWrong)

/-- 'laws.FnBlockIsRead': WHATEVER THE INPUT: true; the input reads as it did. -/
def fnBlockIsReadSpec : ChangeSpec := { name := "fnBlockIsRead", fn := fun _ => fun
  | [d1, d2, d3, d4] => { results := [.lit (.bool true)], args := [d1, d2, d3, d4] }
  | _ => none }
def fnBlockIsReadRow : OpenClaim := { program := "ytloflmcgbbbnjaadoor", sum := "047cbec92f2bc8e5acb361a1edaa6e521af960d1c7d3e9a9bc81fcf82fb86f82", func := "logsandtables/laws.FnBlockIsRead", spec := "fnBlockIsRead", unfollowed := true, recurses := true, named := ["logsandtables/pub/goleveldb/leveldb/comparer.DefaultComparer", "encoding/binary.LittleEndian"], apart := false, laid := [("logsandtables/pub/goleveldb/leveldb/comparer.DefaultComparer", laid_logsandtables_pub_goleveldb_leveldb_comparer_DefaultComparer)] }
def FnBlockIsReadSaid : Prop := fnBlockIsReadRow.holds Tryd.pinned (OpenSpec.ofChange fnBlockIsReadSpec)

/-- ITS FALSE NEIGHBOUR: 'it returns false'. Refute it at one input. -/
def fnBlockIsReadWrong : ChangeSpec := { name := "fnBlockIsRead", fn := fun _ => fun
  | [d1, d2, d3, d4] => { results := [.lit (.bool false)], args := [d1, d2, d3, d4] }
  | _ => none }
def FnBlockIsReadWrongFalsely : Prop := fnBlockIsReadRow.holds Tryd.pinned (OpenSpec.ofChange fnBlockIsReadWrong)

/-- 'laws.FnMem': WHATEVER THE INPUT: true; the input reads as it did. -/
def fnMemSpec : ChangeSpec := { name := "fnMem", fn := fun _ => fun
  | [d] => { results := [.lit (.bool true)], args := [d] }
  | _ => none }
def fnMemRow : OpenClaim := { program := "ytloflmcgbbbnjaadoor", sum := "047cbec92f2bc8e5acb361a1edaa6e521af960d1c7d3e9a9bc81fcf82fb86f82", func := "logsandtables/laws.FnMem", spec := "fnMem", unfollowed := true, recurses := true, named := ["logsandtables/pub/goleveldb/leveldb/comparer.DefaultComparer"], apart := false, laid := [("logsandtables/pub/goleveldb/leveldb/comparer.DefaultComparer", laid_logsandtables_pub_goleveldb_leveldb_comparer_DefaultComparer)] }
def FnMemSaid : Prop := fnMemRow.holds Tryd.pinned (OpenSpec.ofChange fnMemSpec)

/-- ITS FALSE NEIGHBOUR: 'it returns false'. Refute it at one input. -/
def fnMemWrong : ChangeSpec := { name := "fnMem", fn := fun _ => fun
  | [d] => { results := [.lit (.bool false)], args := [d] }
  | _ => none }
def FnMemWrongFalsely : Prop := fnMemRow.holds Tryd.pinned (OpenSpec.ofChange fnMemWrong)

/-- 'laws.FnOrderDoesNotMatter': WHATEVER THE INPUT: true; the input reads as it did. -/
def fnOrderDoesNotMatterSpec : ChangeSpec := { name := "fnOrderDoesNotMatter", fn := fun _ => fun
  | [d1, d2] => { results := [.lit (.bool true)], args := [d1, d2] }
  | _ => none }
def fnOrderDoesNotMatterRow : OpenClaim := { program := "ytloflmcgbbbnjaadoor", sum := "047cbec92f2bc8e5acb361a1edaa6e521af960d1c7d3e9a9bc81fcf82fb86f82", func := "logsandtables/laws.FnOrderDoesNotMatter", spec := "fnOrderDoesNotMatter", unfollowed := true, recurses := true, named := ["logsandtables/pub/goleveldb/leveldb/comparer.DefaultComparer"], apart := false, laid := [("logsandtables/pub/goleveldb/leveldb/comparer.DefaultComparer", laid_logsandtables_pub_goleveldb_leveldb_comparer_DefaultComparer)] }
def FnOrderDoesNotMatterSaid : Prop := fnOrderDoesNotMatterRow.holds Tryd.pinned (OpenSpec.ofChange fnOrderDoesNotMatterSpec)

/-- ITS FALSE NEIGHBOUR: 'it returns false'. Refute it at one input. -/
def fnOrderDoesNotMatterWrong : ChangeSpec := { name := "fnOrderDoesNotMatter", fn := fun _ => fun
  | [d1, d2] => { results := [.lit (.bool false)], args := [d1, d2] }
  | _ => none }
def FnOrderDoesNotMatterWrongFalsely : Prop := fnOrderDoesNotMatterRow.holds Tryd.pinned (OpenSpec.ofChange fnOrderDoesNotMatterWrong)

/- THE SECOND FORM. 'bulk': how many values and letters a reading holds, each counted each time it is reached (what is shared counts as often as it is met; a slice's spare places count too). A statement '..UptoSaid' is the law's where the arguments, and the package variables that the reading takes, are together of bulk at most 1048576: NARROWER than '..Said'. Prove '..Said' where nothing that the law and all that it calls make is longer than what came in: it says more and counts as full. Else prove '..UptoSaid'. A law counts once. -/
mutual
def uptoBulk {H : Type} : DataW H → Nat
  | .lit (.string bytes) => bytes.length + 1
  | .lit _ => 1
  | .nil => 1
  | .ptr d => uptoBulk d + 1
  | .slice elems spare => uptoBulkAll elems + uptoBulkAll spare + 1
  | .agg parts => uptoBulkAll parts + 1
  | .iface _ d => uptoBulk d + 1
  | .map entries => uptoBulkEntries entries + 1
  | .held _ => 1
def uptoBulkAll {H : Type} : List (DataW H) → Nat
  | [] => 0
  | d :: r => uptoBulk d + uptoBulkAll r
def uptoBulkEntries {H : Type} : List (Lit × DataW H) → Nat
  | [] => 0
  | x :: r => uptoBulkEntry x + uptoBulkEntries r
def uptoBulkEntry {H : Type} : Lit × DataW H → Nat
  | (.string bytes, d) => bytes.length + uptoBulk d + 1
  | (_, d) => uptoBulk d + 1
 end
def uptoSmall : (H : Type) → List (DataW H) → Bool := fun _ ds => decide (uptoBulkAll ds ≤ 1048576)
def OpenSpec.upto (s : _root_.Go.ChangeSpec) : _root_.Go.OpenSpec := { _root_.Go.OpenSpec.ofChange s with cond := some uptoSmall }

/-- 'laws.FnBlockIsStandard', WHERE WHAT IT READS IS OF BULK AT MOST 1048576: true; the input reads as it did. -/
def fnBlockIsStandardUptoRow : OpenClaim := { program := "ytloflmcgbbbnjaadoor", sum := "047cbec92f2bc8e5acb361a1edaa6e521af960d1c7d3e9a9bc81fcf82fb86f82", func := "logsandtables/laws.FnBlockIsStandard", spec := "fnBlockIsStandard", named := ["bytes.ErrTooLarge", "encoding/binary.LittleEndian"], apart := false, laid := [("bytes.ErrTooLarge", laid_bytes_ErrTooLarge)], narrowed := true }
def FnBlockIsStandardUptoSaid : Prop := fnBlockIsStandardUptoRow.holds Tryd.pinned (OpenSpec.upto fnBlockIsStandardSpec)

/-- 'laws.FnOrderIsAsked', WHERE WHAT IT READS IS OF BULK AT MOST 1048576: true; the input reads as it did. -/
def fnOrderIsAskedUptoRow : OpenClaim := { program := "ytloflmcgbbbnjaadoor", sum := "047cbec92f2bc8e5acb361a1edaa6e521af960d1c7d3e9a9bc81fcf82fb86f82", func := "logsandtables/laws.FnOrderIsAsked", spec := "fnOrderIsAsked", unfollowed := true, recurses := true, named := ["logsandtables/pub/goleveldb/leveldb/comparer.DefaultComparer", "logsandtables/pub/goleveldb/leveldb/opt.DefaultCompressionType", "logsandtables/pub/goleveldb/leveldb/opt.DefaultBlockSize", "logsandtables/pub/goleveldb/leveldb/opt.DefaultBlockRestartInterval", "bytes.ErrTooLarge", "encoding/binary.LittleEndian"], apart := false, laid := [("bytes.ErrTooLarge", laid_bytes_ErrTooLarge), ("logsandtables/pub/goleveldb/leveldb/comparer.DefaultComparer", laid_logsandtables_pub_goleveldb_leveldb_comparer_DefaultComparer), ("logsandtables/pub/goleveldb/leveldb/opt.DefaultBlockRestartInterval", laid_logsandtables_pub_goleveldb_leveldb_opt_DefaultBlockRestartInterval), ("logsandtables/pub/goleveldb/leveldb/opt.DefaultBlockSize", laid_logsandtables_pub_goleveldb_leveldb_opt_DefaultBlockSize), ("logsandtables/pub/goleveldb/leveldb/opt.DefaultCompressionType", laid_logsandtables_pub_goleveldb_leveldb_opt_DefaultCompressionType)], narrowed := true }
def FnOrderIsAskedUptoSaid : Prop := fnOrderIsAskedUptoRow.holds Tryd.pinned (OpenSpec.upto fnOrderIsAskedSpec)

/-- 'laws.FnTableIsStandard', WHERE WHAT IT READS IS OF BULK AT MOST 1048576: true; the input reads as it did. -/
def fnTableIsStandardUptoRow : OpenClaim := { program := "ytloflmcgbbbnjaadoor", sum := "047cbec92f2bc8e5acb361a1edaa6e521af960d1c7d3e9a9bc81fcf82fb86f82", func := "logsandtables/laws.FnTableIsStandard", spec := "fnTableIsStandard", unfollowed := true, recurses := true, named := ["logsandtables/pub/goleveldb/leveldb/comparer.DefaultComparer", "logsandtables/pub/goleveldb/leveldb/opt.DefaultCompressionType", "logsandtables/pub/goleveldb/leveldb/opt.DefaultBlockSize", "logsandtables/pub/goleveldb/leveldb/opt.DefaultBlockRestartInterval", "bytes.ErrTooLarge", "encoding/binary.LittleEndian"], apart := false, laid := [("bytes.ErrTooLarge", laid_bytes_ErrTooLarge), ("logsandtables/pub/goleveldb/leveldb/comparer.DefaultComparer", laid_logsandtables_pub_goleveldb_leveldb_comparer_DefaultComparer), ("logsandtables/pub/goleveldb/leveldb/opt.DefaultBlockRestartInterval", laid_logsandtables_pub_goleveldb_leveldb_opt_DefaultBlockRestartInterval), ("logsandtables/pub/goleveldb/leveldb/opt.DefaultBlockSize", laid_logsandtables_pub_goleveldb_leveldb_opt_DefaultBlockSize), ("logsandtables/pub/goleveldb/leveldb/opt.DefaultCompressionType", laid_logsandtables_pub_goleveldb_leveldb_opt_DefaultCompressionType)], narrowed := true }
def FnTableIsStandardUptoSaid : Prop := fnTableIsStandardUptoRow.holds Tryd.pinned (OpenSpec.upto fnTableIsStandardSpec)

/-- 'laws.FnMerge', WHERE WHAT IT READS IS OF BULK AT MOST 1048576: true; the input reads as it did. -/
def fnMergeUptoRow : OpenClaim := { program := "ytloflmcgbbbnjaadoor", sum := "047cbec92f2bc8e5acb361a1edaa6e521af960d1c7d3e9a9bc81fcf82fb86f82", func := "logsandtables/laws.FnMerge", spec := "fnMerge", unfollowed := true, recurses := true, named := ["logsandtables/pub/goleveldb/leveldb/comparer.DefaultComparer"], apart := false, laid := [("logsandtables/pub/goleveldb/leveldb/comparer.DefaultComparer", laid_logsandtables_pub_goleveldb_leveldb_comparer_DefaultComparer)], narrowed := true }
def FnMergeUptoSaid : Prop := fnMergeUptoRow.holds Tryd.pinned (OpenSpec.upto fnMergeSpec)

/-- 'laws.FnBlockIsRead', WHERE WHAT IT READS IS OF BULK AT MOST 1048576: true; the input reads as it did. -/
def fnBlockIsReadUptoRow : OpenClaim := { program := "ytloflmcgbbbnjaadoor", sum := "047cbec92f2bc8e5acb361a1edaa6e521af960d1c7d3e9a9bc81fcf82fb86f82", func := "logsandtables/laws.FnBlockIsRead", spec := "fnBlockIsRead", unfollowed := true, recurses := true, named := ["logsandtables/pub/goleveldb/leveldb/comparer.DefaultComparer", "encoding/binary.LittleEndian"], apart := false, laid := [("logsandtables/pub/goleveldb/leveldb/comparer.DefaultComparer", laid_logsandtables_pub_goleveldb_leveldb_comparer_DefaultComparer)], narrowed := true }
def FnBlockIsReadUptoSaid : Prop := fnBlockIsReadUptoRow.holds Tryd.pinned (OpenSpec.upto fnBlockIsReadSpec)

/-- 'laws.FnMem', WHERE WHAT IT READS IS OF BULK AT MOST 1048576: true; the input reads as it did. -/
def fnMemUptoRow : OpenClaim := { program := "ytloflmcgbbbnjaadoor", sum := "047cbec92f2bc8e5acb361a1edaa6e521af960d1c7d3e9a9bc81fcf82fb86f82", func := "logsandtables/laws.FnMem", spec := "fnMem", unfollowed := true, recurses := true, named := ["logsandtables/pub/goleveldb/leveldb/comparer.DefaultComparer"], apart := false, laid := [("logsandtables/pub/goleveldb/leveldb/comparer.DefaultComparer", laid_logsandtables_pub_goleveldb_leveldb_comparer_DefaultComparer)], narrowed := true }
def FnMemUptoSaid : Prop := fnMemUptoRow.holds Tryd.pinned (OpenSpec.upto fnMemSpec)

/-- 'laws.FnOrderDoesNotMatter', WHERE WHAT IT READS IS OF BULK AT MOST 1048576: true; the input reads as it did. -/
def fnOrderDoesNotMatterUptoRow : OpenClaim := { program := "ytloflmcgbbbnjaadoor", sum := "047cbec92f2bc8e5acb361a1edaa6e521af960d1c7d3e9a9bc81fcf82fb86f82", func := "logsandtables/laws.FnOrderDoesNotMatter", spec := "fnOrderDoesNotMatter", unfollowed := true, recurses := true, named := ["logsandtables/pub/goleveldb/leveldb/comparer.DefaultComparer"], apart := false, laid := [("logsandtables/pub/goleveldb/leveldb/comparer.DefaultComparer", laid_logsandtables_pub_goleveldb_leveldb_comparer_DefaultComparer)], narrowed := true }
def FnOrderDoesNotMatterUptoSaid : Prop := fnOrderDoesNotMatterUptoRow.holds Tryd.pinned (OpenSpec.upto fnOrderDoesNotMatterSpec)

end Rows
end Go.Proofs.YtloflmcgbbbnjaaDoor
