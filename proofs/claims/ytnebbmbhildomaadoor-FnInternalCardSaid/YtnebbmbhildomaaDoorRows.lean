/-
  NARROWER THAN 'FOR EVERY INPUT', by the rows' own cells (each row's printed sentence says how): FnSeparator: laid · FnInternal: laid.
  DERIVED. THE GIVEN ROWS OF THIS SEAT. 2 by the template 'for every input the law returns true; each argument reads behind the call as it read before'; 0 by the template 'total and deterministic' (their statements: YtnebbmbhildomaaDoorTotals.lean).
  GIVEN WITH THE SEED: the statements are not yours to turn. If you find one false, say at which input.
  Laid BY PROGRAM, IN A SANDBOX (cutbox-rows.mjs): the forced cells as the released guide's own fill.sh prints them over the translation 0308f31493a775d6… (all of the seat's roots in one cut). By AI agents, Wed Nov 11 2026. No macro, syntax, notation, axiom, sorry.
-/
import Derived.Test.YtnebbmbhildomaaDoorChecked
import GoSem.Claim
import GoSem.ClaimJoined
import GoSem.ClaimMapViews
import Derived.JoinedTies
import Derived.KernelRfl
namespace Go.Proofs.YtnebbmbhildomaaDoor
/- THE CELL 'sum', in the pinned program and in every row, IS THE sha256 OF THE DUMP (.gsa) THAT YtnebbmbhildomaaDoorProg.lean LOADS. Nothing in Lean hashes anything: it is a label: what it is worth is what the hold of that sum in a sandbox is worth. -/
noncomputable def Tryd.pinned : Pinned := { name := "ytnebbmbhildomaadoor", sum := "0308f31493a775d6073a6028488a923102cf5a9d9de1e7f274d8015e4e98e240", checked := Tryd.checked }
namespace Rows
def none {H : Type} : Left H := { results := [], args := [] }

/- WHAT THE LISTED PACKAGE-LEVEL VARIABLES READ AS WHEN THE CALL BEGINS. Each datum BY PROGRAM (the guide's laid-datum.mjs) off the statement by which the dump's own 'gosem.cut.vars' lays the variable. In a bare row this is a premise. The card (YtnebbmbhildomaaDoorCards.lean) ties it to the program's text. -/
def laid_logsandtables_pub_goleveldb_leveldb_comparer_DefaultComparer {H : Type} : DataW H := .agg []

/-- 'laws.FnSeparator': WHATEVER THE INPUT: true; the input reads as it did. -/
def fnSeparatorSpec : ChangeSpec := { name := "fnSeparator", fn := fun _ => fun
  | [d1, d2] => { results := [.lit (.bool true)], args := [d1, d2] }
  | _ => none }
def fnSeparatorRow : OpenClaim := { program := "ytnebbmbhildomaadoor", sum := "0308f31493a775d6073a6028488a923102cf5a9d9de1e7f274d8015e4e98e240", func := "logsandtables/laws.FnSeparator", spec := "fnSeparator", named := ["logsandtables/pub/goleveldb/leveldb/comparer.DefaultComparer"], apart := false, laid := [("logsandtables/pub/goleveldb/leveldb/comparer.DefaultComparer", laid_logsandtables_pub_goleveldb_leveldb_comparer_DefaultComparer)] }
def FnSeparatorSaid : Prop := fnSeparatorRow.holds Tryd.pinned (OpenSpec.ofChange fnSeparatorSpec)

/-- ITS FALSE NEIGHBOUR: 'it returns false'. Refute it at one input. -/
def fnSeparatorWrong : ChangeSpec := { name := "fnSeparator", fn := fun _ => fun
  | [d1, d2] => { results := [.lit (.bool false)], args := [d1, d2] }
  | _ => none }
def FnSeparatorWrongFalsely : Prop := fnSeparatorRow.holds Tryd.pinned (OpenSpec.ofChange fnSeparatorWrong)

/-- 'laws.FnInternal': WHATEVER THE INPUT: true; the input reads as it did. -/
def fnInternalSpec : ChangeSpec := { name := "fnInternal", fn := fun _ => fun
  | [d1, d2, d3, d4, d5, d6] => { results := [.lit (.bool true)], args := [d1, d2, d3, d4, d5, d6] }
  | _ => none }
def fnInternalRow : OpenClaim := { program := "ytnebbmbhildomaadoor", sum := "0308f31493a775d6073a6028488a923102cf5a9d9de1e7f274d8015e4e98e240", func := "logsandtables/laws.FnInternal", spec := "fnInternal", unfollowed := true, recurses := true, named := ["encoding/binary.LittleEndian", "logsandtables/pub/goleveldb/leveldb/comparer.DefaultComparer"], apart := false, laid := [("logsandtables/pub/goleveldb/leveldb/comparer.DefaultComparer", laid_logsandtables_pub_goleveldb_leveldb_comparer_DefaultComparer)] }
def FnInternalSaid : Prop := fnInternalRow.holds Tryd.pinned (OpenSpec.ofChange fnInternalSpec)

/-- ITS FALSE NEIGHBOUR: 'it returns false'. Refute it at one input. -/
def fnInternalWrong : ChangeSpec := { name := "fnInternal", fn := fun _ => fun
  | [d1, d2, d3, d4, d5, d6] => { results := [.lit (.bool false)], args := [d1, d2, d3, d4, d5, d6] }
  | _ => none }
def FnInternalWrongFalsely : Prop := fnInternalRow.holds Tryd.pinned (OpenSpec.ofChange fnInternalWrong)

/- THE SECOND FORM. 'bulk': how many values and letters a reading holds, each counted each time it is reached (what is shared counts as often as it is met; a slice's spare places count too). A statement '..UptoSaid' is the law's where the arguments, and the package variables that the reading takes, are together of bulk at most 1048576: NARROWER than '..Said'. Prove '..Said' where nothing that the law and all that it calls make is longer than what came in: it says more and counts as full. Else prove '..UptoSaid'. A law counts once. -/
mutual
def uptoBulk {H : Type} : DataW H → Nat
  | .lit (.string bytes) => bytes.length + 1
  | .lit _ => 1
  | .nil => 1
  | .ptr d => uptoBulk d + 1
  | .slice elems spare => uptoBulkAll elems + uptoBulkAll spare + 1
  | .agg parts => uptoBulkAll parts + 1
  | .iface _ d => uptoBulk d + 1
  | .map entries => uptoBulkEntries entries + 1
  | .held _ => 1
def uptoBulkAll {H : Type} : List (DataW H) → Nat
  | [] => 0
  | d :: r => uptoBulk d + uptoBulkAll r
def uptoBulkEntries {H : Type} : List (Lit × DataW H) → Nat
  | [] => 0
  | x :: r => uptoBulkEntry x + uptoBulkEntries r
def uptoBulkEntry {H : Type} : Lit × DataW H → Nat
  | (.string bytes, d) => bytes.length + uptoBulk d + 1
  | (_, d) => uptoBulk d + 1
 end
def uptoSmall : (H : Type) → List (DataW H) → Bool := fun _ ds => decide (uptoBulkAll ds ≤ 1048576)
def OpenSpec.upto (s : _root_.Go.ChangeSpec) : _root_.Go.OpenSpec := { _root_.Go.OpenSpec.ofChange s with cond := some uptoSmall }

/-- 'laws.FnSeparator', WHERE WHAT IT READS IS OF BULK AT MOST 1048576: true; the input reads as it did. -/
def fnSeparatorUptoRow : OpenClaim := { program := "ytnebbmbhildomaadoor", sum := "0308f31493a775d6073a6028488a923102cf5a9d9de1e7f274d8015e4e98e240", func := "logsandtables/laws.FnSeparator", spec := "fnSeparator", named := ["logsandtables/pub/goleveldb/leveldb/comparer.DefaultComparer"], apart := false, laid := [("logsandtables/pub/goleveldb/leveldb/comparer.DefaultComparer", laid_logsandtables_pub_goleveldb_leveldb_comparer_DefaultComparer)], narrowed := true }
def FnSeparatorUptoSaid : Prop := fnSeparatorUptoRow.holds Tryd.pinned (OpenSpec.upto fnSeparatorSpec)

/-- 'laws.FnInternal', WHERE WHAT IT READS IS OF BULK AT MOST 1048576: true; the input reads as it did. -/
def fnInternalUptoRow : OpenClaim := { program := "ytnebbmbhildomaadoor", sum := "0308f31493a775d6073a6028488a923102cf5a9d9de1e7f274d8015e4e98e240", func := "logsandtables/laws.FnInternal", spec := "fnInternal", unfollowed := true, recurses := true, named := ["encoding/binary.LittleEndian", "logsandtables/pub/goleveldb/leveldb/comparer.DefaultComparer"], apart := false, laid := [("logsandtables/pub/goleveldb/leveldb/comparer.DefaultComparer", laid_logsandtables_pub_goleveldb_leveldb_comparer_DefaultComparer)], narrowed := true }
def FnInternalUptoSaid : Prop := fnInternalUptoRow.holds Tryd.pinned (OpenSpec.upto fnInternalSpec)

end Rows
end Go.Proofs.YtnebbmbhildomaaDoor
