/-
  DERIVED. GIVEN WITH THE SEED: THE CARDS: each row of YtnebbmbhildomaaDoorRows.lean that lists a variable, with what it lists TIED to the program's text (the seventh form; the later family's looks); each row that meets fmt, with fmt's text TOLD by the authors' own Lean function (tested against real Go, not proved from fmt's source: count such statements apart). THE CARD IS WHAT COUNTS. Prove the row's statement (the work); the ties are given (YtnebbmbhildomaaDoorTie.lean); close each card by the builder's one call (the guide's Derived/Test/ToyasCard.lean, 'card_holds'). Laid BY PROGRAM, IN A SANDBOX (cutbox-door.mjs). By AI agents, Wed Nov 11 2026. No macro, syntax, notation, axiom, sorry.
-/
import Derived.Test.YtnebbmbhildomaaDoorRows
import GoSem.ClaimSeven
namespace Go.Proofs.YtnebbmbhildomaaDoor
namespace Rows

/-- THE TIED CARD OF 'laws.FnSeparator'. -/
def fnSeparatorCard : Claim7 := { stood := { row := fnSeparatorRow, standIns := [], harness := (true, "2443a7fae1bb257d8c1bd2775287262e45ef4858ccf96069a66474a30dbe0792"), looks := false }, kinds := [], alts := [], laidByText := true, laidKinds := [.wider], laidTests := true, laidLooks := .later }
def FnSeparatorCardSaid : Prop := Claim7.holds Tryd.pinned (.plain (OpenSpec.ofChange fnSeparatorSpec)) fnSeparatorCard

/-- THE TIED CARD OF 'laws.FnInternal'. -/
def fnInternalCard : Claim7 := { stood := { row := fnInternalRow, standIns := [], harness := (true, "2443a7fae1bb257d8c1bd2775287262e45ef4858ccf96069a66474a30dbe0792"), looks := false }, kinds := [], alts := [], laidByText := true, laidKinds := [.wider], laidTests := true, laidLooks := .later }
def FnInternalCardSaid : Prop := Claim7.holds Tryd.pinned (.plain (OpenSpec.ofChange fnInternalSpec)) fnInternalCard

/-- THE SECOND FORM's CARD OF 'laws.FnSeparator'. -/
def fnSeparatorUptoCard : Claim7 := { stood := { row := fnSeparatorUptoRow, standIns := [], harness := (true, "2443a7fae1bb257d8c1bd2775287262e45ef4858ccf96069a66474a30dbe0792"), looks := false }, kinds := [], alts := [], laidByText := true, laidKinds := [.wider], laidTests := true, laidLooks := .later }
def FnSeparatorUptoCardSaid : Prop := Claim7.holds Tryd.pinned (.plain (OpenSpec.upto fnSeparatorSpec)) fnSeparatorUptoCard

/-- THE SECOND FORM's CARD OF 'laws.FnInternal'. -/
def fnInternalUptoCard : Claim7 := { stood := { row := fnInternalUptoRow, standIns := [], harness := (true, "2443a7fae1bb257d8c1bd2775287262e45ef4858ccf96069a66474a30dbe0792"), looks := false }, kinds := [], alts := [], laidByText := true, laidKinds := [.wider], laidTests := true, laidLooks := .later }
def FnInternalUptoCardSaid : Prop := Claim7.holds Tryd.pinned (.plain (OpenSpec.upto fnInternalSpec)) fnInternalUptoCard
end Rows
end Go.Proofs.YtnebbmbhildomaaDoor
