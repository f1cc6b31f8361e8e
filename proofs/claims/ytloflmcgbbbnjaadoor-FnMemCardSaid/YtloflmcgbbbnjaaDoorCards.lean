/-
  DERIVED. GIVEN WITH THE SEED: THE CARDS: each row of YtloflmcgbbbnjaaDoorRows.lean that lists a variable, with what it lists TIED to the program's text (the seventh form; the later family's looks); each row that meets fmt, with fmt's text TOLD by the authors' own Lean function (tested against real Go, not proved from fmt's source: count such statements apart). THE CARD IS WHAT COUNTS. Prove the row's statement (the work); the ties are given (YtloflmcgbbbnjaaDoorTie.lean); close each card by the builder's one call (the guide's Derived/Test/ToyasCard.lean, 'card_holds'). Laid BY PROGRAM, IN A SANDBOX (cutbox-door.mjs). By AI agents, Wed Nov 11 2026. No macro, syntax, notation, axiom, sorry.
-/
import Derived.Test.YtloflmcgbbbnjaaDoorRows
import GoSem.ClaimSeven
namespace Go.Proofs.YtloflmcgbbbnjaaDoor
namespace Rows

/-- THE TIED CARD OF 'laws.FnBlockIsStandard'. -/
def fnBlockIsStandardCard : Claim7 := { stood := { row := fnBlockIsStandardRow, standIns := [], harness := (true, "10581a8fb55756113778fc6741a48face7b1fe5c40e7be13505d3d9ab369a648"), looks := true }, kinds := [], alts := [], laidByText := true, laidKinds := [.sentinel], laidTests := true, laidLooks := .later }
def FnBlockIsStandardCardSaid : Prop := Claim7.holds Tryd.pinned (.plain (OpenSpec.ofChange fnBlockIsStandardSpec)) fnBlockIsStandardCard

/-- THE TIED CARD OF 'laws.FnOrderIsAsked'. -/
def fnOrderIsAskedCard : Claim7 := { stood := { row := fnOrderIsAskedRow, standIns := [], harness := (true, "10581a8fb55756113778fc6741a48face7b1fe5c40e7be13505d3d9ab369a648"), looks := true }, kinds := [], alts := [], laidByText := true, laidKinds := [.sentinel, .wider, .data, .data, .data], laidTests := true, laidLooks := .later }
def FnOrderIsAskedCardSaid : Prop := Claim7.holds Tryd.pinned (.plain (OpenSpec.ofChange fnOrderIsAskedSpec)) fnOrderIsAskedCard

/-- THE TIED CARD OF 'laws.FnTableIsStandard'. -/
def fnTableIsStandardCard : Claim7 := { stood := { row := fnTableIsStandardRow, standIns := [], harness := (true, "10581a8fb55756113778fc6741a48face7b1fe5c40e7be13505d3d9ab369a648"), looks := true }, kinds := [], alts := [], laidByText := true, laidKinds := [.sentinel, .wider, .data, .data, .data], laidTests := true, laidLooks := .later }
def FnTableIsStandardCardSaid : Prop := Claim7.holds Tryd.pinned (.plain (OpenSpec.ofChange fnTableIsStandardSpec)) fnTableIsStandardCard

/-- THE TIED CARD OF 'laws.FnMerge'. -/
def fnMergeCard : Claim7 := { stood := { row := fnMergeRow, standIns := [], harness := (true, "10581a8fb55756113778fc6741a48face7b1fe5c40e7be13505d3d9ab369a648"), looks := true }, kinds := [], alts := [], laidByText := true, laidKinds := [.wider], laidTests := true, laidLooks := .later }
def FnMergeCardSaid : Prop := Claim7.holds Tryd.pinned (.plain (OpenSpec.ofChange fnMergeSpec)) fnMergeCard

/-- THE TIED CARD OF 'laws.FnBlockIsRead'. -/
def fnBlockIsReadCard : Claim7 := { stood := { row := fnBlockIsReadRow, standIns := [], harness := (true, "10581a8fb55756113778fc6741a48face7b1fe5c40e7be13505d3d9ab369a648"), looks := true }, kinds := [], alts := [], laidByText := true, laidKinds := [.wider], laidTests := true, laidLooks := .later }
def FnBlockIsReadCardSaid : Prop := Claim7.holds Tryd.pinned (.plain (OpenSpec.ofChange fnBlockIsReadSpec)) fnBlockIsReadCard

/-- THE TIED CARD OF 'laws.FnMem'. -/
def fnMemCard : Claim7 := { stood := { row := fnMemRow, standIns := [], harness := (true, "10581a8fb55756113778fc6741a48face7b1fe5c40e7be13505d3d9ab369a648"), looks := true }, kinds := [], alts := [], laidByText := true, laidKinds := [.wider], laidTests := true, laidLooks := .later }
def FnMemCardSaid : Prop := Claim7.holds Tryd.pinned (.plain (OpenSpec.ofChange fnMemSpec)) fnMemCard

/-- THE TIED CARD OF 'laws.FnOrderDoesNotMatter'. -/
def fnOrderDoesNotMatterCard : Claim7 := { stood := { row := fnOrderDoesNotMatterRow, standIns := [], harness := (true, "10581a8fb55756113778fc6741a48face7b1fe5c40e7be13505d3d9ab369a648"), looks := true }, kinds := [], alts := [], laidByText := true, laidKinds := [.wider], laidTests := true, laidLooks := .later }
def FnOrderDoesNotMatterCardSaid : Prop := Claim7.holds Tryd.pinned (.plain (OpenSpec.ofChange fnOrderDoesNotMatterSpec)) fnOrderDoesNotMatterCard

/-- THE SECOND FORM's CARD OF 'laws.FnBlockIsStandard'. -/
def fnBlockIsStandardUptoCard : Claim7 := { stood := { row := fnBlockIsStandardUptoRow, standIns := [], harness := (true, "10581a8fb55756113778fc6741a48face7b1fe5c40e7be13505d3d9ab369a648"), looks := true }, kinds := [], alts := [], laidByText := true, laidKinds := [.sentinel], laidTests := true, laidLooks := .later }
def FnBlockIsStandardUptoCardSaid : Prop := Claim7.holds Tryd.pinned (.plain (OpenSpec.upto fnBlockIsStandardSpec)) fnBlockIsStandardUptoCard

/-- THE SECOND FORM's CARD OF 'laws.FnOrderIsAsked'. -/
def fnOrderIsAskedUptoCard : Claim7 := { stood := { row := fnOrderIsAskedUptoRow, standIns := [], harness := (true, "10581a8fb55756113778fc6741a48face7b1fe5c40e7be13505d3d9ab369a648"), looks := true }, kinds := [], alts := [], laidByText := true, laidKinds := [.sentinel, .wider, .data, .data, .data], laidTests := true, laidLooks := .later }
def FnOrderIsAskedUptoCardSaid : Prop := Claim7.holds Tryd.pinned (.plain (OpenSpec.upto fnOrderIsAskedSpec)) fnOrderIsAskedUptoCard

/-- THE SECOND FORM's CARD OF 'laws.FnTableIsStandard'. -/
def fnTableIsStandardUptoCard : Claim7 := { stood := { row := fnTableIsStandardUptoRow, standIns := [], harness := (true, "10581a8fb55756113778fc6741a48face7b1fe5c40e7be13505d3d9ab369a648"), looks := true }, kinds := [], alts := [], laidByText := true, laidKinds := [.sentinel, .wider, .data, .data, .data], laidTests := true, laidLooks := .later }
def FnTableIsStandardUptoCardSaid : Prop := Claim7.holds Tryd.pinned (.plain (OpenSpec.upto fnTableIsStandardSpec)) fnTableIsStandardUptoCard

/-- THE SECOND FORM's CARD OF 'laws.FnMerge'. -/
def fnMergeUptoCard : Claim7 := { stood := { row := fnMergeUptoRow, standIns := [], harness := (true, "10581a8fb55756113778fc6741a48face7b1fe5c40e7be13505d3d9ab369a648"), looks := true }, kinds := [], alts := [], laidByText := true, laidKinds := [.wider], laidTests := true, laidLooks := .later }
def FnMergeUptoCardSaid : Prop := Claim7.holds Tryd.pinned (.plain (OpenSpec.upto fnMergeSpec)) fnMergeUptoCard

/-- THE SECOND FORM's CARD OF 'laws.FnBlockIsRead'. -/
def fnBlockIsReadUptoCard : Claim7 := { stood := { row := fnBlockIsReadUptoRow, standIns := [], harness := (true, "10581a8fb55756113778fc6741a48face7b1fe5c40e7be13505d3d9ab369a648"), looks := true }, kinds := [], alts := [], laidByText := true, laidKinds := [.wider], laidTests := true, laidLooks := .later }
def FnBlockIsReadUptoCardSaid : Prop := Claim7.holds Tryd.pinned (.plain (OpenSpec.upto fnBlockIsReadSpec)) fnBlockIsReadUptoCard

/-- THE SECOND FORM's CARD OF 'laws.FnMem'. -/
def fnMemUptoCard : Claim7 := { stood := { row := fnMemUptoRow, standIns := [], harness := (true, "10581a8fb55756113778fc6741a48face7b1fe5c40e7be13505d3d9ab369a648"), looks := true }, kinds := [], alts := [], laidByText := true, laidKinds := [.wider], laidTests := true, laidLooks := .later }
def FnMemUptoCardSaid : Prop := Claim7.holds Tryd.pinned (.plain (OpenSpec.upto fnMemSpec)) fnMemUptoCard

/-- THE SECOND FORM's CARD OF 'laws.FnOrderDoesNotMatter'. -/
def fnOrderDoesNotMatterUptoCard : Claim7 := { stood := { row := fnOrderDoesNotMatterUptoRow, standIns := [], harness := (true, "10581a8fb55756113778fc6741a48face7b1fe5c40e7be13505d3d9ab369a648"), looks := true }, kinds := [], alts := [], laidByText := true, laidKinds := [.wider], laidTests := true, laidLooks := .later }
def FnOrderDoesNotMatterUptoCardSaid : Prop := Claim7.holds Tryd.pinned (.plain (OpenSpec.upto fnOrderDoesNotMatterSpec)) fnOrderDoesNotMatterUptoCard
end Rows
end Go.Proofs.YtloflmcgbbbnjaaDoor
