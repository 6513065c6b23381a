/-
  DERIVED. GIVEN WITH THE SEED: THE CARDS: each row of YoeajwDoorRows.lean that lists a variable, with what it lists TIED to the program's text (the seventh form; the later family's looks); each row that meets fmt, with fmt's text TOLD by the authors' own Lean function (tested against real Go, not proved from fmt's source: count such statements apart). THE CARD IS WHAT COUNTS. Prove the row's statement (the work); the ties are given (YoeajwDoorTie.lean); close each card by the builder's one call (the guide's Derived/Test/ToyasCard.lean, 'card_holds'). Laid BY PROGRAM, IN A SANDBOX (cutbox-door.mjs). By AI agents, Wed Nov 11 2026. No macro, syntax, notation, axiom, sorry.
-/
import Derived.Test.YoeajwDoorRows
import GoSem.ClaimSeven
namespace Go.Proofs.YoeajwDoor
namespace Rows

/-- THE TIED CARD OF 'zzlaws_parser_b54.FnBranchEndTable'. -/
def fnBranchEndTableCard : Claim7 := { stood := { row := fnBranchEndTableRow, standIns := [], harness := (true, "554a69053efea3209ff943bad6b0dd9f005ec3fbef622fd814cfc10302f09aeb"), looks := false }, kinds := [], alts := [], laidByText := true, laidKinds := [.data, .data, .data, .data], laidTests := true, laidLooks := .later }
def FnBranchEndTableCardSaid : Prop := Claim7.holds Eajg.pinned (.plain (OpenSpec.ofChange fnBranchEndTableSpec)) fnBranchEndTableCard

/-- THE TIED CARD OF 'zzlaws_parser_b54.FnBranchSpanCoversKeywordAndLabel'. -/
def fnBranchSpanCoversKeywordAndLabelCard : Claim7 := { stood := { row := fnBranchSpanCoversKeywordAndLabelRow, standIns := [], harness := (true, "554a69053efea3209ff943bad6b0dd9f005ec3fbef622fd814cfc10302f09aeb"), looks := false }, kinds := [], alts := [], laidByText := true, laidKinds := [.data, .data, .data, .data], laidTests := true, laidLooks := .later }
def FnBranchSpanCoversKeywordAndLabelCardSaid : Prop := Claim7.holds Eajg.pinned (.plain (OpenSpec.ofChange fnBranchSpanCoversKeywordAndLabelSpec)) fnBranchSpanCoversKeywordAndLabelCard
end Rows
end Go.Proofs.YoeajwDoor
