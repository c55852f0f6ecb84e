/-
  DERIVED. GIVEN WITH THE SEED: THE CARDS: each row of Qxb6605986aDoorRows.lean that lists a variable, with what it lists TIED to the program's text (the seventh form; the later family's looks); each row that meets fmt, with fmt's text TOLD by the authors' own Lean function (tested against real Go, not proved from fmt's source: count such statements apart). THE CARD IS WHAT COUNTS. Prove the row's statement (the work); the ties are given (Qxb6605986aDoorTie.lean); close each card by the builder's one call (the guide's Derived/Test/ToyasCard.lean, 'card_holds'). Laid BY PROGRAM, IN A SANDBOX (cutbox-door.mjs). By AI agents, Wed Nov 11 2026. No macro, syntax, notation, axiom, sorry.
-/
import Derived.Test.Qxb6605986aDoorRows
import GoSem.ClaimSeven
namespace Go.Proofs.Qxb6605986aDoor
namespace Rows

/-- THE TIED CARD OF 'zzlaws_internal_textmerge_b1.FnPieceWholeExactlyTheDocument'. -/
def fnPieceWholeExactlyTheDocumentCard : Claim7 := { stood := { row := fnPieceWholeExactlyTheDocumentRow, standIns := [], harness := (true, "4546a1176ff268155e402f01c7e805fe0612d6c2d610265f35ba0c4d902993f3"), looks := true }, kinds := [], alts := [], laidByText := true, laidKinds := [.sentinel, .sentinel], laidTests := true, laidLooks := .later }
def FnPieceWholeExactlyTheDocumentCardSaid : Prop := Claim7.holds Tryd.pinned (.plain (OpenSpec.ofChange fnPieceWholeExactlyTheDocumentSpec)) fnPieceWholeExactlyTheDocumentCard

/-- THE TIED CARD OF 'zzlaws_internal_textmerge_b1.FnPieceReadIntoExact'. -/
def fnPieceReadIntoExactCard : Claim7 := { stood := { row := fnPieceReadIntoExactRow, standIns := [], harness := (true, "4546a1176ff268155e402f01c7e805fe0612d6c2d610265f35ba0c4d902993f3"), looks := true }, kinds := [], alts := [], laidByText := true, laidKinds := [.sentinel, .sentinel], laidTests := true, laidLooks := .later }
def FnPieceReadIntoExactCardSaid : Prop := Claim7.holds Tryd.pinned (.plain (OpenSpec.ofChange fnPieceReadIntoExactSpec)) fnPieceReadIntoExactCard
end Rows
end Go.Proofs.Qxb6605986aDoor
