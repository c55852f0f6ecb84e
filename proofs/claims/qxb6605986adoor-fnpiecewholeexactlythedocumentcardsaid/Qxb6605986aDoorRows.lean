/-
  NARROWER THAN 'FOR EVERY INPUT', by the rows' own cells (each row's printed sentence says how): FnPieceWholeExactlyTheDocument: laid · FnPieceReadIntoExact: laid.
  DERIVED. THE GIVEN ROWS OF THIS SEAT. 2 by the template 'for every input the law returns true; each argument reads behind the call as it read before'; 0 by the template 'total and deterministic' (their statements: Qxb6605986aDoorTotals.lean).
  GIVEN WITH THE SEED: the statements are not yours to turn. If you find one false, say at which input.
  Laid BY PROGRAM, IN A SANDBOX (cutbox-rows.mjs): the forced cells as the released guide's own fill.sh prints them over the translation 4907981e0ae26eba… (all of the seat's roots in one cut). By AI agents, Wed Nov 11 2026. No macro, syntax, notation, axiom, sorry.
-/
import Derived.Test.Qxb6605986aDoorChecked
import GoSem.Claim
import GoSem.ClaimJoined
import GoSem.ClaimMapViews
import Derived.JoinedTies
import Derived.KernelRfl
namespace Go.Proofs.Qxb6605986aDoor
/- THE CELL 'sum', in the pinned program and in every row, IS THE sha256 OF THE DUMP (.gsa) THAT Qxb6605986aDoorProg.lean LOADS. Nothing in Lean hashes anything: it is a label: what it is worth is what the hold of that sum in a sandbox is worth. -/
noncomputable def Tryd.pinned : Pinned := { name := "qxb6605986adoor", sum := "4907981e0ae26eba3c51b3ee432233ce05c852ad8fd6b41e8b1faace6c2341e7", checked := Tryd.checked }
namespace Rows
def none {H : Type} : Left H := { results := [], args := [] }

/- WHAT THE LISTED PACKAGE-LEVEL VARIABLES READ AS WHEN THE CALL BEGINS. Each datum BY PROGRAM (the guide's laid-datum.mjs) off the statement by which the dump's own 'gosem.cut.vars' lays the variable. In a bare row this is a premise. The card (Qxb6605986aDoorCards.lean) ties it to the program's text. -/
def laid_io_EOF {H : Type} : DataW H := .iface "*errors.errorString" (.ptr (.agg [.lit (.string [69, 79, 70])]))
def laid_io_ErrUnexpectedEOF {H : Type} : DataW H := .iface "*errors.errorString" (.ptr (.agg [.lit (.string [117, 110, 101, 120, 112, 101, 99, 116, 101, 100, 32, 69, 79, 70])]))

/-- 'zzlaws_internal_textmerge_b1.FnPieceWholeExactlyTheDocument': WHATEVER THE INPUT: true; the input reads as it did. -/
def fnPieceWholeExactlyTheDocumentSpec : ChangeSpec := { name := "fnPieceWholeExactlyTheDocument", fn := fun _ => fun
  | [d1, d2, d3, d4, d5] => { results := [.lit (.bool true)], args := [d1, d2, d3, d4, d5] }
  | _ => none }
def fnPieceWholeExactlyTheDocumentRow : OpenClaim := { program := "qxb6605986adoor", sum := "4907981e0ae26eba3c51b3ee432233ce05c852ad8fd6b41e8b1faace6c2341e7", func := "example.com/tributary/tributary/zzlaws_internal_textmerge_b1.FnPieceWholeExactlyTheDocument", spec := "fnPieceWholeExactlyTheDocument", inPlace := ["internal/reflectlite.TypeOf"], unfollowed := true, recurses := true, named := ["io.EOF", "io.ErrUnexpectedEOF"], apart := false, laid := [("io.EOF", laid_io_EOF), ("io.ErrUnexpectedEOF", laid_io_ErrUnexpectedEOF)] }
def FnPieceWholeExactlyTheDocumentSaid : Prop := fnPieceWholeExactlyTheDocumentRow.holds Tryd.pinned (OpenSpec.ofChange fnPieceWholeExactlyTheDocumentSpec)

/-- ITS FALSE NEIGHBOUR: 'it returns false'. Refute it at one input. -/
def fnPieceWholeExactlyTheDocumentWrong : ChangeSpec := { name := "fnPieceWholeExactlyTheDocument", fn := fun _ => fun
  | [d1, d2, d3, d4, d5] => { results := [.lit (.bool false)], args := [d1, d2, d3, d4, d5] }
  | _ => none }
def FnPieceWholeExactlyTheDocumentWrongFalsely : Prop := fnPieceWholeExactlyTheDocumentRow.holds Tryd.pinned (OpenSpec.ofChange fnPieceWholeExactlyTheDocumentWrong)

/-- 'zzlaws_internal_textmerge_b1.FnPieceReadIntoExact': WHATEVER THE INPUT: true; the input reads as it did. -/
def fnPieceReadIntoExactSpec : ChangeSpec := { name := "fnPieceReadIntoExact", fn := fun _ => fun
  | [d1, d2, d3, d4, d5] => { results := [.lit (.bool true)], args := [d1, d2, d3, d4, d5] }
  | _ => none }
def fnPieceReadIntoExactRow : OpenClaim := { program := "qxb6605986adoor", sum := "4907981e0ae26eba3c51b3ee432233ce05c852ad8fd6b41e8b1faace6c2341e7", func := "example.com/tributary/tributary/zzlaws_internal_textmerge_b1.FnPieceReadIntoExact", spec := "fnPieceReadIntoExact", inPlace := ["internal/reflectlite.TypeOf"], unfollowed := true, recurses := true, named := ["io.EOF", "io.ErrUnexpectedEOF"], apart := false, laid := [("io.EOF", laid_io_EOF), ("io.ErrUnexpectedEOF", laid_io_ErrUnexpectedEOF)] }
def FnPieceReadIntoExactSaid : Prop := fnPieceReadIntoExactRow.holds Tryd.pinned (OpenSpec.ofChange fnPieceReadIntoExactSpec)

/-- ITS FALSE NEIGHBOUR: 'it returns false'. Refute it at one input. -/
def fnPieceReadIntoExactWrong : ChangeSpec := { name := "fnPieceReadIntoExact", fn := fun _ => fun
  | [d1, d2, d3, d4, d5] => { results := [.lit (.bool false)], args := [d1, d2, d3, d4, d5] }
  | _ => none }
def FnPieceReadIntoExactWrongFalsely : Prop := fnPieceReadIntoExactRow.holds Tryd.pinned (OpenSpec.ofChange fnPieceReadIntoExactWrong)

end Rows
end Go.Proofs.Qxb6605986aDoor
