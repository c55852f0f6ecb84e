/-
  No cell of these rows narrows 'for every input' (looked for: loops, veiled, ifaces, maps, wideKeys, modest, calm, conditions, laid).
  DERIVED. THE GIVEN ROWS OF THIS SEAT. 3 by the template 'for every input the law returns true; each argument reads behind the call as it read before'; 0 by the template 'total and deterministic' (their statements: Qxb6605986aTotals.lean).
  GIVEN WITH THE SEED: the statements are not yours to turn. If you find one false, say at which input.
  Laid BY PROGRAM, IN A SANDBOX (cutbox-rows.mjs): the forced cells as the released guide's own fill.sh prints them over the translation 9597003ac7e275c4… (all of the seat's roots in one cut). By AI agents, Wed Nov 11 2026. No macro, syntax, notation, axiom, sorry.
-/
import Derived.Test.Qxb6605986aChecked
import GoSem.Claim
import GoSem.ClaimJoined
import GoSem.ClaimMapViews
import Derived.JoinedTies
import Derived.KernelRfl
namespace Go.Proofs.Qxb6605986a
/- THE CELL 'sum', in the pinned program and in every row, IS THE sha256 OF THE DUMP (.gsa) THAT Qxb6605986aProg.lean LOADS. Nothing in Lean hashes anything: it is a label: what it is worth is what the hold of that sum in a sandbox is worth. -/
noncomputable def Try.pinned : Pinned := { name := "qxb6605986a", sum := "9597003ac7e275c4fd6f1871b2cb4fc0ff42819991db26657be528c5b2c88def", checked := Try.checked }
namespace Rows
def none {H : Type} : Left H := { results := [], args := [] }

/-- 'zzlaws_internal_textmerge_b1.FnWindowLineStartTilesWindow': WHATEVER THE INPUT: true; the input reads as it did. -/
def fnWindowLineStartTilesWindowSpec : ChangeSpec := { name := "fnWindowLineStartTilesWindow", fn := fun _ => fun
  | [d1, d2] => { results := [.lit (.bool true)], args := [d1, d2] }
  | _ => none }
def fnWindowLineStartTilesWindowRow : OpenClaim := { program := "qxb6605986a", sum := "9597003ac7e275c4fd6f1871b2cb4fc0ff42819991db26657be528c5b2c88def", func := "example.com/tributary/tributary/zzlaws_internal_textmerge_b1.FnWindowLineStartTilesWindow", spec := "fnWindowLineStartTilesWindow", apart := false }
def FnWindowLineStartTilesWindowSaid : Prop := fnWindowLineStartTilesWindowRow.holds Try.pinned (OpenSpec.ofChange fnWindowLineStartTilesWindowSpec)

/-- ITS FALSE NEIGHBOUR: 'it returns false'. Refute it at one input. -/
def fnWindowLineStartTilesWindowWrong : ChangeSpec := { name := "fnWindowLineStartTilesWindow", fn := fun _ => fun
  | [d1, d2] => { results := [.lit (.bool false)], args := [d1, d2] }
  | _ => none }
def FnWindowLineStartTilesWindowWrongFalsely : Prop := fnWindowLineStartTilesWindowRow.holds Try.pinned (OpenSpec.ofChange fnWindowLineStartTilesWindowWrong)

/-- 'zzlaws_internal_textmerge_b1.FnWindowLineStartShiftsWithWindow': WHATEVER THE INPUT: true; the input reads as it did. -/
def fnWindowLineStartShiftsWithWindowSpec : ChangeSpec := { name := "fnWindowLineStartShiftsWithWindow", fn := fun _ => fun
  | [d1, d2, d3, d4] => { results := [.lit (.bool true)], args := [d1, d2, d3, d4] }
  | _ => none }
def fnWindowLineStartShiftsWithWindowRow : OpenClaim := { program := "qxb6605986a", sum := "9597003ac7e275c4fd6f1871b2cb4fc0ff42819991db26657be528c5b2c88def", func := "example.com/tributary/tributary/zzlaws_internal_textmerge_b1.FnWindowLineStartShiftsWithWindow", spec := "fnWindowLineStartShiftsWithWindow", apart := false }
def FnWindowLineStartShiftsWithWindowSaid : Prop := fnWindowLineStartShiftsWithWindowRow.holds Try.pinned (OpenSpec.ofChange fnWindowLineStartShiftsWithWindowSpec)

/-- ITS FALSE NEIGHBOUR: 'it returns false'. Refute it at one input. -/
def fnWindowLineStartShiftsWithWindowWrong : ChangeSpec := { name := "fnWindowLineStartShiftsWithWindow", fn := fun _ => fun
  | [d1, d2, d3, d4] => { results := [.lit (.bool false)], args := [d1, d2, d3, d4] }
  | _ => none }
def FnWindowLineStartShiftsWithWindowWrongFalsely : Prop := fnWindowLineStartShiftsWithWindowRow.holds Try.pinned (OpenSpec.ofChange fnWindowLineStartShiftsWithWindowWrong)

/-- 'zzlaws_internal_textmerge_b1.FnPieceWholeIsIdentityNotContent': WHATEVER THE INPUT: true; the input reads as it did. -/
def fnPieceWholeIsIdentityNotContentSpec : ChangeSpec := { name := "fnPieceWholeIsIdentityNotContent", fn := fun _ => fun
  | [d1, d2, d3] => { results := [.lit (.bool true)], args := [d1, d2, d3] }
  | _ => none }
def fnPieceWholeIsIdentityNotContentRow : OpenClaim := { program := "qxb6605986a", sum := "9597003ac7e275c4fd6f1871b2cb4fc0ff42819991db26657be528c5b2c88def", func := "example.com/tributary/tributary/zzlaws_internal_textmerge_b1.FnPieceWholeIsIdentityNotContent", spec := "fnPieceWholeIsIdentityNotContent", unfollowed := true, recurses := true, apart := false }
def FnPieceWholeIsIdentityNotContentSaid : Prop := fnPieceWholeIsIdentityNotContentRow.holds Try.pinned (OpenSpec.ofChange fnPieceWholeIsIdentityNotContentSpec)

/-- ITS FALSE NEIGHBOUR: 'it returns false'. Refute it at one input. -/
def fnPieceWholeIsIdentityNotContentWrong : ChangeSpec := { name := "fnPieceWholeIsIdentityNotContent", fn := fun _ => fun
  | [d1, d2, d3] => { results := [.lit (.bool false)], args := [d1, d2, d3] }
  | _ => none }
def FnPieceWholeIsIdentityNotContentWrongFalsely : Prop := fnPieceWholeIsIdentityNotContentRow.holds Try.pinned (OpenSpec.ofChange fnPieceWholeIsIdentityNotContentWrong)

end Rows
end Go.Proofs.Qxb6605986a
