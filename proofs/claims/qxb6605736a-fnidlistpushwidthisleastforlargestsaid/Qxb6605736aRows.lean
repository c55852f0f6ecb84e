/-
  No cell of these rows narrows 'for every input' (looked for: loops, veiled, ifaces, maps, wideKeys, modest, calm, conditions, laid).
  DERIVED. THE GIVEN ROWS OF THIS SEAT. 4 by the template 'for every input the law returns true; each argument reads behind the call as it read before'; 0 by the template 'total and deterministic' (their statements: Qxb6605736aTotals.lean).
  GIVEN WITH THE SEED: the statements are not yours to turn. If you find one false, say at which input.
  Laid BY PROGRAM, IN A SANDBOX (cutbox-rows.mjs): the forced cells as the released guide's own fill.sh prints them over the translation 050abf4136f9f603… (all of the seat's roots in one cut). By AI agents, Wed Nov 11 2026. No macro, syntax, notation, axiom, sorry.
-/
import Derived.Test.Qxb6605736aChecked
import GoSem.Claim
import GoSem.ClaimJoined
import GoSem.ClaimMapViews
import Derived.JoinedTies
import Derived.KernelRfl
namespace Go.Proofs.Qxb6605736a
/- THE CELL 'sum', in the pinned program and in every row, IS THE sha256 OF THE DUMP (.gsa) THAT Qxb6605736aProg.lean LOADS. Nothing in Lean hashes anything: it is a label: what it is worth is what the hold of that sum in a sandbox is worth. -/
noncomputable def Try.pinned : Pinned := { name := "qxb6605736a", sum := "050abf4136f9f603c82ed27e640d0fab32132eef49683a2f3aa874c05dab70a6", checked := Try.checked }
namespace Rows
def none {H : Type} : Left H := { results := [], args := [] }

/-- 'zzlaws_peer_b1.FnIDListPushAppendsAtEnd': WHATEVER THE INPUT: true; the input reads as it did. -/
def fnIDListPushAppendsAtEndSpec : ChangeSpec := { name := "fnIDListPushAppendsAtEnd", fn := fun _ => fun
  | [d1, d2] => { results := [.lit (.bool true)], args := [d1, d2] }
  | _ => none }
def fnIDListPushAppendsAtEndRow : OpenClaim := { program := "qxb6605736a", sum := "050abf4136f9f603c82ed27e640d0fab32132eef49683a2f3aa874c05dab70a6", func := "example.com/sonde/sonde/zzlaws_peer_b1.FnIDListPushAppendsAtEnd", spec := "fnIDListPushAppendsAtEnd", named := ["encoding/binary.LittleEndian"], apart := false }
def FnIDListPushAppendsAtEndSaid : Prop := fnIDListPushAppendsAtEndRow.holds Try.pinned (OpenSpec.ofChange fnIDListPushAppendsAtEndSpec)

/-- ITS FALSE NEIGHBOUR: 'it returns false'. Refute it at one input. -/
def fnIDListPushAppendsAtEndWrong : ChangeSpec := { name := "fnIDListPushAppendsAtEnd", fn := fun _ => fun
  | [d1, d2] => { results := [.lit (.bool false)], args := [d1, d2] }
  | _ => none }
def FnIDListPushAppendsAtEndWrongFalsely : Prop := fnIDListPushAppendsAtEndRow.holds Try.pinned (OpenSpec.ofChange fnIDListPushAppendsAtEndWrong)

/-- 'zzlaws_peer_b1.FnIDListPushWidthIsLeastForLargest': WHATEVER THE INPUT: true; the input reads as it did. -/
def fnIDListPushWidthIsLeastForLargestSpec : ChangeSpec := { name := "fnIDListPushWidthIsLeastForLargest", fn := fun _ => fun
  | [d1, d2] => { results := [.lit (.bool true)], args := [d1, d2] }
  | _ => none }
def fnIDListPushWidthIsLeastForLargestRow : OpenClaim := { program := "qxb6605736a", sum := "050abf4136f9f603c82ed27e640d0fab32132eef49683a2f3aa874c05dab70a6", func := "example.com/sonde/sonde/zzlaws_peer_b1.FnIDListPushWidthIsLeastForLargest", spec := "fnIDListPushWidthIsLeastForLargest", named := ["encoding/binary.LittleEndian"], apart := false }
def FnIDListPushWidthIsLeastForLargestSaid : Prop := fnIDListPushWidthIsLeastForLargestRow.holds Try.pinned (OpenSpec.ofChange fnIDListPushWidthIsLeastForLargestSpec)

/-- ITS FALSE NEIGHBOUR: 'it returns false'. Refute it at one input. -/
def fnIDListPushWidthIsLeastForLargestWrong : ChangeSpec := { name := "fnIDListPushWidthIsLeastForLargest", fn := fun _ => fun
  | [d1, d2] => { results := [.lit (.bool false)], args := [d1, d2] }
  | _ => none }
def FnIDListPushWidthIsLeastForLargestWrongFalsely : Prop := fnIDListPushWidthIsLeastForLargestRow.holds Try.pinned (OpenSpec.ofChange fnIDListPushWidthIsLeastForLargestWrong)

/-- 'zzlaws_peer_b1.FnQueryCacheEntryReadsItsRow': WHATEVER THE INPUT: true; the input reads as it did. -/
def fnQueryCacheEntryReadsItsRowSpec : ChangeSpec := { name := "fnQueryCacheEntryReadsItsRow", fn := fun _ => fun
  | [d1, d2, d3, d4, d5, d6, d7] => { results := [.lit (.bool true)], args := [d1, d2, d3, d4, d5, d6, d7] }
  | _ => none }
def fnQueryCacheEntryReadsItsRowRow : OpenClaim := { program := "qxb6605736a", sum := "050abf4136f9f603c82ed27e640d0fab32132eef49683a2f3aa874c05dab70a6", func := "example.com/sonde/sonde/zzlaws_peer_b1.FnQueryCacheEntryReadsItsRow", spec := "fnQueryCacheEntryReadsItsRow", named := ["encoding/binary.LittleEndian"], apart := false }
def FnQueryCacheEntryReadsItsRowSaid : Prop := fnQueryCacheEntryReadsItsRowRow.holds Try.pinned (OpenSpec.ofChange fnQueryCacheEntryReadsItsRowSpec)

/-- ITS FALSE NEIGHBOUR: 'it returns false'. Refute it at one input. -/
def fnQueryCacheEntryReadsItsRowWrong : ChangeSpec := { name := "fnQueryCacheEntryReadsItsRow", fn := fun _ => fun
  | [d1, d2, d3, d4, d5, d6, d7] => { results := [.lit (.bool false)], args := [d1, d2, d3, d4, d5, d6, d7] }
  | _ => none }
def FnQueryCacheEntryReadsItsRowWrongFalsely : Prop := fnQueryCacheEntryReadsItsRowRow.holds Try.pinned (OpenSpec.ofChange fnQueryCacheEntryReadsItsRowWrong)

/-- 'zzlaws_peer_b1.FnQueryCachePushKeepsEarlierEntries': WHATEVER THE INPUT: true; the input reads as it did. -/
def fnQueryCachePushKeepsEarlierEntriesSpec : ChangeSpec := { name := "fnQueryCachePushKeepsEarlierEntries", fn := fun _ => fun
  | [d1, d2] => { results := [.lit (.bool true)], args := [d1, d2] }
  | _ => none }
def fnQueryCachePushKeepsEarlierEntriesRow : OpenClaim := { program := "qxb6605736a", sum := "050abf4136f9f603c82ed27e640d0fab32132eef49683a2f3aa874c05dab70a6", func := "example.com/sonde/sonde/zzlaws_peer_b1.FnQueryCachePushKeepsEarlierEntries", spec := "fnQueryCachePushKeepsEarlierEntries", named := ["encoding/binary.LittleEndian"], apart := false }
def FnQueryCachePushKeepsEarlierEntriesSaid : Prop := fnQueryCachePushKeepsEarlierEntriesRow.holds Try.pinned (OpenSpec.ofChange fnQueryCachePushKeepsEarlierEntriesSpec)

/-- ITS FALSE NEIGHBOUR: 'it returns false'. Refute it at one input. -/
def fnQueryCachePushKeepsEarlierEntriesWrong : ChangeSpec := { name := "fnQueryCachePushKeepsEarlierEntries", fn := fun _ => fun
  | [d1, d2] => { results := [.lit (.bool false)], args := [d1, d2] }
  | _ => none }
def FnQueryCachePushKeepsEarlierEntriesWrongFalsely : Prop := fnQueryCachePushKeepsEarlierEntriesRow.holds Try.pinned (OpenSpec.ofChange fnQueryCachePushKeepsEarlierEntriesWrong)

end Rows
end Go.Proofs.Qxb6605736a
