/-
  No cell of these rows narrows 'for every input' (looked for: loops, veiled, ifaces, maps, wideKeys, modest, calm, conditions, laid).
  DERIVED. THE GIVEN ROWS OF THIS SEAT. 11 by the template 'for every input the law returns true; each argument reads behind the call as it read before'; 0 by the template 'total and deterministic' (their statements: YtbpbbmamgajimaaTotals.lean).
  GIVEN WITH THE SEED: the statements are not yours to turn. If you find one false, say at which input.
  Laid BY PROGRAM, IN A SANDBOX (cutbox-rows.mjs): the forced cells as the released guide's own fill.sh prints them over the translation 185e576ee06bd05c… (all of the seat's roots in one cut). By AI agents, Wed Nov 11 2026. No macro, syntax, notation, axiom, sorry.
-/
import Derived.Test.YtbpbbmamgajimaaChecked
import GoSem.Claim
import GoSem.ClaimJoined
import GoSem.ClaimMapViews
import Derived.JoinedTies
import Derived.KernelRfl
namespace Go.Proofs.Ytbpbbmamgajimaa
/- THE CELL 'sum', in the pinned program and in every row, IS THE sha256 OF THE DUMP (.gsa) THAT YtbpbbmamgajimaaProg.lean LOADS. Nothing in Lean hashes anything: it is a label: what it is worth is what the hold of that sum in a sandbox is worth. -/
noncomputable def Try.pinned : Pinned := { name := "ytbpbbmamgajimaa", sum := "185e576ee06bd05c1359a4bf5da4680335ec4c1a9ef8df007f0c725469d4d9ea", checked := Try.checked }
namespace Rows
def none {H : Type} : Left H := { results := [], args := [] }

/-- 'laws.FnUndone': WHATEVER THE INPUT: true; the input reads as it did. -/
def fnUndoneSpec : ChangeSpec := { name := "fnUndone", fn := fun _ => fun
  | [d1, d2] => { results := [.lit (.bool true)], args := [d1, d2] }
  | _ => none }
def fnUndoneRow : OpenClaim := { program := "ytbpbbmamgajimaa", sum := "185e576ee06bd05c1359a4bf5da4680335ec4c1a9ef8df007f0c725469d4d9ea", func := "lib-beadroll/laws.FnUndone", spec := "fnUndone", unfollowed := true, recurses := true, apart := false }
def FnUndoneSaid : Prop := fnUndoneRow.holds Try.pinned (OpenSpec.ofChange fnUndoneSpec)

/-- ITS FALSE NEIGHBOUR: 'it returns false'. Refute it at one input. -/
def fnUndoneWrong : ChangeSpec := { name := "fnUndone", fn := fun _ => fun
  | [d1, d2] => { results := [.lit (.bool false)], args := [d1, d2] }
  | _ => none }
def FnUndoneWrongFalsely : Prop := fnUndoneRow.holds Try.pinned (OpenSpec.ofChange fnUndoneWrong)

/-- 'laws.FnNextAndPrevAreInverse': WHATEVER THE INPUT: true; the input reads as it did. -/
def fnNextAndPrevAreInverseSpec : ChangeSpec := { name := "fnNextAndPrevAreInverse", fn := fun _ => fun
  | [d] => { results := [.lit (.bool true)], args := [d] }
  | _ => none }
def fnNextAndPrevAreInverseRow : OpenClaim := { program := "ytbpbbmamgajimaa", sum := "185e576ee06bd05c1359a4bf5da4680335ec4c1a9ef8df007f0c725469d4d9ea", func := "lib-beadroll/laws.FnNextAndPrevAreInverse", spec := "fnNextAndPrevAreInverse", apart := false }
def FnNextAndPrevAreInverseSaid : Prop := fnNextAndPrevAreInverseRow.holds Try.pinned (OpenSpec.ofChange fnNextAndPrevAreInverseSpec)

/-- ITS FALSE NEIGHBOUR: 'it returns false'. Refute it at one input. -/
def fnNextAndPrevAreInverseWrong : ChangeSpec := { name := "fnNextAndPrevAreInverse", fn := fun _ => fun
  | [d] => { results := [.lit (.bool false)], args := [d] }
  | _ => none }
def FnNextAndPrevAreInverseWrongFalsely : Prop := fnNextAndPrevAreInverseRow.holds Try.pinned (OpenSpec.ofChange fnNextAndPrevAreInverseWrong)

/-- 'laws.FnMoveIsRemoveAndInsert': WHATEVER THE INPUT: true; the input reads as it did. -/
def fnMoveIsRemoveAndInsertSpec : ChangeSpec := { name := "fnMoveIsRemoveAndInsert", fn := fun _ => fun
  | [d1, d2, d3, d4] => { results := [.lit (.bool true)], args := [d1, d2, d3, d4] }
  | _ => none }
def fnMoveIsRemoveAndInsertRow : OpenClaim := { program := "ytbpbbmamgajimaa", sum := "185e576ee06bd05c1359a4bf5da4680335ec4c1a9ef8df007f0c725469d4d9ea", func := "lib-beadroll/laws.FnMoveIsRemoveAndInsert", spec := "fnMoveIsRemoveAndInsert", apart := false }
def FnMoveIsRemoveAndInsertSaid : Prop := fnMoveIsRemoveAndInsertRow.holds Try.pinned (OpenSpec.ofChange fnMoveIsRemoveAndInsertSpec)

/-- ITS FALSE NEIGHBOUR: 'it returns false'. Refute it at one input. -/
def fnMoveIsRemoveAndInsertWrong : ChangeSpec := { name := "fnMoveIsRemoveAndInsert", fn := fun _ => fun
  | [d1, d2, d3, d4] => { results := [.lit (.bool false)], args := [d1, d2, d3, d4] }
  | _ => none }
def FnMoveIsRemoveAndInsertWrongFalsely : Prop := fnMoveIsRemoveAndInsertRow.holds Try.pinned (OpenSpec.ofChange fnMoveIsRemoveAndInsertWrong)

/-- 'laws.FnMoveToEndsIsRemoveAndPush': WHATEVER THE INPUT: true; the input reads as it did. -/
def fnMoveToEndsIsRemoveAndPushSpec : ChangeSpec := { name := "fnMoveToEndsIsRemoveAndPush", fn := fun _ => fun
  | [d1, d2, d3] => { results := [.lit (.bool true)], args := [d1, d2, d3] }
  | _ => none }
def fnMoveToEndsIsRemoveAndPushRow : OpenClaim := { program := "ytbpbbmamgajimaa", sum := "185e576ee06bd05c1359a4bf5da4680335ec4c1a9ef8df007f0c725469d4d9ea", func := "lib-beadroll/laws.FnMoveToEndsIsRemoveAndPush", spec := "fnMoveToEndsIsRemoveAndPush", apart := false }
def FnMoveToEndsIsRemoveAndPushSaid : Prop := fnMoveToEndsIsRemoveAndPushRow.holds Try.pinned (OpenSpec.ofChange fnMoveToEndsIsRemoveAndPushSpec)

/-- ITS FALSE NEIGHBOUR: 'it returns false'. Refute it at one input. -/
def fnMoveToEndsIsRemoveAndPushWrong : ChangeSpec := { name := "fnMoveToEndsIsRemoveAndPush", fn := fun _ => fun
  | [d1, d2, d3] => { results := [.lit (.bool false)], args := [d1, d2, d3] }
  | _ => none }
def FnMoveToEndsIsRemoveAndPushWrongFalsely : Prop := fnMoveToEndsIsRemoveAndPushRow.holds Try.pinned (OpenSpec.ofChange fnMoveToEndsIsRemoveAndPushWrong)

/-- 'laws.FnPushListIsPushingEach': WHATEVER THE INPUT: true; the input reads as it did. -/
def fnPushListIsPushingEachSpec : ChangeSpec := { name := "fnPushListIsPushingEach", fn := fun _ => fun
  | [d1, d2, d3] => { results := [.lit (.bool true)], args := [d1, d2, d3] }
  | _ => none }
def fnPushListIsPushingEachRow : OpenClaim := { program := "ytbpbbmamgajimaa", sum := "185e576ee06bd05c1359a4bf5da4680335ec4c1a9ef8df007f0c725469d4d9ea", func := "lib-beadroll/laws.FnPushListIsPushingEach", spec := "fnPushListIsPushingEach", apart := false }
def FnPushListIsPushingEachSaid : Prop := fnPushListIsPushingEachRow.holds Try.pinned (OpenSpec.ofChange fnPushListIsPushingEachSpec)

/-- ITS FALSE NEIGHBOUR: 'it returns false'. Refute it at one input. -/
def fnPushListIsPushingEachWrong : ChangeSpec := { name := "fnPushListIsPushingEach", fn := fun _ => fun
  | [d1, d2, d3] => { results := [.lit (.bool false)], args := [d1, d2, d3] }
  | _ => none }
def FnPushListIsPushingEachWrongFalsely : Prop := fnPushListIsPushingEachRow.holds Try.pinned (OpenSpec.ofChange fnPushListIsPushingEachWrong)

/-- 'laws.FnRotate': WHATEVER THE INPUT: true; the input reads as it did. -/
def fnRotateSpec : ChangeSpec := { name := "fnRotate", fn := fun _ => fun
  | [d1, d2, d3] => { results := [.lit (.bool true)], args := [d1, d2, d3] }
  | _ => none }
def fnRotateRow : OpenClaim := { program := "ytbpbbmamgajimaa", sum := "185e576ee06bd05c1359a4bf5da4680335ec4c1a9ef8df007f0c725469d4d9ea", func := "lib-beadroll/laws.FnRotate", spec := "fnRotate", apart := false }
def FnRotateSaid : Prop := fnRotateRow.holds Try.pinned (OpenSpec.ofChange fnRotateSpec)

/-- ITS FALSE NEIGHBOUR: 'it returns false'. Refute it at one input. -/
def fnRotateWrong : ChangeSpec := { name := "fnRotate", fn := fun _ => fun
  | [d1, d2, d3] => { results := [.lit (.bool false)], args := [d1, d2, d3] }
  | _ => none }
def FnRotateWrongFalsely : Prop := fnRotateRow.holds Try.pinned (OpenSpec.ofChange fnRotateWrong)

/-- 'laws.FnLenCounts': WHATEVER THE INPUT: true; the input reads as it did. -/
def fnLenCountsSpec : ChangeSpec := { name := "fnLenCounts", fn := fun _ => fun
  | [d1, d2, d3] => { results := [.lit (.bool true)], args := [d1, d2, d3] }
  | _ => none }
def fnLenCountsRow : OpenClaim := { program := "ytbpbbmamgajimaa", sum := "185e576ee06bd05c1359a4bf5da4680335ec4c1a9ef8df007f0c725469d4d9ea", func := "lib-beadroll/laws.FnLenCounts", spec := "fnLenCounts", unfollowed := true, recurses := true, apart := false }
def FnLenCountsSaid : Prop := fnLenCountsRow.holds Try.pinned (OpenSpec.ofChange fnLenCountsSpec)

/-- ITS FALSE NEIGHBOUR: 'it returns false'. Refute it at one input. -/
def fnLenCountsWrong : ChangeSpec := { name := "fnLenCounts", fn := fun _ => fun
  | [d1, d2, d3] => { results := [.lit (.bool false)], args := [d1, d2, d3] }
  | _ => none }
def FnLenCountsWrongFalsely : Prop := fnLenCountsRow.holds Try.pinned (OpenSpec.ofChange fnLenCountsWrong)

/-- 'laws.FnMovesKeepElements': WHATEVER THE INPUT: true; the input reads as it did. -/
def fnMovesKeepElementsSpec : ChangeSpec := { name := "fnMovesKeepElements", fn := fun _ => fun
  | [d1, d2] => { results := [.lit (.bool true)], args := [d1, d2] }
  | _ => none }
def fnMovesKeepElementsRow : OpenClaim := { program := "ytbpbbmamgajimaa", sum := "185e576ee06bd05c1359a4bf5da4680335ec4c1a9ef8df007f0c725469d4d9ea", func := "lib-beadroll/laws.FnMovesKeepElements", spec := "fnMovesKeepElements", unfollowed := true, recurses := true, apart := false }
def FnMovesKeepElementsSaid : Prop := fnMovesKeepElementsRow.holds Try.pinned (OpenSpec.ofChange fnMovesKeepElementsSpec)

/-- ITS FALSE NEIGHBOUR: 'it returns false'. Refute it at one input. -/
def fnMovesKeepElementsWrong : ChangeSpec := { name := "fnMovesKeepElements", fn := fun _ => fun
  | [d1, d2] => { results := [.lit (.bool false)], args := [d1, d2] }
  | _ => none }
def FnMovesKeepElementsWrongFalsely : Prop := fnMovesKeepElementsRow.holds Try.pinned (OpenSpec.ofChange fnMovesKeepElementsWrong)

/-- 'laws.FnPushListKeepsElements': WHATEVER THE INPUT: true; the input reads as it did. -/
def fnPushListKeepsElementsSpec : ChangeSpec := { name := "fnPushListKeepsElements", fn := fun _ => fun
  | [d1, d2, d3] => { results := [.lit (.bool true)], args := [d1, d2, d3] }
  | _ => none }
def fnPushListKeepsElementsRow : OpenClaim := { program := "ytbpbbmamgajimaa", sum := "185e576ee06bd05c1359a4bf5da4680335ec4c1a9ef8df007f0c725469d4d9ea", func := "lib-beadroll/laws.FnPushListKeepsElements", spec := "fnPushListKeepsElements", unfollowed := true, recurses := true, apart := false }
def FnPushListKeepsElementsSaid : Prop := fnPushListKeepsElementsRow.holds Try.pinned (OpenSpec.ofChange fnPushListKeepsElementsSpec)

/-- ITS FALSE NEIGHBOUR: 'it returns false'. Refute it at one input. -/
def fnPushListKeepsElementsWrong : ChangeSpec := { name := "fnPushListKeepsElements", fn := fun _ => fun
  | [d1, d2, d3] => { results := [.lit (.bool false)], args := [d1, d2, d3] }
  | _ => none }
def FnPushListKeepsElementsWrongFalsely : Prop := fnPushListKeepsElementsRow.holds Try.pinned (OpenSpec.ofChange fnPushListKeepsElementsWrong)

/-- 'laws.FnInsertAtEndsIsPush': WHATEVER THE INPUT: true; the input reads as it did. -/
def fnInsertAtEndsIsPushSpec : ChangeSpec := { name := "fnInsertAtEndsIsPush", fn := fun _ => fun
  | [d1, d2, d3] => { results := [.lit (.bool true)], args := [d1, d2, d3] }
  | _ => none }
def fnInsertAtEndsIsPushRow : OpenClaim := { program := "ytbpbbmamgajimaa", sum := "185e576ee06bd05c1359a4bf5da4680335ec4c1a9ef8df007f0c725469d4d9ea", func := "lib-beadroll/laws.FnInsertAtEndsIsPush", spec := "fnInsertAtEndsIsPush", unfollowed := true, recurses := true, apart := false }
def FnInsertAtEndsIsPushSaid : Prop := fnInsertAtEndsIsPushRow.holds Try.pinned (OpenSpec.ofChange fnInsertAtEndsIsPushSpec)

/-- ITS FALSE NEIGHBOUR: 'it returns false'. Refute it at one input. -/
def fnInsertAtEndsIsPushWrong : ChangeSpec := { name := "fnInsertAtEndsIsPush", fn := fun _ => fun
  | [d1, d2, d3] => { results := [.lit (.bool false)], args := [d1, d2, d3] }
  | _ => none }
def FnInsertAtEndsIsPushWrongFalsely : Prop := fnInsertAtEndsIsPushRow.holds Try.pinned (OpenSpec.ofChange fnInsertAtEndsIsPushWrong)

/-- 'laws.FnJoined': WHATEVER THE INPUT: true; the input reads as it did. -/
def fnJoinedSpec : ChangeSpec := { name := "fnJoined", fn := fun _ => fun
  | [d1, d2] => { results := [.lit (.bool true)], args := [d1, d2] }
  | _ => none }
def fnJoinedRow : OpenClaim := { program := "ytbpbbmamgajimaa", sum := "185e576ee06bd05c1359a4bf5da4680335ec4c1a9ef8df007f0c725469d4d9ea", func := "lib-beadroll/laws.FnJoined", spec := "fnJoined", unfollowed := true, recurses := true, apart := false }
def FnJoinedSaid : Prop := fnJoinedRow.holds Try.pinned (OpenSpec.ofChange fnJoinedSpec)

/-- ITS FALSE NEIGHBOUR: 'it returns false'. Refute it at one input. -/
def fnJoinedWrong : ChangeSpec := { name := "fnJoined", fn := fun _ => fun
  | [d1, d2] => { results := [.lit (.bool false)], args := [d1, d2] }
  | _ => none }
def FnJoinedWrongFalsely : Prop := fnJoinedRow.holds Try.pinned (OpenSpec.ofChange fnJoinedWrong)

/- THE SECOND FORM. 'bulk': how many values and letters a reading holds, each counted each time it is reached (what is shared counts as often as it is met; a slice's spare places count too). A statement '..UptoSaid' is the law's where the arguments, and the package variables that the reading takes, are together of bulk at most 1048576: NARROWER than '..Said'. Prove '..Said' where nothing that the law and all that it calls make is longer than what came in: it says more and counts as full. Else prove '..UptoSaid'. A law counts once. -/
mutual
def uptoBulk {H : Type} : DataW H → Nat
  | .lit (.string bytes) => bytes.length + 1
  | .lit _ => 1
  | .nil => 1
  | .ptr d => uptoBulk d + 1
  | .slice elems spare => uptoBulkAll elems + uptoBulkAll spare + 1
  | .agg parts => uptoBulkAll parts + 1
  | .iface _ d => uptoBulk d + 1
  | .map entries => uptoBulkEntries entries + 1
  | .held _ => 1
def uptoBulkAll {H : Type} : List (DataW H) → Nat
  | [] => 0
  | d :: r => uptoBulk d + uptoBulkAll r
def uptoBulkEntries {H : Type} : List (Lit × DataW H) → Nat
  | [] => 0
  | x :: r => uptoBulkEntry x + uptoBulkEntries r
def uptoBulkEntry {H : Type} : Lit × DataW H → Nat
  | (.string bytes, d) => bytes.length + uptoBulk d + 1
  | (_, d) => uptoBulk d + 1
 end
def uptoSmall : (H : Type) → List (DataW H) → Bool := fun _ ds => decide (uptoBulkAll ds ≤ 1048576)
def OpenSpec.upto (s : _root_.Go.ChangeSpec) : _root_.Go.OpenSpec := { _root_.Go.OpenSpec.ofChange s with cond := some uptoSmall }

/-- 'laws.FnUndone', WHERE WHAT IT READS IS OF BULK AT MOST 1048576: true; the input reads as it did. -/
def fnUndoneUptoRow : OpenClaim := { program := "ytbpbbmamgajimaa", sum := "185e576ee06bd05c1359a4bf5da4680335ec4c1a9ef8df007f0c725469d4d9ea", func := "lib-beadroll/laws.FnUndone", spec := "fnUndone", unfollowed := true, recurses := true, apart := false, narrowed := true }
def FnUndoneUptoSaid : Prop := fnUndoneUptoRow.holds Try.pinned (OpenSpec.upto fnUndoneSpec)

/-- 'laws.FnNextAndPrevAreInverse', WHERE WHAT IT READS IS OF BULK AT MOST 1048576: true; the input reads as it did. -/
def fnNextAndPrevAreInverseUptoRow : OpenClaim := { program := "ytbpbbmamgajimaa", sum := "185e576ee06bd05c1359a4bf5da4680335ec4c1a9ef8df007f0c725469d4d9ea", func := "lib-beadroll/laws.FnNextAndPrevAreInverse", spec := "fnNextAndPrevAreInverse", apart := false, narrowed := true }
def FnNextAndPrevAreInverseUptoSaid : Prop := fnNextAndPrevAreInverseUptoRow.holds Try.pinned (OpenSpec.upto fnNextAndPrevAreInverseSpec)

/-- 'laws.FnMoveIsRemoveAndInsert', WHERE WHAT IT READS IS OF BULK AT MOST 1048576: true; the input reads as it did. -/
def fnMoveIsRemoveAndInsertUptoRow : OpenClaim := { program := "ytbpbbmamgajimaa", sum := "185e576ee06bd05c1359a4bf5da4680335ec4c1a9ef8df007f0c725469d4d9ea", func := "lib-beadroll/laws.FnMoveIsRemoveAndInsert", spec := "fnMoveIsRemoveAndInsert", apart := false, narrowed := true }
def FnMoveIsRemoveAndInsertUptoSaid : Prop := fnMoveIsRemoveAndInsertUptoRow.holds Try.pinned (OpenSpec.upto fnMoveIsRemoveAndInsertSpec)

/-- 'laws.FnMoveToEndsIsRemoveAndPush', WHERE WHAT IT READS IS OF BULK AT MOST 1048576: true; the input reads as it did. -/
def fnMoveToEndsIsRemoveAndPushUptoRow : OpenClaim := { program := "ytbpbbmamgajimaa", sum := "185e576ee06bd05c1359a4bf5da4680335ec4c1a9ef8df007f0c725469d4d9ea", func := "lib-beadroll/laws.FnMoveToEndsIsRemoveAndPush", spec := "fnMoveToEndsIsRemoveAndPush", apart := false, narrowed := true }
def FnMoveToEndsIsRemoveAndPushUptoSaid : Prop := fnMoveToEndsIsRemoveAndPushUptoRow.holds Try.pinned (OpenSpec.upto fnMoveToEndsIsRemoveAndPushSpec)

/-- 'laws.FnPushListIsPushingEach', WHERE WHAT IT READS IS OF BULK AT MOST 1048576: true; the input reads as it did. -/
def fnPushListIsPushingEachUptoRow : OpenClaim := { program := "ytbpbbmamgajimaa", sum := "185e576ee06bd05c1359a4bf5da4680335ec4c1a9ef8df007f0c725469d4d9ea", func := "lib-beadroll/laws.FnPushListIsPushingEach", spec := "fnPushListIsPushingEach", apart := false, narrowed := true }
def FnPushListIsPushingEachUptoSaid : Prop := fnPushListIsPushingEachUptoRow.holds Try.pinned (OpenSpec.upto fnPushListIsPushingEachSpec)

/-- 'laws.FnRotate', WHERE WHAT IT READS IS OF BULK AT MOST 1048576: true; the input reads as it did. -/
def fnRotateUptoRow : OpenClaim := { program := "ytbpbbmamgajimaa", sum := "185e576ee06bd05c1359a4bf5da4680335ec4c1a9ef8df007f0c725469d4d9ea", func := "lib-beadroll/laws.FnRotate", spec := "fnRotate", apart := false, narrowed := true }
def FnRotateUptoSaid : Prop := fnRotateUptoRow.holds Try.pinned (OpenSpec.upto fnRotateSpec)

/-- 'laws.FnLenCounts', WHERE WHAT IT READS IS OF BULK AT MOST 1048576: true; the input reads as it did. -/
def fnLenCountsUptoRow : OpenClaim := { program := "ytbpbbmamgajimaa", sum := "185e576ee06bd05c1359a4bf5da4680335ec4c1a9ef8df007f0c725469d4d9ea", func := "lib-beadroll/laws.FnLenCounts", spec := "fnLenCounts", unfollowed := true, recurses := true, apart := false, narrowed := true }
def FnLenCountsUptoSaid : Prop := fnLenCountsUptoRow.holds Try.pinned (OpenSpec.upto fnLenCountsSpec)

/-- 'laws.FnMovesKeepElements', WHERE WHAT IT READS IS OF BULK AT MOST 1048576: true; the input reads as it did. -/
def fnMovesKeepElementsUptoRow : OpenClaim := { program := "ytbpbbmamgajimaa", sum := "185e576ee06bd05c1359a4bf5da4680335ec4c1a9ef8df007f0c725469d4d9ea", func := "lib-beadroll/laws.FnMovesKeepElements", spec := "fnMovesKeepElements", unfollowed := true, recurses := true, apart := false, narrowed := true }
def FnMovesKeepElementsUptoSaid : Prop := fnMovesKeepElementsUptoRow.holds Try.pinned (OpenSpec.upto fnMovesKeepElementsSpec)

/-- 'laws.FnPushListKeepsElements', WHERE WHAT IT READS IS OF BULK AT MOST 1048576: true; the input reads as it did. -/
def fnPushListKeepsElementsUptoRow : OpenClaim := { program := "ytbpbbmamgajimaa", sum := "185e576ee06bd05c1359a4bf5da4680335ec4c1a9ef8df007f0c725469d4d9ea", func := "lib-beadroll/laws.FnPushListKeepsElements", spec := "fnPushListKeepsElements", unfollowed := true, recurses := true, apart := false, narrowed := true }
def FnPushListKeepsElementsUptoSaid : Prop := fnPushListKeepsElementsUptoRow.holds Try.pinned (OpenSpec.upto fnPushListKeepsElementsSpec)

/-- 'laws.FnInsertAtEndsIsPush', WHERE WHAT IT READS IS OF BULK AT MOST 1048576: true; the input reads as it did. -/
def fnInsertAtEndsIsPushUptoRow : OpenClaim := { program := "ytbpbbmamgajimaa", sum := "185e576ee06bd05c1359a4bf5da4680335ec4c1a9ef8df007f0c725469d4d9ea", func := "lib-beadroll/laws.FnInsertAtEndsIsPush", spec := "fnInsertAtEndsIsPush", unfollowed := true, recurses := true, apart := false, narrowed := true }
def FnInsertAtEndsIsPushUptoSaid : Prop := fnInsertAtEndsIsPushUptoRow.holds Try.pinned (OpenSpec.upto fnInsertAtEndsIsPushSpec)

/-- 'laws.FnJoined', WHERE WHAT IT READS IS OF BULK AT MOST 1048576: true; the input reads as it did. -/
def fnJoinedUptoRow : OpenClaim := { program := "ytbpbbmamgajimaa", sum := "185e576ee06bd05c1359a4bf5da4680335ec4c1a9ef8df007f0c725469d4d9ea", func := "lib-beadroll/laws.FnJoined", spec := "fnJoined", unfollowed := true, recurses := true, apart := false, narrowed := true }
def FnJoinedUptoSaid : Prop := fnJoinedUptoRow.holds Try.pinned (OpenSpec.upto fnJoinedSpec)

end Rows
end Go.Proofs.Ytbpbbmamgajimaa
