/-
  No cell of these rows narrows 'for every input' (looked for: loops, veiled, ifaces, maps, wideKeys, modest, calm, conditions, laid).
  DERIVED. THE GIVEN ROWS OF THIS SEAT. 11 by the template 'for every input the law returns true; each argument reads behind the call as it read before'; 0 by the template 'total and deterministic' (their statements: YtdmichkekipdpaaTotals.lean).
  GIVEN WITH THE SEED: the statements are not yours to turn. If you find one false, say at which input.
  Laid BY PROGRAM, IN A SANDBOX (cutbox-rows.mjs): the forced cells as the released guide's own fill.sh prints them over the translation 6b4eacbd5e8c45dd… (all of the seat's roots in one cut). By AI agents, Wed Nov 11 2026. No macro, syntax, notation, axiom, sorry.
-/
import Derived.Test.YtdmichkekipdpaaChecked
import GoSem.Claim
import GoSem.ClaimJoined
import GoSem.ClaimMapViews
import Derived.JoinedTies
import Derived.KernelRfl
namespace Go.Proofs.Ytdmichkekipdpaa
/- THE CELL 'sum', in the pinned program and in every row, IS THE sha256 OF THE DUMP (.gsa) THAT YtdmichkekipdpaaProg.lean LOADS. Nothing in Lean hashes anything: it is a label: what it is worth is what the hold of that sum in a sandbox is worth. -/
noncomputable def Try.pinned : Pinned := { name := "ytdmichkekipdpaa", sum := "6b4eacbd5e8c45dd3c95d0cf6995e10ec17bfdfa12e5eca893851fb5bf3465b2", checked := Try.checked }
namespace Rows
def none {H : Type} : Left H := { results := [], args := [] }

/-- 'laws.FnLooksChangeNothing': WHATEVER THE INPUT: true; the input reads as it did. -/
def fnLooksChangeNothingSpec : ChangeSpec := { name := "fnLooksChangeNothing", fn := fun _ => fun
  | [d1, d2] => { results := [.lit (.bool true)], args := [d1, d2] }
  | _ => none }
def fnLooksChangeNothingRow : OpenClaim := { program := "ytdmichkekipdpaa", sum := "6b4eacbd5e8c45dd3c95d0cf6995e10ec17bfdfa12e5eca893851fb5bf3465b2", func := "lib-beadroll/laws.FnLooksChangeNothing", spec := "fnLooksChangeNothing", unfollowed := true, recurses := true, apart := false }
def FnLooksChangeNothingSaid : Prop := fnLooksChangeNothingRow.holds Try.pinned (OpenSpec.ofChange fnLooksChangeNothingSpec)

/-- ITS FALSE NEIGHBOUR: 'it returns false'. Refute it at one input. -/
def fnLooksChangeNothingWrong : ChangeSpec := { name := "fnLooksChangeNothing", fn := fun _ => fun
  | [d1, d2] => { results := [.lit (.bool false)], args := [d1, d2] }
  | _ => none }
def FnLooksChangeNothingWrongFalsely : Prop := fnLooksChangeNothingRow.holds Try.pinned (OpenSpec.ofChange fnLooksChangeNothingWrong)

/-- 'laws.FnMoveToEndIsMoveBesideEnd': WHATEVER THE INPUT: true; the input reads as it did. -/
def fnMoveToEndIsMoveBesideEndSpec : ChangeSpec := { name := "fnMoveToEndIsMoveBesideEnd", fn := fun _ => fun
  | [d1, d2, d3] => { results := [.lit (.bool true)], args := [d1, d2, d3] }
  | _ => none }
def fnMoveToEndIsMoveBesideEndRow : OpenClaim := { program := "ytdmichkekipdpaa", sum := "6b4eacbd5e8c45dd3c95d0cf6995e10ec17bfdfa12e5eca893851fb5bf3465b2", func := "lib-beadroll/laws.FnMoveToEndIsMoveBesideEnd", spec := "fnMoveToEndIsMoveBesideEnd", unfollowed := true, recurses := true, apart := false }
def FnMoveToEndIsMoveBesideEndSaid : Prop := fnMoveToEndIsMoveBesideEndRow.holds Try.pinned (OpenSpec.ofChange fnMoveToEndIsMoveBesideEndSpec)

/-- ITS FALSE NEIGHBOUR: 'it returns false'. Refute it at one input. -/
def fnMoveToEndIsMoveBesideEndWrong : ChangeSpec := { name := "fnMoveToEndIsMoveBesideEnd", fn := fun _ => fun
  | [d1, d2, d3] => { results := [.lit (.bool false)], args := [d1, d2, d3] }
  | _ => none }
def FnMoveToEndIsMoveBesideEndWrongFalsely : Prop := fnMoveToEndIsMoveBesideEndRow.holds Try.pinned (OpenSpec.ofChange fnMoveToEndIsMoveBesideEndWrong)

/-- 'laws.FnNeighboursChangePlaces': WHATEVER THE INPUT: true; the input reads as it did. -/
def fnNeighboursChangePlacesSpec : ChangeSpec := { name := "fnNeighboursChangePlaces", fn := fun _ => fun
  | [d1, d2, d3] => { results := [.lit (.bool true)], args := [d1, d2, d3] }
  | _ => none }
def fnNeighboursChangePlacesRow : OpenClaim := { program := "ytdmichkekipdpaa", sum := "6b4eacbd5e8c45dd3c95d0cf6995e10ec17bfdfa12e5eca893851fb5bf3465b2", func := "lib-beadroll/laws.FnNeighboursChangePlaces", spec := "fnNeighboursChangePlaces", unfollowed := true, recurses := true, apart := false }
def FnNeighboursChangePlacesSaid : Prop := fnNeighboursChangePlacesRow.holds Try.pinned (OpenSpec.ofChange fnNeighboursChangePlacesSpec)

/-- ITS FALSE NEIGHBOUR: 'it returns false'. Refute it at one input. -/
def fnNeighboursChangePlacesWrong : ChangeSpec := { name := "fnNeighboursChangePlaces", fn := fun _ => fun
  | [d1, d2, d3] => { results := [.lit (.bool false)], args := [d1, d2, d3] }
  | _ => none }
def FnNeighboursChangePlacesWrongFalsely : Prop := fnNeighboursChangePlacesRow.holds Try.pinned (OpenSpec.ofChange fnNeighboursChangePlacesWrong)

/-- 'laws.FnPushAndRemove': WHATEVER THE INPUT: true; the input reads as it did. -/
def fnPushAndRemoveSpec : ChangeSpec := { name := "fnPushAndRemove", fn := fun _ => fun
  | [d1, d2, d3, d4] => { results := [.lit (.bool true)], args := [d1, d2, d3, d4] }
  | _ => none }
def fnPushAndRemoveRow : OpenClaim := { program := "ytdmichkekipdpaa", sum := "6b4eacbd5e8c45dd3c95d0cf6995e10ec17bfdfa12e5eca893851fb5bf3465b2", func := "lib-beadroll/laws.FnPushAndRemove", spec := "fnPushAndRemove", unfollowed := true, recurses := true, apart := false }
def FnPushAndRemoveSaid : Prop := fnPushAndRemoveRow.holds Try.pinned (OpenSpec.ofChange fnPushAndRemoveSpec)

/-- ITS FALSE NEIGHBOUR: 'it returns false'. Refute it at one input. -/
def fnPushAndRemoveWrong : ChangeSpec := { name := "fnPushAndRemove", fn := fun _ => fun
  | [d1, d2, d3, d4] => { results := [.lit (.bool false)], args := [d1, d2, d3, d4] }
  | _ => none }
def FnPushAndRemoveWrongFalsely : Prop := fnPushAndRemoveRow.holds Try.pinned (OpenSpec.ofChange fnPushAndRemoveWrong)

/-- 'laws.FnArrange': WHATEVER THE INPUT: true; the input reads as it did. -/
def fnArrangeSpec : ChangeSpec := { name := "fnArrange", fn := fun _ => fun
  | [d1, d2, d3] => { results := [.lit (.bool true)], args := [d1, d2, d3] }
  | _ => none }
def fnArrangeRow : OpenClaim := { program := "ytdmichkekipdpaa", sum := "6b4eacbd5e8c45dd3c95d0cf6995e10ec17bfdfa12e5eca893851fb5bf3465b2", func := "lib-beadroll/laws.FnArrange", spec := "fnArrange", apart := false }
def FnArrangeSaid : Prop := fnArrangeRow.holds Try.pinned (OpenSpec.ofChange fnArrangeSpec)

/-- ITS FALSE NEIGHBOUR: 'it returns false'. Refute it at one input. -/
def fnArrangeWrong : ChangeSpec := { name := "fnArrange", fn := fun _ => fun
  | [d1, d2, d3] => { results := [.lit (.bool false)], args := [d1, d2, d3] }
  | _ => none }
def FnArrangeWrongFalsely : Prop := fnArrangeRow.holds Try.pinned (OpenSpec.ofChange fnArrangeWrong)

/-- 'laws.FnEmptied': WHATEVER THE INPUT: true; the input reads as it did. -/
def fnEmptiedSpec : ChangeSpec := { name := "fnEmptied", fn := fun _ => fun
  | [d1, d2] => { results := [.lit (.bool true)], args := [d1, d2] }
  | _ => none }
def fnEmptiedRow : OpenClaim := { program := "ytdmichkekipdpaa", sum := "6b4eacbd5e8c45dd3c95d0cf6995e10ec17bfdfa12e5eca893851fb5bf3465b2", func := "lib-beadroll/laws.FnEmptied", spec := "fnEmptied", unfollowed := true, recurses := true, apart := false }
def FnEmptiedSaid : Prop := fnEmptiedRow.holds Try.pinned (OpenSpec.ofChange fnEmptiedSpec)

/-- ITS FALSE NEIGHBOUR: 'it returns false'. Refute it at one input. -/
def fnEmptiedWrong : ChangeSpec := { name := "fnEmptied", fn := fun _ => fun
  | [d1, d2] => { results := [.lit (.bool false)], args := [d1, d2] }
  | _ => none }
def FnEmptiedWrongFalsely : Prop := fnEmptiedRow.holds Try.pinned (OpenSpec.ofChange fnEmptiedWrong)

/-- 'laws.FnEveryOrder': WHATEVER THE INPUT: true; the input reads as it did. -/
def fnEveryOrderSpec : ChangeSpec := { name := "fnEveryOrder", fn := fun _ => fun
  | [d1, d2, d3] => { results := [.lit (.bool true)], args := [d1, d2, d3] }
  | _ => none }
def fnEveryOrderRow : OpenClaim := { program := "ytdmichkekipdpaa", sum := "6b4eacbd5e8c45dd3c95d0cf6995e10ec17bfdfa12e5eca893851fb5bf3465b2", func := "lib-beadroll/laws.FnEveryOrder", spec := "fnEveryOrder", apart := false }
def FnEveryOrderSaid : Prop := fnEveryOrderRow.holds Try.pinned (OpenSpec.ofChange fnEveryOrderSpec)

/-- ITS FALSE NEIGHBOUR: 'it returns false'. Refute it at one input. -/
def fnEveryOrderWrong : ChangeSpec := { name := "fnEveryOrder", fn := fun _ => fun
  | [d1, d2, d3] => { results := [.lit (.bool false)], args := [d1, d2, d3] }
  | _ => none }
def FnEveryOrderWrongFalsely : Prop := fnEveryOrderRow.holds Try.pinned (OpenSpec.ofChange fnEveryOrderWrong)

/-- 'laws.FnReverse': WHATEVER THE INPUT: true; the input reads as it did. -/
def fnReverseSpec : ChangeSpec := { name := "fnReverse", fn := fun _ => fun
  | [d1, d2] => { results := [.lit (.bool true)], args := [d1, d2] }
  | _ => none }
def fnReverseRow : OpenClaim := { program := "ytdmichkekipdpaa", sum := "6b4eacbd5e8c45dd3c95d0cf6995e10ec17bfdfa12e5eca893851fb5bf3465b2", func := "lib-beadroll/laws.FnReverse", spec := "fnReverse", unfollowed := true, recurses := true, apart := false }
def FnReverseSaid : Prop := fnReverseRow.holds Try.pinned (OpenSpec.ofChange fnReverseSpec)

/-- ITS FALSE NEIGHBOUR: 'it returns false'. Refute it at one input. -/
def fnReverseWrong : ChangeSpec := { name := "fnReverse", fn := fun _ => fun
  | [d1, d2] => { results := [.lit (.bool false)], args := [d1, d2] }
  | _ => none }
def FnReverseWrongFalsely : Prop := fnReverseRow.holds Try.pinned (OpenSpec.ofChange fnReverseWrong)

/-- 'laws.FnBeforeIsAfterTheOneBefore': WHATEVER THE INPUT: true; the input reads as it did. -/
def fnBeforeIsAfterTheOneBeforeSpec : ChangeSpec := { name := "fnBeforeIsAfterTheOneBefore", fn := fun _ => fun
  | [d1, d2, d3, d4, d5] => { results := [.lit (.bool true)], args := [d1, d2, d3, d4, d5] }
  | _ => none }
def fnBeforeIsAfterTheOneBeforeRow : OpenClaim := { program := "ytdmichkekipdpaa", sum := "6b4eacbd5e8c45dd3c95d0cf6995e10ec17bfdfa12e5eca893851fb5bf3465b2", func := "lib-beadroll/laws.FnBeforeIsAfterTheOneBefore", spec := "fnBeforeIsAfterTheOneBefore", unfollowed := true, recurses := true, apart := false }
def FnBeforeIsAfterTheOneBeforeSaid : Prop := fnBeforeIsAfterTheOneBeforeRow.holds Try.pinned (OpenSpec.ofChange fnBeforeIsAfterTheOneBeforeSpec)

/-- ITS FALSE NEIGHBOUR: 'it returns false'. Refute it at one input. -/
def fnBeforeIsAfterTheOneBeforeWrong : ChangeSpec := { name := "fnBeforeIsAfterTheOneBefore", fn := fun _ => fun
  | [d1, d2, d3, d4, d5] => { results := [.lit (.bool false)], args := [d1, d2, d3, d4, d5] }
  | _ => none }
def FnBeforeIsAfterTheOneBeforeWrongFalsely : Prop := fnBeforeIsAfterTheOneBeforeRow.holds Try.pinned (OpenSpec.ofChange fnBeforeIsAfterTheOneBeforeWrong)

/-- 'laws.FnMoveAndBack': WHATEVER THE INPUT: true; the input reads as it did. -/
def fnMoveAndBackSpec : ChangeSpec := { name := "fnMoveAndBack", fn := fun _ => fun
  | [d1, d2, d3] => { results := [.lit (.bool true)], args := [d1, d2, d3] }
  | _ => none }
def fnMoveAndBackRow : OpenClaim := { program := "ytdmichkekipdpaa", sum := "6b4eacbd5e8c45dd3c95d0cf6995e10ec17bfdfa12e5eca893851fb5bf3465b2", func := "lib-beadroll/laws.FnMoveAndBack", spec := "fnMoveAndBack", unfollowed := true, recurses := true, apart := false }
def FnMoveAndBackSaid : Prop := fnMoveAndBackRow.holds Try.pinned (OpenSpec.ofChange fnMoveAndBackSpec)

/-- ITS FALSE NEIGHBOUR: 'it returns false'. Refute it at one input. -/
def fnMoveAndBackWrong : ChangeSpec := { name := "fnMoveAndBack", fn := fun _ => fun
  | [d1, d2, d3] => { results := [.lit (.bool false)], args := [d1, d2, d3] }
  | _ => none }
def FnMoveAndBackWrongFalsely : Prop := fnMoveAndBackRow.holds Try.pinned (OpenSpec.ofChange fnMoveAndBackWrong)

/-- 'laws.FnForeignChangesNothing': WHATEVER THE INPUT: true; the input reads as it did. -/
def fnForeignChangesNothingSpec : ChangeSpec := { name := "fnForeignChangesNothing", fn := fun _ => fun
  | [d1, d2, d3] => { results := [.lit (.bool true)], args := [d1, d2, d3] }
  | _ => none }
def fnForeignChangesNothingRow : OpenClaim := { program := "ytdmichkekipdpaa", sum := "6b4eacbd5e8c45dd3c95d0cf6995e10ec17bfdfa12e5eca893851fb5bf3465b2", func := "lib-beadroll/laws.FnForeignChangesNothing", spec := "fnForeignChangesNothing", unfollowed := true, recurses := true, apart := false }
def FnForeignChangesNothingSaid : Prop := fnForeignChangesNothingRow.holds Try.pinned (OpenSpec.ofChange fnForeignChangesNothingSpec)

/-- ITS FALSE NEIGHBOUR: 'it returns false'. Refute it at one input. -/
def fnForeignChangesNothingWrong : ChangeSpec := { name := "fnForeignChangesNothing", fn := fun _ => fun
  | [d1, d2, d3] => { results := [.lit (.bool false)], args := [d1, d2, d3] }
  | _ => none }
def FnForeignChangesNothingWrongFalsely : Prop := fnForeignChangesNothingRow.holds Try.pinned (OpenSpec.ofChange fnForeignChangesNothingWrong)

/- THE SECOND FORM. 'bulk': how many values and letters a reading holds, each counted each time it is reached (what is shared counts as often as it is met; a slice's spare places count too). A statement '..UptoSaid' is the law's where the arguments, and the package variables that the reading takes, are together of bulk at most 1048576: NARROWER than '..Said'. Prove '..Said' where nothing that the law and all that it calls make is longer than what came in: it says more and counts as full. Else prove '..UptoSaid'. A law counts once. -/
mutual
def uptoBulk {H : Type} : DataW H → Nat
  | .lit (.string bytes) => bytes.length + 1
  | .lit _ => 1
  | .nil => 1
  | .ptr d => uptoBulk d + 1
  | .slice elems spare => uptoBulkAll elems + uptoBulkAll spare + 1
  | .agg parts => uptoBulkAll parts + 1
  | .iface _ d => uptoBulk d + 1
  | .map entries => uptoBulkEntries entries + 1
  | .held _ => 1
def uptoBulkAll {H : Type} : List (DataW H) → Nat
  | [] => 0
  | d :: r => uptoBulk d + uptoBulkAll r
def uptoBulkEntries {H : Type} : List (Lit × DataW H) → Nat
  | [] => 0
  | x :: r => uptoBulkEntry x + uptoBulkEntries r
def uptoBulkEntry {H : Type} : Lit × DataW H → Nat
  | (.string bytes, d) => bytes.length + uptoBulk d + 1
  | (_, d) => uptoBulk d + 1
 end
def uptoSmall : (H : Type) → List (DataW H) → Bool := fun _ ds => decide (uptoBulkAll ds ≤ 1048576)
def OpenSpec.upto (s : _root_.Go.ChangeSpec) : _root_.Go.OpenSpec := { _root_.Go.OpenSpec.ofChange s with cond := some uptoSmall }

/-- 'laws.FnLooksChangeNothing', WHERE WHAT IT READS IS OF BULK AT MOST 1048576: true; the input reads as it did. -/
def fnLooksChangeNothingUptoRow : OpenClaim := { program := "ytdmichkekipdpaa", sum := "6b4eacbd5e8c45dd3c95d0cf6995e10ec17bfdfa12e5eca893851fb5bf3465b2", func := "lib-beadroll/laws.FnLooksChangeNothing", spec := "fnLooksChangeNothing", unfollowed := true, recurses := true, apart := false, narrowed := true }
def FnLooksChangeNothingUptoSaid : Prop := fnLooksChangeNothingUptoRow.holds Try.pinned (OpenSpec.upto fnLooksChangeNothingSpec)

/-- 'laws.FnMoveToEndIsMoveBesideEnd', WHERE WHAT IT READS IS OF BULK AT MOST 1048576: true; the input reads as it did. -/
def fnMoveToEndIsMoveBesideEndUptoRow : OpenClaim := { program := "ytdmichkekipdpaa", sum := "6b4eacbd5e8c45dd3c95d0cf6995e10ec17bfdfa12e5eca893851fb5bf3465b2", func := "lib-beadroll/laws.FnMoveToEndIsMoveBesideEnd", spec := "fnMoveToEndIsMoveBesideEnd", unfollowed := true, recurses := true, apart := false, narrowed := true }
def FnMoveToEndIsMoveBesideEndUptoSaid : Prop := fnMoveToEndIsMoveBesideEndUptoRow.holds Try.pinned (OpenSpec.upto fnMoveToEndIsMoveBesideEndSpec)

/-- 'laws.FnNeighboursChangePlaces', WHERE WHAT IT READS IS OF BULK AT MOST 1048576: true; the input reads as it did. -/
def fnNeighboursChangePlacesUptoRow : OpenClaim := { program := "ytdmichkekipdpaa", sum := "6b4eacbd5e8c45dd3c95d0cf6995e10ec17bfdfa12e5eca893851fb5bf3465b2", func := "lib-beadroll/laws.FnNeighboursChangePlaces", spec := "fnNeighboursChangePlaces", unfollowed := true, recurses := true, apart := false, narrowed := true }
def FnNeighboursChangePlacesUptoSaid : Prop := fnNeighboursChangePlacesUptoRow.holds Try.pinned (OpenSpec.upto fnNeighboursChangePlacesSpec)

/-- 'laws.FnPushAndRemove', WHERE WHAT IT READS IS OF BULK AT MOST 1048576: true; the input reads as it did. -/
def fnPushAndRemoveUptoRow : OpenClaim := { program := "ytdmichkekipdpaa", sum := "6b4eacbd5e8c45dd3c95d0cf6995e10ec17bfdfa12e5eca893851fb5bf3465b2", func := "lib-beadroll/laws.FnPushAndRemove", spec := "fnPushAndRemove", unfollowed := true, recurses := true, apart := false, narrowed := true }
def FnPushAndRemoveUptoSaid : Prop := fnPushAndRemoveUptoRow.holds Try.pinned (OpenSpec.upto fnPushAndRemoveSpec)

/-- 'laws.FnArrange', WHERE WHAT IT READS IS OF BULK AT MOST 1048576: true; the input reads as it did. -/
def fnArrangeUptoRow : OpenClaim := { program := "ytdmichkekipdpaa", sum := "6b4eacbd5e8c45dd3c95d0cf6995e10ec17bfdfa12e5eca893851fb5bf3465b2", func := "lib-beadroll/laws.FnArrange", spec := "fnArrange", apart := false, narrowed := true }
def FnArrangeUptoSaid : Prop := fnArrangeUptoRow.holds Try.pinned (OpenSpec.upto fnArrangeSpec)

/-- 'laws.FnEmptied', WHERE WHAT IT READS IS OF BULK AT MOST 1048576: true; the input reads as it did. -/
def fnEmptiedUptoRow : OpenClaim := { program := "ytdmichkekipdpaa", sum := "6b4eacbd5e8c45dd3c95d0cf6995e10ec17bfdfa12e5eca893851fb5bf3465b2", func := "lib-beadroll/laws.FnEmptied", spec := "fnEmptied", unfollowed := true, recurses := true, apart := false, narrowed := true }
def FnEmptiedUptoSaid : Prop := fnEmptiedUptoRow.holds Try.pinned (OpenSpec.upto fnEmptiedSpec)

/-- 'laws.FnEveryOrder', WHERE WHAT IT READS IS OF BULK AT MOST 1048576: true; the input reads as it did. -/
def fnEveryOrderUptoRow : OpenClaim := { program := "ytdmichkekipdpaa", sum := "6b4eacbd5e8c45dd3c95d0cf6995e10ec17bfdfa12e5eca893851fb5bf3465b2", func := "lib-beadroll/laws.FnEveryOrder", spec := "fnEveryOrder", apart := false, narrowed := true }
def FnEveryOrderUptoSaid : Prop := fnEveryOrderUptoRow.holds Try.pinned (OpenSpec.upto fnEveryOrderSpec)

/-- 'laws.FnReverse', WHERE WHAT IT READS IS OF BULK AT MOST 1048576: true; the input reads as it did. -/
def fnReverseUptoRow : OpenClaim := { program := "ytdmichkekipdpaa", sum := "6b4eacbd5e8c45dd3c95d0cf6995e10ec17bfdfa12e5eca893851fb5bf3465b2", func := "lib-beadroll/laws.FnReverse", spec := "fnReverse", unfollowed := true, recurses := true, apart := false, narrowed := true }
def FnReverseUptoSaid : Prop := fnReverseUptoRow.holds Try.pinned (OpenSpec.upto fnReverseSpec)

/-- 'laws.FnBeforeIsAfterTheOneBefore', WHERE WHAT IT READS IS OF BULK AT MOST 1048576: true; the input reads as it did. -/
def fnBeforeIsAfterTheOneBeforeUptoRow : OpenClaim := { program := "ytdmichkekipdpaa", sum := "6b4eacbd5e8c45dd3c95d0cf6995e10ec17bfdfa12e5eca893851fb5bf3465b2", func := "lib-beadroll/laws.FnBeforeIsAfterTheOneBefore", spec := "fnBeforeIsAfterTheOneBefore", unfollowed := true, recurses := true, apart := false, narrowed := true }
def FnBeforeIsAfterTheOneBeforeUptoSaid : Prop := fnBeforeIsAfterTheOneBeforeUptoRow.holds Try.pinned (OpenSpec.upto fnBeforeIsAfterTheOneBeforeSpec)

/-- 'laws.FnMoveAndBack', WHERE WHAT IT READS IS OF BULK AT MOST 1048576: true; the input reads as it did. -/
def fnMoveAndBackUptoRow : OpenClaim := { program := "ytdmichkekipdpaa", sum := "6b4eacbd5e8c45dd3c95d0cf6995e10ec17bfdfa12e5eca893851fb5bf3465b2", func := "lib-beadroll/laws.FnMoveAndBack", spec := "fnMoveAndBack", unfollowed := true, recurses := true, apart := false, narrowed := true }
def FnMoveAndBackUptoSaid : Prop := fnMoveAndBackUptoRow.holds Try.pinned (OpenSpec.upto fnMoveAndBackSpec)

/-- 'laws.FnForeignChangesNothing', WHERE WHAT IT READS IS OF BULK AT MOST 1048576: true; the input reads as it did. -/
def fnForeignChangesNothingUptoRow : OpenClaim := { program := "ytdmichkekipdpaa", sum := "6b4eacbd5e8c45dd3c95d0cf6995e10ec17bfdfa12e5eca893851fb5bf3465b2", func := "lib-beadroll/laws.FnForeignChangesNothing", spec := "fnForeignChangesNothing", unfollowed := true, recurses := true, apart := false, narrowed := true }
def FnForeignChangesNothingUptoSaid : Prop := fnForeignChangesNothingUptoRow.holds Try.pinned (OpenSpec.upto fnForeignChangesNothingSpec)

end Rows
end Go.Proofs.Ytdmichkekipdpaa
