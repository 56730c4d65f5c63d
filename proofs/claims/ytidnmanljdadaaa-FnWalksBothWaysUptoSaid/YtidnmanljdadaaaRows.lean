/-
  No cell of these rows narrows 'for every input' (looked for: loops, veiled, ifaces, maps, wideKeys, modest, calm, conditions, laid).
  DERIVED. THE GIVEN ROWS OF THIS SEAT. 6 by the template 'for every input the law returns true; each argument reads behind the call as it read before'; 0 by the template 'total and deterministic' (their statements: YtidnmanljdadaaaTotals.lean).
  GIVEN WITH THE SEED: the statements are not yours to turn. If you find one false, say at which input.
  Laid BY PROGRAM, IN A SANDBOX (cutbox-rows.mjs): the forced cells as the released guide's own fill.sh prints them over the translation bd04f501bc5ac650… (all of the seat's roots in one cut). By AI agents, Wed Nov 11 2026. No macro, syntax, notation, axiom, sorry.
-/
import Derived.Test.YtidnmanljdadaaaChecked
import GoSem.Claim
import GoSem.ClaimJoined
import GoSem.ClaimMapViews
import Derived.JoinedTies
import Derived.KernelRfl
namespace Go.Proofs.Ytidnmanljdadaaa
/- THE CELL 'sum', in the pinned program and in every row, IS THE sha256 OF THE DUMP (.gsa) THAT YtidnmanljdadaaaProg.lean LOADS. Nothing in Lean hashes anything: it is a label: what it is worth is what the hold of that sum in a sandbox is worth. -/
noncomputable def Try.pinned : Pinned := { name := "ytidnmanljdadaaa", sum := "bd04f501bc5ac650e987b72aa00775bd9521f6d799794fff79930417108b2beb", checked := Try.checked }
namespace Rows
def none {H : Type} : Left H := { results := [], args := [] }

/-- 'laws.FnIndependent': WHATEVER THE INPUT: true; the input reads as it did. -/
def fnIndependentSpec : ChangeSpec := { name := "fnIndependent", fn := fun _ => fun
  | [d1, d2, d3] => { results := [.lit (.bool true)], args := [d1, d2, d3] }
  | _ => none }
def fnIndependentRow : OpenClaim := { program := "ytidnmanljdadaaa", sum := "bd04f501bc5ac650e987b72aa00775bd9521f6d799794fff79930417108b2beb", func := "lib-beadroll/laws.FnIndependent", spec := "fnIndependent", unfollowed := true, recurses := true, apart := false }
def FnIndependentSaid : Prop := fnIndependentRow.holds Try.pinned (OpenSpec.ofChange fnIndependentSpec)

/-- ITS FALSE NEIGHBOUR: 'it returns false'. Refute it at one input. -/
def fnIndependentWrong : ChangeSpec := { name := "fnIndependent", fn := fun _ => fun
  | [d1, d2, d3] => { results := [.lit (.bool false)], args := [d1, d2, d3] }
  | _ => none }
def FnIndependentWrongFalsely : Prop := fnIndependentRow.holds Try.pinned (OpenSpec.ofChange fnIndependentWrong)

/-- 'laws.FnValuesAreCarried': WHATEVER THE INPUT: true; the input reads as it did. -/
def fnValuesAreCarriedSpec : ChangeSpec := { name := "fnValuesAreCarried", fn := fun _ => fun
  | [d1, d2] => { results := [.lit (.bool true)], args := [d1, d2] }
  | _ => none }
def fnValuesAreCarriedRow : OpenClaim := { program := "ytidnmanljdadaaa", sum := "bd04f501bc5ac650e987b72aa00775bd9521f6d799794fff79930417108b2beb", func := "lib-beadroll/laws.FnValuesAreCarried", spec := "fnValuesAreCarried", apart := false }
def FnValuesAreCarriedSaid : Prop := fnValuesAreCarriedRow.holds Try.pinned (OpenSpec.ofChange fnValuesAreCarriedSpec)

/-- ITS FALSE NEIGHBOUR: 'it returns false'. Refute it at one input. -/
def fnValuesAreCarriedWrong : ChangeSpec := { name := "fnValuesAreCarried", fn := fun _ => fun
  | [d1, d2] => { results := [.lit (.bool false)], args := [d1, d2] }
  | _ => none }
def FnValuesAreCarriedWrongFalsely : Prop := fnValuesAreCarriedRow.holds Try.pinned (OpenSpec.ofChange fnValuesAreCarriedWrong)

/-- 'laws.FnApart': WHATEVER THE INPUT: true; the input reads as it did. -/
def fnApartSpec : ChangeSpec := { name := "fnApart", fn := fun _ => fun
  | [d] => { results := [.lit (.bool true)], args := [d] }
  | _ => none }
def fnApartRow : OpenClaim := { program := "ytidnmanljdadaaa", sum := "bd04f501bc5ac650e987b72aa00775bd9521f6d799794fff79930417108b2beb", func := "lib-beadroll/laws.FnApart", spec := "fnApart", recurses := true, apart := false }
def FnApartSaid : Prop := fnApartRow.holds Try.pinned (OpenSpec.ofChange fnApartSpec)

/-- ITS FALSE NEIGHBOUR: 'it returns false'. Refute it at one input. -/
def fnApartWrong : ChangeSpec := { name := "fnApart", fn := fun _ => fun
  | [d] => { results := [.lit (.bool false)], args := [d] }
  | _ => none }
def FnApartWrongFalsely : Prop := fnApartRow.holds Try.pinned (OpenSpec.ofChange fnApartWrong)

/-- 'laws.FnInitIsNew': WHATEVER THE INPUT: true; the input reads as it did. -/
def fnInitIsNewSpec : ChangeSpec := { name := "fnInitIsNew", fn := fun _ => fun
  | [d1, d2, d3] => { results := [.lit (.bool true)], args := [d1, d2, d3] }
  | _ => none }
def fnInitIsNewRow : OpenClaim := { program := "ytidnmanljdadaaa", sum := "bd04f501bc5ac650e987b72aa00775bd9521f6d799794fff79930417108b2beb", func := "lib-beadroll/laws.FnInitIsNew", spec := "fnInitIsNew", unfollowed := true, recurses := true, apart := false }
def FnInitIsNewSaid : Prop := fnInitIsNewRow.holds Try.pinned (OpenSpec.ofChange fnInitIsNewSpec)

/-- ITS FALSE NEIGHBOUR: 'it returns false'. Refute it at one input. -/
def fnInitIsNewWrong : ChangeSpec := { name := "fnInitIsNew", fn := fun _ => fun
  | [d1, d2, d3] => { results := [.lit (.bool false)], args := [d1, d2, d3] }
  | _ => none }
def FnInitIsNewWrongFalsely : Prop := fnInitIsNewRow.holds Try.pinned (OpenSpec.ofChange fnInitIsNewWrong)

/-- 'laws.FnWalksBothWays': WHATEVER THE INPUT: true; the input reads as it did. -/
def fnWalksBothWaysSpec : ChangeSpec := { name := "fnWalksBothWays", fn := fun _ => fun
  | [d] => { results := [.lit (.bool true)], args := [d] }
  | _ => none }
def fnWalksBothWaysRow : OpenClaim := { program := "ytidnmanljdadaaa", sum := "bd04f501bc5ac650e987b72aa00775bd9521f6d799794fff79930417108b2beb", func := "lib-beadroll/laws.FnWalksBothWays", spec := "fnWalksBothWays", unfollowed := true, recurses := true, apart := false }
def FnWalksBothWaysSaid : Prop := fnWalksBothWaysRow.holds Try.pinned (OpenSpec.ofChange fnWalksBothWaysSpec)

/-- ITS FALSE NEIGHBOUR: 'it returns false'. Refute it at one input. -/
def fnWalksBothWaysWrong : ChangeSpec := { name := "fnWalksBothWays", fn := fun _ => fun
  | [d] => { results := [.lit (.bool false)], args := [d] }
  | _ => none }
def FnWalksBothWaysWrongFalsely : Prop := fnWalksBothWaysRow.holds Try.pinned (OpenSpec.ofChange fnWalksBothWaysWrong)

/-- 'laws.FnPushListKeepsElements': WHATEVER THE INPUT: true; the input reads as it did. -/
def fnPushListKeepsElementsSpec : ChangeSpec := { name := "fnPushListKeepsElements", fn := fun _ => fun
  | [d1, d2, d3] => { results := [.lit (.bool true)], args := [d1, d2, d3] }
  | _ => none }
def fnPushListKeepsElementsRow : OpenClaim := { program := "ytidnmanljdadaaa", sum := "bd04f501bc5ac650e987b72aa00775bd9521f6d799794fff79930417108b2beb", func := "lib-beadroll/laws.FnPushListKeepsElements", spec := "fnPushListKeepsElements", unfollowed := true, recurses := true, apart := false }
def FnPushListKeepsElementsSaid : Prop := fnPushListKeepsElementsRow.holds Try.pinned (OpenSpec.ofChange fnPushListKeepsElementsSpec)

/-- ITS FALSE NEIGHBOUR: 'it returns false'. Refute it at one input. -/
def fnPushListKeepsElementsWrong : ChangeSpec := { name := "fnPushListKeepsElements", fn := fun _ => fun
  | [d1, d2, d3] => { results := [.lit (.bool false)], args := [d1, d2, d3] }
  | _ => none }
def FnPushListKeepsElementsWrongFalsely : Prop := fnPushListKeepsElementsRow.holds Try.pinned (OpenSpec.ofChange fnPushListKeepsElementsWrong)

/- THE SECOND FORM. 'bulk': how many values and letters a reading holds, each counted each time it is reached (what is shared counts as often as it is met; a slice's spare places count too). A statement '..UptoSaid' is the law's where the arguments, and the package variables that the reading takes, are together of bulk at most 1048576: NARROWER than '..Said'. Prove '..Said' where nothing that the law and all that it calls make is longer than what came in: it says more and counts as full. Else prove '..UptoSaid'. A law counts once. -/
mutual
def uptoBulk {H : Type} : DataW H → Nat
  | .lit (.string bytes) => bytes.length + 1
  | .lit _ => 1
  | .nil => 1
  | .ptr d => uptoBulk d + 1
  | .slice elems spare => uptoBulkAll elems + uptoBulkAll spare + 1
  | .agg parts => uptoBulkAll parts + 1
  | .iface _ d => uptoBulk d + 1
  | .map entries => uptoBulkEntries entries + 1
  | .held _ => 1
def uptoBulkAll {H : Type} : List (DataW H) → Nat
  | [] => 0
  | d :: r => uptoBulk d + uptoBulkAll r
def uptoBulkEntries {H : Type} : List (Lit × DataW H) → Nat
  | [] => 0
  | x :: r => uptoBulkEntry x + uptoBulkEntries r
def uptoBulkEntry {H : Type} : Lit × DataW H → Nat
  | (.string bytes, d) => bytes.length + uptoBulk d + 1
  | (_, d) => uptoBulk d + 1
 end
def uptoSmall : (H : Type) → List (DataW H) → Bool := fun _ ds => decide (uptoBulkAll ds ≤ 1048576)
def OpenSpec.upto (s : _root_.Go.ChangeSpec) : _root_.Go.OpenSpec := { _root_.Go.OpenSpec.ofChange s with cond := some uptoSmall }

/-- 'laws.FnIndependent', WHERE WHAT IT READS IS OF BULK AT MOST 1048576: true; the input reads as it did. -/
def fnIndependentUptoRow : OpenClaim := { program := "ytidnmanljdadaaa", sum := "bd04f501bc5ac650e987b72aa00775bd9521f6d799794fff79930417108b2beb", func := "lib-beadroll/laws.FnIndependent", spec := "fnIndependent", unfollowed := true, recurses := true, apart := false, narrowed := true }
def FnIndependentUptoSaid : Prop := fnIndependentUptoRow.holds Try.pinned (OpenSpec.upto fnIndependentSpec)

/-- 'laws.FnValuesAreCarried', WHERE WHAT IT READS IS OF BULK AT MOST 1048576: true; the input reads as it did. -/
def fnValuesAreCarriedUptoRow : OpenClaim := { program := "ytidnmanljdadaaa", sum := "bd04f501bc5ac650e987b72aa00775bd9521f6d799794fff79930417108b2beb", func := "lib-beadroll/laws.FnValuesAreCarried", spec := "fnValuesAreCarried", apart := false, narrowed := true }
def FnValuesAreCarriedUptoSaid : Prop := fnValuesAreCarriedUptoRow.holds Try.pinned (OpenSpec.upto fnValuesAreCarriedSpec)

/-- 'laws.FnApart', WHERE WHAT IT READS IS OF BULK AT MOST 1048576: true; the input reads as it did. -/
def fnApartUptoRow : OpenClaim := { program := "ytidnmanljdadaaa", sum := "bd04f501bc5ac650e987b72aa00775bd9521f6d799794fff79930417108b2beb", func := "lib-beadroll/laws.FnApart", spec := "fnApart", recurses := true, apart := false, narrowed := true }
def FnApartUptoSaid : Prop := fnApartUptoRow.holds Try.pinned (OpenSpec.upto fnApartSpec)

/-- 'laws.FnInitIsNew', WHERE WHAT IT READS IS OF BULK AT MOST 1048576: true; the input reads as it did. -/
def fnInitIsNewUptoRow : OpenClaim := { program := "ytidnmanljdadaaa", sum := "bd04f501bc5ac650e987b72aa00775bd9521f6d799794fff79930417108b2beb", func := "lib-beadroll/laws.FnInitIsNew", spec := "fnInitIsNew", unfollowed := true, recurses := true, apart := false, narrowed := true }
def FnInitIsNewUptoSaid : Prop := fnInitIsNewUptoRow.holds Try.pinned (OpenSpec.upto fnInitIsNewSpec)

/-- 'laws.FnWalksBothWays', WHERE WHAT IT READS IS OF BULK AT MOST 1048576: true; the input reads as it did. -/
def fnWalksBothWaysUptoRow : OpenClaim := { program := "ytidnmanljdadaaa", sum := "bd04f501bc5ac650e987b72aa00775bd9521f6d799794fff79930417108b2beb", func := "lib-beadroll/laws.FnWalksBothWays", spec := "fnWalksBothWays", unfollowed := true, recurses := true, apart := false, narrowed := true }
def FnWalksBothWaysUptoSaid : Prop := fnWalksBothWaysUptoRow.holds Try.pinned (OpenSpec.upto fnWalksBothWaysSpec)

/-- 'laws.FnPushListKeepsElements', WHERE WHAT IT READS IS OF BULK AT MOST 1048576: true; the input reads as it did. -/
def fnPushListKeepsElementsUptoRow : OpenClaim := { program := "ytidnmanljdadaaa", sum := "bd04f501bc5ac650e987b72aa00775bd9521f6d799794fff79930417108b2beb", func := "lib-beadroll/laws.FnPushListKeepsElements", spec := "fnPushListKeepsElements", unfollowed := true, recurses := true, apart := false, narrowed := true }
def FnPushListKeepsElementsUptoSaid : Prop := fnPushListKeepsElementsUptoRow.holds Try.pinned (OpenSpec.upto fnPushListKeepsElementsSpec)

end Rows
end Go.Proofs.Ytidnmanljdadaaa
