/-
  No cell of these rows narrows 'for every input' (looked for: loops, veiled, ifaces, maps, wideKeys, modest, calm, conditions, laid).
  DERIVED. THE GIVEN ROWS OF THIS SEAT. 9 by the template 'for every input the law returns true; each argument reads behind the call as it read before'; 0 by the template 'total and deterministic' (their statements: YtdkahhocapepeaaTotals.lean).
  GIVEN WITH THE SEED: the statements are not yours to turn. If you find one false, say at which input.
  Laid BY PROGRAM, IN A SANDBOX (cutbox-rows.mjs): the forced cells as the released guide's own fill.sh prints them over the translation 2615f861e6b7443c… (all of the seat's roots in one cut). By AI agents, Wed Nov 11 2026. No macro, syntax, notation, axiom, sorry.
-/
import Derived.Test.YtdkahhocapepeaaChecked
import GoSem.Claim
import GoSem.ClaimJoined
import GoSem.ClaimMapViews
import Derived.JoinedTies
import Derived.KernelRfl
namespace Go.Proofs.Ytdkahhocapepeaa
/- THE CELL 'sum', in the pinned program and in every row, IS THE sha256 OF THE DUMP (.gsa) THAT YtdkahhocapepeaaProg.lean LOADS. Nothing in Lean hashes anything: it is a label: what it is worth is what the hold of that sum in a sandbox is worth. -/
noncomputable def Try.pinned : Pinned := { name := "ytdkahhocapepeaa", sum := "2615f861e6b7443c07ad0680b65718d189b25c8d214ed2bcd8805f07ba07a1a2", checked := Try.checked }
namespace Rows
def none {H : Type} : Left H := { results := [], args := [] }

/-- 'laws.FnPlays': WHATEVER THE INPUT: true; the input reads as it did. -/
def fnPlaysSpec : ChangeSpec := { name := "fnPlays", fn := fun _ => fun
  | [d] => { results := [.lit (.bool true)], args := [d] }
  | _ => none }
def fnPlaysRow : OpenClaim := { program := "ytdkahhocapepeaa", sum := "2615f861e6b7443c07ad0680b65718d189b25c8d214ed2bcd8805f07ba07a1a2", func := "lib-beadroll/laws.FnPlays", spec := "fnPlays", apart := false }
def FnPlaysSaid : Prop := fnPlaysRow.holds Try.pinned (OpenSpec.ofChange fnPlaysSpec)

/-- ITS FALSE NEIGHBOUR: 'it returns false'. Refute it at one input. -/
def fnPlaysWrong : ChangeSpec := { name := "fnPlays", fn := fun _ => fun
  | [d] => { results := [.lit (.bool false)], args := [d] }
  | _ => none }
def FnPlaysWrongFalsely : Prop := fnPlaysRow.holds Try.pinned (OpenSpec.ofChange fnPlaysWrong)

/-- 'laws.FnPlaysAll': WHATEVER THE INPUT: true; the input reads as it did. -/
def fnPlaysAllSpec : ChangeSpec := { name := "fnPlaysAll", fn := fun _ => fun
  | [d] => { results := [.lit (.bool true)], args := [d] }
  | _ => none }
def fnPlaysAllRow : OpenClaim := { program := "ytdkahhocapepeaa", sum := "2615f861e6b7443c07ad0680b65718d189b25c8d214ed2bcd8805f07ba07a1a2", func := "lib-beadroll/laws.FnPlaysAll", spec := "fnPlaysAll", apart := false }
def FnPlaysAllSaid : Prop := fnPlaysAllRow.holds Try.pinned (OpenSpec.ofChange fnPlaysAllSpec)

/-- ITS FALSE NEIGHBOUR: 'it returns false'. Refute it at one input. -/
def fnPlaysAllWrong : ChangeSpec := { name := "fnPlaysAll", fn := fun _ => fun
  | [d] => { results := [.lit (.bool false)], args := [d] }
  | _ => none }
def FnPlaysAllWrongFalsely : Prop := fnPlaysAllRow.holds Try.pinned (OpenSpec.ofChange fnPlaysAllWrong)

/-- 'laws.FnIndependent': WHATEVER THE INPUT: true; the input reads as it did. -/
def fnIndependentSpec : ChangeSpec := { name := "fnIndependent", fn := fun _ => fun
  | [d1, d2, d3] => { results := [.lit (.bool true)], args := [d1, d2, d3] }
  | _ => none }
def fnIndependentRow : OpenClaim := { program := "ytdkahhocapepeaa", sum := "2615f861e6b7443c07ad0680b65718d189b25c8d214ed2bcd8805f07ba07a1a2", func := "lib-beadroll/laws.FnIndependent", spec := "fnIndependent", unfollowed := true, recurses := true, apart := false }
def FnIndependentSaid : Prop := fnIndependentRow.holds Try.pinned (OpenSpec.ofChange fnIndependentSpec)

/-- ITS FALSE NEIGHBOUR: 'it returns false'. Refute it at one input. -/
def fnIndependentWrong : ChangeSpec := { name := "fnIndependent", fn := fun _ => fun
  | [d1, d2, d3] => { results := [.lit (.bool false)], args := [d1, d2, d3] }
  | _ => none }
def FnIndependentWrongFalsely : Prop := fnIndependentRow.holds Try.pinned (OpenSpec.ofChange fnIndependentWrong)

/-- 'laws.FnExchanged': WHATEVER THE INPUT: true; the input reads as it did. -/
def fnExchangedSpec : ChangeSpec := { name := "fnExchanged", fn := fun _ => fun
  | [d] => { results := [.lit (.bool true)], args := [d] }
  | _ => none }
def fnExchangedRow : OpenClaim := { program := "ytdkahhocapepeaa", sum := "2615f861e6b7443c07ad0680b65718d189b25c8d214ed2bcd8805f07ba07a1a2", func := "lib-beadroll/laws.FnExchanged", spec := "fnExchanged", apart := false }
def FnExchangedSaid : Prop := fnExchangedRow.holds Try.pinned (OpenSpec.ofChange fnExchangedSpec)

/-- ITS FALSE NEIGHBOUR: 'it returns false'. Refute it at one input. -/
def fnExchangedWrong : ChangeSpec := { name := "fnExchanged", fn := fun _ => fun
  | [d] => { results := [.lit (.bool false)], args := [d] }
  | _ => none }
def FnExchangedWrongFalsely : Prop := fnExchangedRow.holds Try.pinned (OpenSpec.ofChange fnExchangedWrong)

/-- 'laws.FnMirror': WHATEVER THE INPUT: true; the input reads as it did. -/
def fnMirrorSpec : ChangeSpec := { name := "fnMirror", fn := fun _ => fun
  | [d] => { results := [.lit (.bool true)], args := [d] }
  | _ => none }
def fnMirrorRow : OpenClaim := { program := "ytdkahhocapepeaa", sum := "2615f861e6b7443c07ad0680b65718d189b25c8d214ed2bcd8805f07ba07a1a2", func := "lib-beadroll/laws.FnMirror", spec := "fnMirror", apart := false }
def FnMirrorSaid : Prop := fnMirrorRow.holds Try.pinned (OpenSpec.ofChange fnMirrorSpec)

/-- ITS FALSE NEIGHBOUR: 'it returns false'. Refute it at one input. -/
def fnMirrorWrong : ChangeSpec := { name := "fnMirror", fn := fun _ => fun
  | [d] => { results := [.lit (.bool false)], args := [d] }
  | _ => none }
def FnMirrorWrongFalsely : Prop := fnMirrorRow.holds Try.pinned (OpenSpec.ofChange fnMirrorWrong)

/-- 'laws.FnValuesAreCarried': WHATEVER THE INPUT: true; the input reads as it did. -/
def fnValuesAreCarriedSpec : ChangeSpec := { name := "fnValuesAreCarried", fn := fun _ => fun
  | [d1, d2] => { results := [.lit (.bool true)], args := [d1, d2] }
  | _ => none }
def fnValuesAreCarriedRow : OpenClaim := { program := "ytdkahhocapepeaa", sum := "2615f861e6b7443c07ad0680b65718d189b25c8d214ed2bcd8805f07ba07a1a2", func := "lib-beadroll/laws.FnValuesAreCarried", spec := "fnValuesAreCarried", apart := false }
def FnValuesAreCarriedSaid : Prop := fnValuesAreCarriedRow.holds Try.pinned (OpenSpec.ofChange fnValuesAreCarriedSpec)

/-- ITS FALSE NEIGHBOUR: 'it returns false'. Refute it at one input. -/
def fnValuesAreCarriedWrong : ChangeSpec := { name := "fnValuesAreCarried", fn := fun _ => fun
  | [d1, d2] => { results := [.lit (.bool false)], args := [d1, d2] }
  | _ => none }
def FnValuesAreCarriedWrongFalsely : Prop := fnValuesAreCarriedRow.holds Try.pinned (OpenSpec.ofChange fnValuesAreCarriedWrong)

/-- 'laws.FnZeroIsNew': WHATEVER THE INPUT: true; the input reads as it did. -/
def fnZeroIsNewSpec : ChangeSpec := { name := "fnZeroIsNew", fn := fun _ => fun
  | [d] => { results := [.lit (.bool true)], args := [d] }
  | _ => none }
def fnZeroIsNewRow : OpenClaim := { program := "ytdkahhocapepeaa", sum := "2615f861e6b7443c07ad0680b65718d189b25c8d214ed2bcd8805f07ba07a1a2", func := "lib-beadroll/laws.FnZeroIsNew", spec := "fnZeroIsNew", apart := false }
def FnZeroIsNewSaid : Prop := fnZeroIsNewRow.holds Try.pinned (OpenSpec.ofChange fnZeroIsNewSpec)

/-- ITS FALSE NEIGHBOUR: 'it returns false'. Refute it at one input. -/
def fnZeroIsNewWrong : ChangeSpec := { name := "fnZeroIsNew", fn := fun _ => fun
  | [d] => { results := [.lit (.bool false)], args := [d] }
  | _ => none }
def FnZeroIsNewWrongFalsely : Prop := fnZeroIsNewRow.holds Try.pinned (OpenSpec.ofChange fnZeroIsNewWrong)

/-- 'laws.FnAnswersStay': WHATEVER THE INPUT: true; the input reads as it did. -/
def fnAnswersStaySpec : ChangeSpec := { name := "fnAnswersStay", fn := fun _ => fun
  | [d1, d2] => { results := [.lit (.bool true)], args := [d1, d2] }
  | _ => none }
def fnAnswersStayRow : OpenClaim := { program := "ytdkahhocapepeaa", sum := "2615f861e6b7443c07ad0680b65718d189b25c8d214ed2bcd8805f07ba07a1a2", func := "lib-beadroll/laws.FnAnswersStay", spec := "fnAnswersStay", apart := false }
def FnAnswersStaySaid : Prop := fnAnswersStayRow.holds Try.pinned (OpenSpec.ofChange fnAnswersStaySpec)

/-- ITS FALSE NEIGHBOUR: 'it returns false'. Refute it at one input. -/
def fnAnswersStayWrong : ChangeSpec := { name := "fnAnswersStay", fn := fun _ => fun
  | [d1, d2] => { results := [.lit (.bool false)], args := [d1, d2] }
  | _ => none }
def FnAnswersStayWrongFalsely : Prop := fnAnswersStayRow.holds Try.pinned (OpenSpec.ofChange fnAnswersStayWrong)

/-- 'laws.FnInitIsNew': WHATEVER THE INPUT: true; the input reads as it did. -/
def fnInitIsNewSpec : ChangeSpec := { name := "fnInitIsNew", fn := fun _ => fun
  | [d1, d2, d3] => { results := [.lit (.bool true)], args := [d1, d2, d3] }
  | _ => none }
def fnInitIsNewRow : OpenClaim := { program := "ytdkahhocapepeaa", sum := "2615f861e6b7443c07ad0680b65718d189b25c8d214ed2bcd8805f07ba07a1a2", func := "lib-beadroll/laws.FnInitIsNew", spec := "fnInitIsNew", unfollowed := true, recurses := true, apart := false }
def FnInitIsNewSaid : Prop := fnInitIsNewRow.holds Try.pinned (OpenSpec.ofChange fnInitIsNewSpec)

/-- ITS FALSE NEIGHBOUR: 'it returns false'. Refute it at one input. -/
def fnInitIsNewWrong : ChangeSpec := { name := "fnInitIsNew", fn := fun _ => fun
  | [d1, d2, d3] => { results := [.lit (.bool false)], args := [d1, d2, d3] }
  | _ => none }
def FnInitIsNewWrongFalsely : Prop := fnInitIsNewRow.holds Try.pinned (OpenSpec.ofChange fnInitIsNewWrong)

/- THE SECOND FORM. 'bulk': how many values and letters a reading holds, each counted each time it is reached (what is shared counts as often as it is met; a slice's spare places count too). A statement '..UptoSaid' is the law's where the arguments, and the package variables that the reading takes, are together of bulk at most 1048576: NARROWER than '..Said'. Prove '..Said' where nothing that the law and all that it calls make is longer than what came in: it says more and counts as full. Else prove '..UptoSaid'. A law counts once. -/
mutual
def uptoBulk {H : Type} : DataW H → Nat
  | .lit (.string bytes) => bytes.length + 1
  | .lit _ => 1
  | .nil => 1
  | .ptr d => uptoBulk d + 1
  | .slice elems spare => uptoBulkAll elems + uptoBulkAll spare + 1
  | .agg parts => uptoBulkAll parts + 1
  | .iface _ d => uptoBulk d + 1
  | .map entries => uptoBulkEntries entries + 1
  | .held _ => 1
def uptoBulkAll {H : Type} : List (DataW H) → Nat
  | [] => 0
  | d :: r => uptoBulk d + uptoBulkAll r
def uptoBulkEntries {H : Type} : List (Lit × DataW H) → Nat
  | [] => 0
  | x :: r => uptoBulkEntry x + uptoBulkEntries r
def uptoBulkEntry {H : Type} : Lit × DataW H → Nat
  | (.string bytes, d) => bytes.length + uptoBulk d + 1
  | (_, d) => uptoBulk d + 1
 end
def uptoSmall : (H : Type) → List (DataW H) → Bool := fun _ ds => decide (uptoBulkAll ds ≤ 1048576)
def OpenSpec.upto (s : _root_.Go.ChangeSpec) : _root_.Go.OpenSpec := { _root_.Go.OpenSpec.ofChange s with cond := some uptoSmall }

/-- 'laws.FnPlays', WHERE WHAT IT READS IS OF BULK AT MOST 1048576: true; the input reads as it did. -/
def fnPlaysUptoRow : OpenClaim := { program := "ytdkahhocapepeaa", sum := "2615f861e6b7443c07ad0680b65718d189b25c8d214ed2bcd8805f07ba07a1a2", func := "lib-beadroll/laws.FnPlays", spec := "fnPlays", apart := false, narrowed := true }
def FnPlaysUptoSaid : Prop := fnPlaysUptoRow.holds Try.pinned (OpenSpec.upto fnPlaysSpec)

/-- 'laws.FnPlaysAll', WHERE WHAT IT READS IS OF BULK AT MOST 1048576: true; the input reads as it did. -/
def fnPlaysAllUptoRow : OpenClaim := { program := "ytdkahhocapepeaa", sum := "2615f861e6b7443c07ad0680b65718d189b25c8d214ed2bcd8805f07ba07a1a2", func := "lib-beadroll/laws.FnPlaysAll", spec := "fnPlaysAll", apart := false, narrowed := true }
def FnPlaysAllUptoSaid : Prop := fnPlaysAllUptoRow.holds Try.pinned (OpenSpec.upto fnPlaysAllSpec)

/-- 'laws.FnIndependent', WHERE WHAT IT READS IS OF BULK AT MOST 1048576: true; the input reads as it did. -/
def fnIndependentUptoRow : OpenClaim := { program := "ytdkahhocapepeaa", sum := "2615f861e6b7443c07ad0680b65718d189b25c8d214ed2bcd8805f07ba07a1a2", func := "lib-beadroll/laws.FnIndependent", spec := "fnIndependent", unfollowed := true, recurses := true, apart := false, narrowed := true }
def FnIndependentUptoSaid : Prop := fnIndependentUptoRow.holds Try.pinned (OpenSpec.upto fnIndependentSpec)

/-- 'laws.FnExchanged', WHERE WHAT IT READS IS OF BULK AT MOST 1048576: true; the input reads as it did. -/
def fnExchangedUptoRow : OpenClaim := { program := "ytdkahhocapepeaa", sum := "2615f861e6b7443c07ad0680b65718d189b25c8d214ed2bcd8805f07ba07a1a2", func := "lib-beadroll/laws.FnExchanged", spec := "fnExchanged", apart := false, narrowed := true }
def FnExchangedUptoSaid : Prop := fnExchangedUptoRow.holds Try.pinned (OpenSpec.upto fnExchangedSpec)

/-- 'laws.FnMirror', WHERE WHAT IT READS IS OF BULK AT MOST 1048576: true; the input reads as it did. -/
def fnMirrorUptoRow : OpenClaim := { program := "ytdkahhocapepeaa", sum := "2615f861e6b7443c07ad0680b65718d189b25c8d214ed2bcd8805f07ba07a1a2", func := "lib-beadroll/laws.FnMirror", spec := "fnMirror", apart := false, narrowed := true }
def FnMirrorUptoSaid : Prop := fnMirrorUptoRow.holds Try.pinned (OpenSpec.upto fnMirrorSpec)

/-- 'laws.FnValuesAreCarried', WHERE WHAT IT READS IS OF BULK AT MOST 1048576: true; the input reads as it did. -/
def fnValuesAreCarriedUptoRow : OpenClaim := { program := "ytdkahhocapepeaa", sum := "2615f861e6b7443c07ad0680b65718d189b25c8d214ed2bcd8805f07ba07a1a2", func := "lib-beadroll/laws.FnValuesAreCarried", spec := "fnValuesAreCarried", apart := false, narrowed := true }
def FnValuesAreCarriedUptoSaid : Prop := fnValuesAreCarriedUptoRow.holds Try.pinned (OpenSpec.upto fnValuesAreCarriedSpec)

/-- 'laws.FnZeroIsNew', WHERE WHAT IT READS IS OF BULK AT MOST 1048576: true; the input reads as it did. -/
def fnZeroIsNewUptoRow : OpenClaim := { program := "ytdkahhocapepeaa", sum := "2615f861e6b7443c07ad0680b65718d189b25c8d214ed2bcd8805f07ba07a1a2", func := "lib-beadroll/laws.FnZeroIsNew", spec := "fnZeroIsNew", apart := false, narrowed := true }
def FnZeroIsNewUptoSaid : Prop := fnZeroIsNewUptoRow.holds Try.pinned (OpenSpec.upto fnZeroIsNewSpec)

/-- 'laws.FnAnswersStay', WHERE WHAT IT READS IS OF BULK AT MOST 1048576: true; the input reads as it did. -/
def fnAnswersStayUptoRow : OpenClaim := { program := "ytdkahhocapepeaa", sum := "2615f861e6b7443c07ad0680b65718d189b25c8d214ed2bcd8805f07ba07a1a2", func := "lib-beadroll/laws.FnAnswersStay", spec := "fnAnswersStay", apart := false, narrowed := true }
def FnAnswersStayUptoSaid : Prop := fnAnswersStayUptoRow.holds Try.pinned (OpenSpec.upto fnAnswersStaySpec)

/-- 'laws.FnInitIsNew', WHERE WHAT IT READS IS OF BULK AT MOST 1048576: true; the input reads as it did. -/
def fnInitIsNewUptoRow : OpenClaim := { program := "ytdkahhocapepeaa", sum := "2615f861e6b7443c07ad0680b65718d189b25c8d214ed2bcd8805f07ba07a1a2", func := "lib-beadroll/laws.FnInitIsNew", spec := "fnInitIsNew", unfollowed := true, recurses := true, apart := false, narrowed := true }
def FnInitIsNewUptoSaid : Prop := fnInitIsNewUptoRow.holds Try.pinned (OpenSpec.upto fnInitIsNewSpec)

end Rows
end Go.Proofs.Ytdkahhocapepeaa
