/-
  No cell of these rows narrows 'for every input' (looked for: loops, veiled, ifaces, maps, wideKeys, modest, calm, conditions, laid).
  DERIVED. THE GIVEN ROWS OF THIS SEAT. 3 by the template 'for every input the law returns true; each argument reads behind the call as it read before'; 0 by the template 'total and deterministic' (their statements: YthpgkmkdknmibaaTotals.lean).
  GIVEN WITH THE SEED: the statements are not yours to turn. If you find one false, say at which input.
  Laid BY PROGRAM, IN A SANDBOX (cutbox-rows.mjs): the forced cells as the released guide's own fill.sh prints them over the translation 2d422f943542bdc3… (all of the seat's roots in one cut). By AI agents, Wed Nov 11 2026. No macro, syntax, notation, axiom, sorry.
-/
import Derived.Test.YthpgkmkdknmibaaChecked
import GoSem.Claim
import GoSem.ClaimJoined
import GoSem.ClaimMapViews
import Derived.JoinedTies
import Derived.KernelRfl
namespace Go.Proofs.Ythpgkmkdknmibaa
/- THE CELL 'sum', in the pinned program and in every row, IS THE sha256 OF THE DUMP (.gsa) THAT YthpgkmkdknmibaaProg.lean LOADS. Nothing in Lean hashes anything: it is a label: what it is worth is what the hold of that sum in a sandbox is worth. -/
noncomputable def Try.pinned : Pinned := { name := "ythpgkmkdknmibaa", sum := "2d422f943542bdc3429fac2125d4b21d22b9d069a524110e132fcc8164307c3d", checked := Try.checked }
namespace Rows
def none {H : Type} : Left H := { results := [], args := [] }

/-- 'laws.FnKeepsValues': WHATEVER THE INPUT: true; the input reads as it did. -/
def fnKeepsValuesSpec : ChangeSpec := { name := "fnKeepsValues", fn := fun _ => fun
  | [d1, d2] => { results := [.lit (.bool true)], args := [d1, d2] }
  | _ => none }
def fnKeepsValuesRow : OpenClaim := { program := "ythpgkmkdknmibaa", sum := "2d422f943542bdc3429fac2125d4b21d22b9d069a524110e132fcc8164307c3d", func := "lib-beadroll/laws.FnKeepsValues", spec := "fnKeepsValues", apart := false }
def FnKeepsValuesSaid : Prop := fnKeepsValuesRow.holds Try.pinned (OpenSpec.ofChange fnKeepsValuesSpec)

/-- ITS FALSE NEIGHBOUR: 'it returns false'. Refute it at one input. -/
def fnKeepsValuesWrong : ChangeSpec := { name := "fnKeepsValues", fn := fun _ => fun
  | [d1, d2] => { results := [.lit (.bool false)], args := [d1, d2] }
  | _ => none }
def FnKeepsValuesWrongFalsely : Prop := fnKeepsValuesRow.holds Try.pinned (OpenSpec.ofChange fnKeepsValuesWrong)

/-- 'laws.FnPlays': WHATEVER THE INPUT: true; the input reads as it did. -/
def fnPlaysSpec : ChangeSpec := { name := "fnPlays", fn := fun _ => fun
  | [d] => { results := [.lit (.bool true)], args := [d] }
  | _ => none }
def fnPlaysRow : OpenClaim := { program := "ythpgkmkdknmibaa", sum := "2d422f943542bdc3429fac2125d4b21d22b9d069a524110e132fcc8164307c3d", func := "lib-beadroll/laws.FnPlays", spec := "fnPlays", apart := false }
def FnPlaysSaid : Prop := fnPlaysRow.holds Try.pinned (OpenSpec.ofChange fnPlaysSpec)

/-- ITS FALSE NEIGHBOUR: 'it returns false'. Refute it at one input. -/
def fnPlaysWrong : ChangeSpec := { name := "fnPlays", fn := fun _ => fun
  | [d] => { results := [.lit (.bool false)], args := [d] }
  | _ => none }
def FnPlaysWrongFalsely : Prop := fnPlaysRow.holds Try.pinned (OpenSpec.ofChange fnPlaysWrong)

/-- 'laws.FnPlaysAll': WHATEVER THE INPUT: true; the input reads as it did. -/
def fnPlaysAllSpec : ChangeSpec := { name := "fnPlaysAll", fn := fun _ => fun
  | [d] => { results := [.lit (.bool true)], args := [d] }
  | _ => none }
def fnPlaysAllRow : OpenClaim := { program := "ythpgkmkdknmibaa", sum := "2d422f943542bdc3429fac2125d4b21d22b9d069a524110e132fcc8164307c3d", func := "lib-beadroll/laws.FnPlaysAll", spec := "fnPlaysAll", apart := false }
def FnPlaysAllSaid : Prop := fnPlaysAllRow.holds Try.pinned (OpenSpec.ofChange fnPlaysAllSpec)

/-- ITS FALSE NEIGHBOUR: 'it returns false'. Refute it at one input. -/
def fnPlaysAllWrong : ChangeSpec := { name := "fnPlaysAll", fn := fun _ => fun
  | [d] => { results := [.lit (.bool false)], args := [d] }
  | _ => none }
def FnPlaysAllWrongFalsely : Prop := fnPlaysAllRow.holds Try.pinned (OpenSpec.ofChange fnPlaysAllWrong)

/- THE SECOND FORM. 'bulk': how many values and letters a reading holds, each counted each time it is reached (what is shared counts as often as it is met; a slice's spare places count too). A statement '..UptoSaid' is the law's where the arguments, and the package variables that the reading takes, are together of bulk at most 1048576: NARROWER than '..Said'. Prove '..Said' where nothing that the law and all that it calls make is longer than what came in: it says more and counts as full. Else prove '..UptoSaid'. A law counts once. -/
mutual
def uptoBulk {H : Type} : DataW H → Nat
  | .lit (.string bytes) => bytes.length + 1
  | .lit _ => 1
  | .nil => 1
  | .ptr d => uptoBulk d + 1
  | .slice elems spare => uptoBulkAll elems + uptoBulkAll spare + 1
  | .agg parts => uptoBulkAll parts + 1
  | .iface _ d => uptoBulk d + 1
  | .map entries => uptoBulkEntries entries + 1
  | .held _ => 1
def uptoBulkAll {H : Type} : List (DataW H) → Nat
  | [] => 0
  | d :: r => uptoBulk d + uptoBulkAll r
def uptoBulkEntries {H : Type} : List (Lit × DataW H) → Nat
  | [] => 0
  | x :: r => uptoBulkEntry x + uptoBulkEntries r
def uptoBulkEntry {H : Type} : Lit × DataW H → Nat
  | (.string bytes, d) => bytes.length + uptoBulk d + 1
  | (_, d) => uptoBulk d + 1
 end
def uptoSmall : (H : Type) → List (DataW H) → Bool := fun _ ds => decide (uptoBulkAll ds ≤ 1048576)
def OpenSpec.upto (s : _root_.Go.ChangeSpec) : _root_.Go.OpenSpec := { _root_.Go.OpenSpec.ofChange s with cond := some uptoSmall }

/-- 'laws.FnKeepsValues', WHERE WHAT IT READS IS OF BULK AT MOST 1048576: true; the input reads as it did. -/
def fnKeepsValuesUptoRow : OpenClaim := { program := "ythpgkmkdknmibaa", sum := "2d422f943542bdc3429fac2125d4b21d22b9d069a524110e132fcc8164307c3d", func := "lib-beadroll/laws.FnKeepsValues", spec := "fnKeepsValues", apart := false, narrowed := true }
def FnKeepsValuesUptoSaid : Prop := fnKeepsValuesUptoRow.holds Try.pinned (OpenSpec.upto fnKeepsValuesSpec)

/-- 'laws.FnPlays', WHERE WHAT IT READS IS OF BULK AT MOST 1048576: true; the input reads as it did. -/
def fnPlaysUptoRow : OpenClaim := { program := "ythpgkmkdknmibaa", sum := "2d422f943542bdc3429fac2125d4b21d22b9d069a524110e132fcc8164307c3d", func := "lib-beadroll/laws.FnPlays", spec := "fnPlays", apart := false, narrowed := true }
def FnPlaysUptoSaid : Prop := fnPlaysUptoRow.holds Try.pinned (OpenSpec.upto fnPlaysSpec)

/-- 'laws.FnPlaysAll', WHERE WHAT IT READS IS OF BULK AT MOST 1048576: true; the input reads as it did. -/
def fnPlaysAllUptoRow : OpenClaim := { program := "ythpgkmkdknmibaa", sum := "2d422f943542bdc3429fac2125d4b21d22b9d069a524110e132fcc8164307c3d", func := "lib-beadroll/laws.FnPlaysAll", spec := "fnPlaysAll", apart := false, narrowed := true }
def FnPlaysAllUptoSaid : Prop := fnPlaysAllUptoRow.holds Try.pinned (OpenSpec.upto fnPlaysAllSpec)

end Rows
end Go.Proofs.Ythpgkmkdknmibaa
