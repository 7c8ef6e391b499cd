/-
  No cell of these rows narrows 'for every input' (looked for: loops, veiled, ifaces, maps, wideKeys, modest, calm, conditions, laid).
  DERIVED. THE GIVEN ROWS OF THIS SEAT. 7 by the template 'for every input the law returns true; each argument reads behind the call as it read before'; 0 by the template 'total and deterministic' (their statements: Qxb6601557aTotals.lean).
  GIVEN WITH THE SEED: the statements are not yours to turn. If you find one false, say at which input.
  Laid BY PROGRAM, IN A SANDBOX (cutbox-rows.mjs): the forced cells as the released guide's own fill.sh prints them over the translation 88b2bb9b86edd388… (all of the seat's roots in one cut). By AI agents, Wed Nov 11 2026. No macro, syntax, notation, axiom, sorry.
-/
import Derived.Test.Qxb6601557aChecked
import GoSem.Claim
import GoSem.ClaimJoined
import GoSem.ClaimMapViews
import Derived.JoinedTies
import Derived.KernelRfl
namespace Go.Proofs.Qxb6601557a
/- THE CELL 'sum', in the pinned program and in every row, IS THE sha256 OF THE DUMP (.gsa) THAT Qxb6601557aProg.lean LOADS. Nothing in Lean hashes anything: it is a label: what it is worth is what the hold of that sum in a sandbox is worth. -/
noncomputable def Try.pinned : Pinned := { name := "qxb6601557a", sum := "88b2bb9b86edd388403ccbbe57b2591fc0df360218f2ebbb6f9a97e3c144292a", checked := Try.checked }
namespace Rows
def none {H : Type} : Left H := { results := [], args := [] }

/-- 'zzlaws_root_b1.FnFoldMatchesModel': WHATEVER THE INPUT: true; the input reads as it did. -/
def fnFoldMatchesModelSpec : ChangeSpec := { name := "fnFoldMatchesModel", fn := fun _ => fun
  | [d1, d2, d3, d4, d5, d6, d7, d8, d9, d10, d11, d12] => { results := [.lit (.bool true)], args := [d1, d2, d3, d4, d5, d6, d7, d8, d9, d10, d11, d12] }
  | _ => none }
def fnFoldMatchesModelRow : OpenClaim := { program := "qxb6601557a", sum := "88b2bb9b86edd388403ccbbe57b2591fc0df360218f2ebbb6f9a97e3c144292a", func := "example.com/chainstamp/chainstamp/zzlaws_root_b1.FnFoldMatchesModel", spec := "fnFoldMatchesModel", plainKeys := false, apart := false }
def FnFoldMatchesModelSaid : Prop := fnFoldMatchesModelRow.holds Try.pinned (OpenSpec.ofChange fnFoldMatchesModelSpec)

/-- ITS FALSE NEIGHBOUR: 'it returns false'. Refute it at one input. -/
def fnFoldMatchesModelWrong : ChangeSpec := { name := "fnFoldMatchesModel", fn := fun _ => fun
  | [d1, d2, d3, d4, d5, d6, d7, d8, d9, d10, d11, d12] => { results := [.lit (.bool false)], args := [d1, d2, d3, d4, d5, d6, d7, d8, d9, d10, d11, d12] }
  | _ => none }
def FnFoldMatchesModelWrongFalsely : Prop := fnFoldMatchesModelRow.holds Try.pinned (OpenSpec.ofChange fnFoldMatchesModelWrong)

/-- 'zzlaws_root_b1.FnFoldKeepsGraphAndDegrees': WHATEVER THE INPUT: true; the input reads as it did. -/
def fnFoldKeepsGraphAndDegreesSpec : ChangeSpec := { name := "fnFoldKeepsGraphAndDegrees", fn := fun _ => fun
  | [d1, d2, d3, d4] => { results := [.lit (.bool true)], args := [d1, d2, d3, d4] }
  | _ => none }
def fnFoldKeepsGraphAndDegreesRow : OpenClaim := { program := "qxb6601557a", sum := "88b2bb9b86edd388403ccbbe57b2591fc0df360218f2ebbb6f9a97e3c144292a", func := "example.com/chainstamp/chainstamp/zzlaws_root_b1.FnFoldKeepsGraphAndDegrees", spec := "fnFoldKeepsGraphAndDegrees", plainKeys := false, apart := false }
def FnFoldKeepsGraphAndDegreesSaid : Prop := fnFoldKeepsGraphAndDegreesRow.holds Try.pinned (OpenSpec.ofChange fnFoldKeepsGraphAndDegreesSpec)

/-- ITS FALSE NEIGHBOUR: 'it returns false'. Refute it at one input. -/
def fnFoldKeepsGraphAndDegreesWrong : ChangeSpec := { name := "fnFoldKeepsGraphAndDegrees", fn := fun _ => fun
  | [d1, d2, d3, d4] => { results := [.lit (.bool false)], args := [d1, d2, d3, d4] }
  | _ => none }
def FnFoldKeepsGraphAndDegreesWrongFalsely : Prop := fnFoldKeepsGraphAndDegreesRow.holds Try.pinned (OpenSpec.ofChange fnFoldKeepsGraphAndDegreesWrong)

/-- 'zzlaws_root_b1.FnCliquesMatchesGreedyModel': WHATEVER THE INPUT: true; the input reads as it did. -/
def fnCliquesMatchesGreedyModelSpec : ChangeSpec := { name := "fnCliquesMatchesGreedyModel", fn := fun _ => fun
  | [d1, d2, d3, d4, d5, d6] => { results := [.lit (.bool true)], args := [d1, d2, d3, d4, d5, d6] }
  | _ => none }
def fnCliquesMatchesGreedyModelRow : OpenClaim := { program := "qxb6601557a", sum := "88b2bb9b86edd388403ccbbe57b2591fc0df360218f2ebbb6f9a97e3c144292a", func := "example.com/chainstamp/chainstamp/zzlaws_root_b1.FnCliquesMatchesGreedyModel", spec := "fnCliquesMatchesGreedyModel", unfollowed := true, recurses := true, plainKeys := false, apart := false }
def FnCliquesMatchesGreedyModelSaid : Prop := fnCliquesMatchesGreedyModelRow.holds Try.pinned (OpenSpec.ofChange fnCliquesMatchesGreedyModelSpec)

/-- ITS FALSE NEIGHBOUR: 'it returns false'. Refute it at one input. -/
def fnCliquesMatchesGreedyModelWrong : ChangeSpec := { name := "fnCliquesMatchesGreedyModel", fn := fun _ => fun
  | [d1, d2, d3, d4, d5, d6] => { results := [.lit (.bool false)], args := [d1, d2, d3, d4, d5, d6] }
  | _ => none }
def FnCliquesMatchesGreedyModelWrongFalsely : Prop := fnCliquesMatchesGreedyModelRow.holds Try.pinned (OpenSpec.ofChange fnCliquesMatchesGreedyModelWrong)

/-- 'zzlaws_root_b1.FnCliquesArePartitionIntoCliques': WHATEVER THE INPUT: true; the input reads as it did. -/
def fnCliquesArePartitionIntoCliquesSpec : ChangeSpec := { name := "fnCliquesArePartitionIntoCliques", fn := fun _ => fun
  | [d1, d2, d3, d4] => { results := [.lit (.bool true)], args := [d1, d2, d3, d4] }
  | _ => none }
def fnCliquesArePartitionIntoCliquesRow : OpenClaim := { program := "qxb6601557a", sum := "88b2bb9b86edd388403ccbbe57b2591fc0df360218f2ebbb6f9a97e3c144292a", func := "example.com/chainstamp/chainstamp/zzlaws_root_b1.FnCliquesArePartitionIntoCliques", spec := "fnCliquesArePartitionIntoCliques", unfollowed := true, recurses := true, plainKeys := false, apart := false }
def FnCliquesArePartitionIntoCliquesSaid : Prop := fnCliquesArePartitionIntoCliquesRow.holds Try.pinned (OpenSpec.ofChange fnCliquesArePartitionIntoCliquesSpec)

/-- ITS FALSE NEIGHBOUR: 'it returns false'. Refute it at one input. -/
def fnCliquesArePartitionIntoCliquesWrong : ChangeSpec := { name := "fnCliquesArePartitionIntoCliques", fn := fun _ => fun
  | [d1, d2, d3, d4] => { results := [.lit (.bool false)], args := [d1, d2, d3, d4] }
  | _ => none }
def FnCliquesArePartitionIntoCliquesWrongFalsely : Prop := fnCliquesArePartitionIntoCliquesRow.holds Try.pinned (OpenSpec.ofChange fnCliquesArePartitionIntoCliquesWrong)

/-- 'zzlaws_root_b1.FnTriangleThreadMatchesModel': WHATEVER THE INPUT: true; the input reads as it did. -/
def fnTriangleThreadMatchesModelSpec : ChangeSpec := { name := "fnTriangleThreadMatchesModel", fn := fun _ => fun
  | [d1, d2, d3, d4, d5, d6, d7] => { results := [.lit (.bool true)], args := [d1, d2, d3, d4, d5, d6, d7] }
  | _ => none }
def fnTriangleThreadMatchesModelRow : OpenClaim := { program := "qxb6601557a", sum := "88b2bb9b86edd388403ccbbe57b2591fc0df360218f2ebbb6f9a97e3c144292a", func := "example.com/chainstamp/chainstamp/zzlaws_root_b1.FnTriangleThreadMatchesModel", spec := "fnTriangleThreadMatchesModel", unfollowed := true, recurses := true, plainKeys := false, apart := false }
def FnTriangleThreadMatchesModelSaid : Prop := fnTriangleThreadMatchesModelRow.holds Try.pinned (OpenSpec.ofChange fnTriangleThreadMatchesModelSpec)

/-- ITS FALSE NEIGHBOUR: 'it returns false'. Refute it at one input. -/
def fnTriangleThreadMatchesModelWrong : ChangeSpec := { name := "fnTriangleThreadMatchesModel", fn := fun _ => fun
  | [d1, d2, d3, d4, d5, d6, d7] => { results := [.lit (.bool false)], args := [d1, d2, d3, d4, d5, d6, d7] }
  | _ => none }
def FnTriangleThreadMatchesModelWrongFalsely : Prop := fnTriangleThreadMatchesModelRow.holds Try.pinned (OpenSpec.ofChange fnTriangleThreadMatchesModelWrong)

/-- 'zzlaws_root_b1.FnTriangleThreadPlainMonotone': WHATEVER THE INPUT: true; the input reads as it did. -/
def fnTriangleThreadPlainMonotoneSpec : ChangeSpec := { name := "fnTriangleThreadPlainMonotone", fn := fun _ => fun
  | [d1, d2, d3, d4, d5, d6] => { results := [.lit (.bool true)], args := [d1, d2, d3, d4, d5, d6] }
  | _ => none }
def fnTriangleThreadPlainMonotoneRow : OpenClaim := { program := "qxb6601557a", sum := "88b2bb9b86edd388403ccbbe57b2591fc0df360218f2ebbb6f9a97e3c144292a", func := "example.com/chainstamp/chainstamp/zzlaws_root_b1.FnTriangleThreadPlainMonotone", spec := "fnTriangleThreadPlainMonotone", unfollowed := true, recurses := true, plainKeys := false, apart := false }
def FnTriangleThreadPlainMonotoneSaid : Prop := fnTriangleThreadPlainMonotoneRow.holds Try.pinned (OpenSpec.ofChange fnTriangleThreadPlainMonotoneSpec)

/-- ITS FALSE NEIGHBOUR: 'it returns false'. Refute it at one input. -/
def fnTriangleThreadPlainMonotoneWrong : ChangeSpec := { name := "fnTriangleThreadPlainMonotone", fn := fun _ => fun
  | [d1, d2, d3, d4, d5, d6] => { results := [.lit (.bool false)], args := [d1, d2, d3, d4, d5, d6] }
  | _ => none }
def FnTriangleThreadPlainMonotoneWrongFalsely : Prop := fnTriangleThreadPlainMonotoneRow.holds Try.pinned (OpenSpec.ofChange fnTriangleThreadPlainMonotoneWrong)

/-- 'zzlaws_root_b1.FnCliqueOfThreeMeansTriangleThread': WHATEVER THE INPUT: true; the input reads as it did. -/
def fnCliqueOfThreeMeansTriangleThreadSpec : ChangeSpec := { name := "fnCliqueOfThreeMeansTriangleThread", fn := fun _ => fun
  | [d1, d2, d3, d4] => { results := [.lit (.bool true)], args := [d1, d2, d3, d4] }
  | _ => none }
def fnCliqueOfThreeMeansTriangleThreadRow : OpenClaim := { program := "qxb6601557a", sum := "88b2bb9b86edd388403ccbbe57b2591fc0df360218f2ebbb6f9a97e3c144292a", func := "example.com/chainstamp/chainstamp/zzlaws_root_b1.FnCliqueOfThreeMeansTriangleThread", spec := "fnCliqueOfThreeMeansTriangleThread", unfollowed := true, recurses := true, plainKeys := false, apart := false }
def FnCliqueOfThreeMeansTriangleThreadSaid : Prop := fnCliqueOfThreeMeansTriangleThreadRow.holds Try.pinned (OpenSpec.ofChange fnCliqueOfThreeMeansTriangleThreadSpec)

/-- ITS FALSE NEIGHBOUR: 'it returns false'. Refute it at one input. -/
def fnCliqueOfThreeMeansTriangleThreadWrong : ChangeSpec := { name := "fnCliqueOfThreeMeansTriangleThread", fn := fun _ => fun
  | [d1, d2, d3, d4] => { results := [.lit (.bool false)], args := [d1, d2, d3, d4] }
  | _ => none }
def FnCliqueOfThreeMeansTriangleThreadWrongFalsely : Prop := fnCliqueOfThreeMeansTriangleThreadRow.holds Try.pinned (OpenSpec.ofChange fnCliqueOfThreeMeansTriangleThreadWrong)

end Rows
end Go.Proofs.Qxb6601557a
