/-
  No cell of these rows narrows 'for every input' (looked for: loops, veiled, ifaces, maps, wideKeys, modest, calm, conditions, laid).
  DERIVED. THE GIVEN ROWS OF THIS SEAT. 3 by the template 'for every input the law returns true; each argument reads behind the call as it read before'; 0 by the template 'total and deterministic' (their statements: Qxb6603739aModsTotals.lean).
  GIVEN WITH THE SEED: the statements are not yours to turn. If you find one false, say at which input.
  Laid BY PROGRAM, IN A SANDBOX (cutbox-rows.mjs): the forced cells as the released guide's own fill.sh prints them over the translation 146afb841f3eb625… (all of the seat's roots in one cut). By AI agents, Wed Nov 11 2026. No macro, syntax, notation, axiom, sorry.
-/
import Derived.Test.Qxb6603739aModsChecked
import GoSem.Claim
import GoSem.ClaimJoined
import GoSem.ClaimMapViews
import Derived.JoinedTies
import Derived.KernelRfl
namespace Go.Proofs.Qxb6603739aMods
/- THE CELL 'sum', in the pinned program and in every row, IS THE sha256 OF THE DUMP (.gsa) THAT Qxb6603739aModsProg.lean LOADS. Nothing in Lean hashes anything: it is a label: what it is worth is what the hold of that sum in a sandbox is worth. -/
noncomputable def Trym.pinned : Pinned := { name := "qxb6603739amods", sum := "146afb841f3eb62590a2cb426abe443adc370f9a19cc08bd8aaf4006451f821c", checked := Trym.checked }
namespace Rows
def none {H : Type} : Left H := { results := [], args := [] }

/-- 'zzlaws_snapshot_b1.FnChosenAboveAgreesWithKeyScan': WHATEVER THE INPUT: true; the input reads as it did. -/
def fnChosenAboveAgreesWithKeyScanSpec : ChangeSpec := { name := "fnChosenAboveAgreesWithKeyScan", fn := fun _ => fun
  | [d1, d2, d3] => { results := [.lit (.bool true)], args := [d1, d2, d3] }
  | _ => none }
def fnChosenAboveAgreesWithKeyScanRow : OpenClaim := { program := "qxb6603739amods", sum := "146afb841f3eb62590a2cb426abe443adc370f9a19cc08bd8aaf4006451f821c", func := "example.com/chunkwell/chunkwell/zzlaws_snapshot_b1.FnChosenAboveAgreesWithKeyScan", spec := "fnChosenAboveAgreesWithKeyScan", make := .lifted ["publicsums"], apart := false }
def FnChosenAboveAgreesWithKeyScanSaid : Prop := fnChosenAboveAgreesWithKeyScanRow.holds Trym.pinned (OpenSpec.ofChange fnChosenAboveAgreesWithKeyScanSpec)

/-- ITS FALSE NEIGHBOUR: 'it returns false'. Refute it at one input. -/
def fnChosenAboveAgreesWithKeyScanWrong : ChangeSpec := { name := "fnChosenAboveAgreesWithKeyScan", fn := fun _ => fun
  | [d1, d2, d3] => { results := [.lit (.bool false)], args := [d1, d2, d3] }
  | _ => none }
def FnChosenAboveAgreesWithKeyScanWrongFalsely : Prop := fnChosenAboveAgreesWithKeyScanRow.holds Trym.pinned (OpenSpec.ofChange fnChosenAboveAgreesWithKeyScanWrong)

/-- 'zzlaws_snapshot_b1.FnChosenAboveStepsByParent': WHATEVER THE INPUT: true; the input reads as it did. -/
def fnChosenAboveStepsByParentSpec : ChangeSpec := { name := "fnChosenAboveStepsByParent", fn := fun _ => fun
  | [d1, d2, d3, d4] => { results := [.lit (.bool true)], args := [d1, d2, d3, d4] }
  | _ => none }
def fnChosenAboveStepsByParentRow : OpenClaim := { program := "qxb6603739amods", sum := "146afb841f3eb62590a2cb426abe443adc370f9a19cc08bd8aaf4006451f821c", func := "example.com/chunkwell/chunkwell/zzlaws_snapshot_b1.FnChosenAboveStepsByParent", spec := "fnChosenAboveStepsByParent", make := .lifted ["publicsums"], apart := false }
def FnChosenAboveStepsByParentSaid : Prop := fnChosenAboveStepsByParentRow.holds Trym.pinned (OpenSpec.ofChange fnChosenAboveStepsByParentSpec)

/-- ITS FALSE NEIGHBOUR: 'it returns false'. Refute it at one input. -/
def fnChosenAboveStepsByParentWrong : ChangeSpec := { name := "fnChosenAboveStepsByParent", fn := fun _ => fun
  | [d1, d2, d3, d4] => { results := [.lit (.bool false)], args := [d1, d2, d3, d4] }
  | _ => none }
def FnChosenAboveStepsByParentWrongFalsely : Prop := fnChosenAboveStepsByParentRow.holds Trym.pinned (OpenSpec.ofChange fnChosenAboveStepsByParentWrong)

/-- 'zzlaws_snapshot_b1.FnChosenAboveInheritedBelow': WHATEVER THE INPUT: true; the input reads as it did. -/
def fnChosenAboveInheritedBelowSpec : ChangeSpec := { name := "fnChosenAboveInheritedBelow", fn := fun _ => fun
  | [d1, d2, d3, d4] => { results := [.lit (.bool true)], args := [d1, d2, d3, d4] }
  | _ => none }
def fnChosenAboveInheritedBelowRow : OpenClaim := { program := "qxb6603739amods", sum := "146afb841f3eb62590a2cb426abe443adc370f9a19cc08bd8aaf4006451f821c", func := "example.com/chunkwell/chunkwell/zzlaws_snapshot_b1.FnChosenAboveInheritedBelow", spec := "fnChosenAboveInheritedBelow", make := .lifted ["publicsums"], apart := false }
def FnChosenAboveInheritedBelowSaid : Prop := fnChosenAboveInheritedBelowRow.holds Trym.pinned (OpenSpec.ofChange fnChosenAboveInheritedBelowSpec)

/-- ITS FALSE NEIGHBOUR: 'it returns false'. Refute it at one input. -/
def fnChosenAboveInheritedBelowWrong : ChangeSpec := { name := "fnChosenAboveInheritedBelow", fn := fun _ => fun
  | [d1, d2, d3, d4] => { results := [.lit (.bool false)], args := [d1, d2, d3, d4] }
  | _ => none }
def FnChosenAboveInheritedBelowWrongFalsely : Prop := fnChosenAboveInheritedBelowRow.holds Trym.pinned (OpenSpec.ofChange fnChosenAboveInheritedBelowWrong)

end Rows
end Go.Proofs.Qxb6603739aMods
