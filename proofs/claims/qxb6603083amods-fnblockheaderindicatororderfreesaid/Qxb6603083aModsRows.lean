/-
  No cell of these rows narrows 'for every input' (looked for: loops, veiled, ifaces, maps, wideKeys, modest, calm, conditions, laid).
  DERIVED. THE GIVEN ROWS OF THIS SEAT. 5 by the template 'for every input the law returns true; each argument reads behind the call as it read before'; 0 by the template 'total and deterministic' (their statements: Qxb6603083aModsTotals.lean).
  GIVEN WITH THE SEED: the statements are not yours to turn. If you find one false, say at which input.
  Laid BY PROGRAM, IN A SANDBOX (cutbox-rows.mjs): the forced cells as the released guide's own fill.sh prints them over the translation d6712398b043f902… (all of the seat's roots in one cut). By AI agents, Wed Nov 11 2026. No macro, syntax, notation, axiom, sorry.
-/
import Derived.Test.Qxb6603083aModsChecked
import GoSem.Claim
import GoSem.ClaimJoined
import GoSem.ClaimMapViews
import Derived.JoinedTies
import Derived.KernelRfl
namespace Go.Proofs.Qxb6603083aMods
/- THE CELL 'sum', in the pinned program and in every row, IS THE sha256 OF THE DUMP (.gsa) THAT Qxb6603083aModsProg.lean LOADS. Nothing in Lean hashes anything: it is a label: what it is worth is what the hold of that sum in a sandbox is worth. -/
noncomputable def Trym.pinned : Pinned := { name := "qxb6603083amods", sum := "d6712398b043f902b4ee3329218855b9c1016ff083b4427ef389bfdd73a181de", checked := Trym.checked }
namespace Rows
def none {H : Type} : Left H := { results := [], args := [] }

/-- 'zzlaws_decode_b1.FnBlockHeaderMatchesShapeTable': WHATEVER THE INPUT: true; the input reads as it did. -/
def fnBlockHeaderMatchesShapeTableSpec : ChangeSpec := { name := "fnBlockHeaderMatchesShapeTable", fn := fun _ => fun
  | [d1, d2] => { results := [.lit (.bool true)], args := [d1, d2] }
  | _ => none }
def fnBlockHeaderMatchesShapeTableRow : OpenClaim := { program := "qxb6603083amods", sum := "d6712398b043f902b4ee3329218855b9c1016ff083b4427ef389bfdd73a181de", func := "example.com/waterline/waterline/zzlaws_decode_b1.FnBlockHeaderMatchesShapeTable", spec := "fnBlockHeaderMatchesShapeTable", make := .lifted ["publicsums"], apart := false }
def FnBlockHeaderMatchesShapeTableSaid : Prop := fnBlockHeaderMatchesShapeTableRow.holds Trym.pinned (OpenSpec.ofChange fnBlockHeaderMatchesShapeTableSpec)

/-- ITS FALSE NEIGHBOUR: 'it returns false'. Refute it at one input. -/
def fnBlockHeaderMatchesShapeTableWrong : ChangeSpec := { name := "fnBlockHeaderMatchesShapeTable", fn := fun _ => fun
  | [d1, d2] => { results := [.lit (.bool false)], args := [d1, d2] }
  | _ => none }
def FnBlockHeaderMatchesShapeTableWrongFalsely : Prop := fnBlockHeaderMatchesShapeTableRow.holds Trym.pinned (OpenSpec.ofChange fnBlockHeaderMatchesShapeTableWrong)

/-- 'zzlaws_decode_b1.FnBlockHeaderIndicatorOrderFree': WHATEVER THE INPUT: true; the input reads as it did. -/
def fnBlockHeaderIndicatorOrderFreeSpec : ChangeSpec := { name := "fnBlockHeaderIndicatorOrderFree", fn := fun _ => fun
  | [d1, d2] => { results := [.lit (.bool true)], args := [d1, d2] }
  | _ => none }
def fnBlockHeaderIndicatorOrderFreeRow : OpenClaim := { program := "qxb6603083amods", sum := "d6712398b043f902b4ee3329218855b9c1016ff083b4427ef389bfdd73a181de", func := "example.com/waterline/waterline/zzlaws_decode_b1.FnBlockHeaderIndicatorOrderFree", spec := "fnBlockHeaderIndicatorOrderFree", make := .lifted ["publicsums"], apart := false }
def FnBlockHeaderIndicatorOrderFreeSaid : Prop := fnBlockHeaderIndicatorOrderFreeRow.holds Trym.pinned (OpenSpec.ofChange fnBlockHeaderIndicatorOrderFreeSpec)

/-- ITS FALSE NEIGHBOUR: 'it returns false'. Refute it at one input. -/
def fnBlockHeaderIndicatorOrderFreeWrong : ChangeSpec := { name := "fnBlockHeaderIndicatorOrderFree", fn := fun _ => fun
  | [d1, d2] => { results := [.lit (.bool false)], args := [d1, d2] }
  | _ => none }
def FnBlockHeaderIndicatorOrderFreeWrongFalsely : Prop := fnBlockHeaderIndicatorOrderFreeRow.holds Trym.pinned (OpenSpec.ofChange fnBlockHeaderIndicatorOrderFreeWrong)

/-- 'zzlaws_decode_b1.FnPlainScalarMatchesFirstStopModel': WHATEVER THE INPUT: true; the input reads as it did. -/
def fnPlainScalarMatchesFirstStopModelSpec : ChangeSpec := { name := "fnPlainScalarMatchesFirstStopModel", fn := fun _ => fun
  | [d1, d2] => { results := [.lit (.bool true)], args := [d1, d2] }
  | _ => none }
def fnPlainScalarMatchesFirstStopModelRow : OpenClaim := { program := "qxb6603083amods", sum := "d6712398b043f902b4ee3329218855b9c1016ff083b4427ef389bfdd73a181de", func := "example.com/waterline/waterline/zzlaws_decode_b1.FnPlainScalarMatchesFirstStopModel", spec := "fnPlainScalarMatchesFirstStopModel", make := .lifted ["publicsums"], apart := false }
def FnPlainScalarMatchesFirstStopModelSaid : Prop := fnPlainScalarMatchesFirstStopModelRow.holds Trym.pinned (OpenSpec.ofChange fnPlainScalarMatchesFirstStopModelSpec)

/-- ITS FALSE NEIGHBOUR: 'it returns false'. Refute it at one input. -/
def fnPlainScalarMatchesFirstStopModelWrong : ChangeSpec := { name := "fnPlainScalarMatchesFirstStopModel", fn := fun _ => fun
  | [d1, d2] => { results := [.lit (.bool false)], args := [d1, d2] }
  | _ => none }
def FnPlainScalarMatchesFirstStopModelWrongFalsely : Prop := fnPlainScalarMatchesFirstStopModelRow.holds Trym.pinned (OpenSpec.ofChange fnPlainScalarMatchesFirstStopModelWrong)

/-- 'zzlaws_decode_b1.FnPlainScalarShiftInvariant': WHATEVER THE INPUT: true; the input reads as it did. -/
def fnPlainScalarShiftInvariantSpec : ChangeSpec := { name := "fnPlainScalarShiftInvariant", fn := fun _ => fun
  | [d1, d2] => { results := [.lit (.bool true)], args := [d1, d2] }
  | _ => none }
def fnPlainScalarShiftInvariantRow : OpenClaim := { program := "qxb6603083amods", sum := "d6712398b043f902b4ee3329218855b9c1016ff083b4427ef389bfdd73a181de", func := "example.com/waterline/waterline/zzlaws_decode_b1.FnPlainScalarShiftInvariant", spec := "fnPlainScalarShiftInvariant", make := .lifted ["publicsums"], apart := false }
def FnPlainScalarShiftInvariantSaid : Prop := fnPlainScalarShiftInvariantRow.holds Trym.pinned (OpenSpec.ofChange fnPlainScalarShiftInvariantSpec)

/-- ITS FALSE NEIGHBOUR: 'it returns false'. Refute it at one input. -/
def fnPlainScalarShiftInvariantWrong : ChangeSpec := { name := "fnPlainScalarShiftInvariant", fn := fun _ => fun
  | [d1, d2] => { results := [.lit (.bool false)], args := [d1, d2] }
  | _ => none }
def FnPlainScalarShiftInvariantWrongFalsely : Prop := fnPlainScalarShiftInvariantRow.holds Trym.pinned (OpenSpec.ofChange fnPlainScalarShiftInvariantWrong)

/-- 'zzlaws_decode_b1.FnSpacingFollowScriptClosedForm': WHATEVER THE INPUT: true; the input reads as it did. -/
def fnSpacingFollowScriptClosedFormSpec : ChangeSpec := { name := "fnSpacingFollowScriptClosedForm", fn := fun _ => fun
  | [d1, d2, d3, d4, d5, d6, d7] => { results := [.lit (.bool true)], args := [d1, d2, d3, d4, d5, d6, d7] }
  | _ => none }
def fnSpacingFollowScriptClosedFormRow : OpenClaim := { program := "qxb6603083amods", sum := "d6712398b043f902b4ee3329218855b9c1016ff083b4427ef389bfdd73a181de", func := "example.com/waterline/waterline/zzlaws_decode_b1.FnSpacingFollowScriptClosedForm", spec := "fnSpacingFollowScriptClosedForm", make := .lifted ["publicsums"], apart := false }
def FnSpacingFollowScriptClosedFormSaid : Prop := fnSpacingFollowScriptClosedFormRow.holds Trym.pinned (OpenSpec.ofChange fnSpacingFollowScriptClosedFormSpec)

/-- ITS FALSE NEIGHBOUR: 'it returns false'. Refute it at one input. -/
def fnSpacingFollowScriptClosedFormWrong : ChangeSpec := { name := "fnSpacingFollowScriptClosedForm", fn := fun _ => fun
  | [d1, d2, d3, d4, d5, d6, d7] => { results := [.lit (.bool false)], args := [d1, d2, d3, d4, d5, d6, d7] }
  | _ => none }
def FnSpacingFollowScriptClosedFormWrongFalsely : Prop := fnSpacingFollowScriptClosedFormRow.holds Trym.pinned (OpenSpec.ofChange fnSpacingFollowScriptClosedFormWrong)

end Rows
end Go.Proofs.Qxb6603083aMods
