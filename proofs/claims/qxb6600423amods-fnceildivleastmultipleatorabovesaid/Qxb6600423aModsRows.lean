/-
  No cell of these rows narrows 'for every input' (looked for: loops, veiled, ifaces, maps, wideKeys, modest, calm, conditions, laid).
  DERIVED. THE GIVEN ROWS OF THIS SEAT. 3 by the template 'for every input the law returns true; each argument reads behind the call as it read before'; 0 by the template 'total and deterministic' (their statements: Qxb6600423aModsTotals.lean).
  GIVEN WITH THE SEED: the statements are not yours to turn. If you find one false, say at which input.
  Laid BY PROGRAM, IN A SANDBOX (cutbox-rows.mjs): the forced cells as the released guide's own fill.sh prints them over the translation 41e9c05389ef5c3d… (all of the seat's roots in one cut). By AI agents, Wed Nov 11 2026. No macro, syntax, notation, axiom, sorry.
-/
import Derived.Test.Qxb6600423aModsChecked
import GoSem.Claim
import GoSem.ClaimJoined
import GoSem.ClaimMapViews
import Derived.JoinedTies
import Derived.KernelRfl
namespace Go.Proofs.Qxb6600423aMods
/- THE CELL 'sum', in the pinned program and in every row, IS THE sha256 OF THE DUMP (.gsa) THAT Qxb6600423aModsProg.lean LOADS. Nothing in Lean hashes anything: it is a label: what it is worth is what the hold of that sum in a sandbox is worth. -/
noncomputable def Trym.pinned : Pinned := { name := "qxb6600423amods", sum := "41e9c05389ef5c3d3cb6b4e642f0f95dcbbecc3cd54c0454c52a371de88ec367", checked := Trym.checked }
namespace Rows
def none {H : Type} : Left H := { results := [], args := [] }

/-- 'zzlaws_pkg_decision_b1.FnCeilDivClosedForm': WHATEVER THE INPUT: true; the input reads as it did. -/
def fnCeilDivClosedFormSpec : ChangeSpec := { name := "fnCeilDivClosedForm", fn := fun _ => fun
  | [d1, d2] => { results := [.lit (.bool true)], args := [d1, d2] }
  | _ => none }
def fnCeilDivClosedFormRow : OpenClaim := { program := "qxb6600423amods", sum := "41e9c05389ef5c3d3cb6b4e642f0f95dcbbecc3cd54c0454c52a371de88ec367", func := "example.com/tidescale/tidescale/zzlaws_pkg_decision_b1.FnCeilDivClosedForm", spec := "fnCeilDivClosedForm", make := .lifted ["publicsums"], apart := false }
def FnCeilDivClosedFormSaid : Prop := fnCeilDivClosedFormRow.holds Trym.pinned (OpenSpec.ofChange fnCeilDivClosedFormSpec)

/-- ITS FALSE NEIGHBOUR: 'it returns false'. Refute it at one input. -/
def fnCeilDivClosedFormWrong : ChangeSpec := { name := "fnCeilDivClosedForm", fn := fun _ => fun
  | [d1, d2] => { results := [.lit (.bool false)], args := [d1, d2] }
  | _ => none }
def FnCeilDivClosedFormWrongFalsely : Prop := fnCeilDivClosedFormRow.holds Trym.pinned (OpenSpec.ofChange fnCeilDivClosedFormWrong)

/-- 'zzlaws_pkg_decision_b1.FnCeilDivLeastMultipleAtOrAbove': WHATEVER THE INPUT: true; the input reads as it did. -/
def fnCeilDivLeastMultipleAtOrAboveSpec : ChangeSpec := { name := "fnCeilDivLeastMultipleAtOrAbove", fn := fun _ => fun
  | [d1, d2] => { results := [.lit (.bool true)], args := [d1, d2] }
  | _ => none }
def fnCeilDivLeastMultipleAtOrAboveRow : OpenClaim := { program := "qxb6600423amods", sum := "41e9c05389ef5c3d3cb6b4e642f0f95dcbbecc3cd54c0454c52a371de88ec367", func := "example.com/tidescale/tidescale/zzlaws_pkg_decision_b1.FnCeilDivLeastMultipleAtOrAbove", spec := "fnCeilDivLeastMultipleAtOrAbove", make := .lifted ["publicsums"], apart := false }
def FnCeilDivLeastMultipleAtOrAboveSaid : Prop := fnCeilDivLeastMultipleAtOrAboveRow.holds Trym.pinned (OpenSpec.ofChange fnCeilDivLeastMultipleAtOrAboveSpec)

/-- ITS FALSE NEIGHBOUR: 'it returns false'. Refute it at one input. -/
def fnCeilDivLeastMultipleAtOrAboveWrong : ChangeSpec := { name := "fnCeilDivLeastMultipleAtOrAbove", fn := fun _ => fun
  | [d1, d2] => { results := [.lit (.bool false)], args := [d1, d2] }
  | _ => none }
def FnCeilDivLeastMultipleAtOrAboveWrongFalsely : Prop := fnCeilDivLeastMultipleAtOrAboveRow.holds Trym.pinned (OpenSpec.ofChange fnCeilDivLeastMultipleAtOrAboveWrong)

/-- 'zzlaws_pkg_decision_b1.FnCeilDivMonotone': WHATEVER THE INPUT: true; the input reads as it did. -/
def fnCeilDivMonotoneSpec : ChangeSpec := { name := "fnCeilDivMonotone", fn := fun _ => fun
  | [d1, d2, d3, d4] => { results := [.lit (.bool true)], args := [d1, d2, d3, d4] }
  | _ => none }
def fnCeilDivMonotoneRow : OpenClaim := { program := "qxb6600423amods", sum := "41e9c05389ef5c3d3cb6b4e642f0f95dcbbecc3cd54c0454c52a371de88ec367", func := "example.com/tidescale/tidescale/zzlaws_pkg_decision_b1.FnCeilDivMonotone", spec := "fnCeilDivMonotone", make := .lifted ["publicsums"], apart := false }
def FnCeilDivMonotoneSaid : Prop := fnCeilDivMonotoneRow.holds Trym.pinned (OpenSpec.ofChange fnCeilDivMonotoneSpec)

/-- ITS FALSE NEIGHBOUR: 'it returns false'. Refute it at one input. -/
def fnCeilDivMonotoneWrong : ChangeSpec := { name := "fnCeilDivMonotone", fn := fun _ => fun
  | [d1, d2, d3, d4] => { results := [.lit (.bool false)], args := [d1, d2, d3, d4] }
  | _ => none }
def FnCeilDivMonotoneWrongFalsely : Prop := fnCeilDivMonotoneRow.holds Trym.pinned (OpenSpec.ofChange fnCeilDivMonotoneWrong)

end Rows
end Go.Proofs.Qxb6600423aMods
