/-
  No cell of these rows narrows 'for every input' (looked for: loops, veiled, ifaces, maps, wideKeys, modest, calm, conditions, laid).
  DERIVED. THE GIVEN ROWS OF THIS SEAT. 3 by the template 'for every input the law returns true; each argument reads behind the call as it read before'; 0 by the template 'total and deterministic' (their statements: Qxb6600622aModsTotals.lean).
  GIVEN WITH THE SEED: the statements are not yours to turn. If you find one false, say at which input.
  Laid BY PROGRAM, IN A SANDBOX (cutbox-rows.mjs): the forced cells as the released guide's own fill.sh prints them over the translation 5dc158df9046d4dd… (all of the seat's roots in one cut). By AI agents, Wed Nov 11 2026. No macro, syntax, notation, axiom, sorry.
-/
import Derived.Test.Qxb6600622aModsChecked
import GoSem.Claim
import GoSem.ClaimJoined
import GoSem.ClaimMapViews
import Derived.JoinedTies
import Derived.KernelRfl
namespace Go.Proofs.Qxb6600622aMods
/- THE CELL 'sum', in the pinned program and in every row, IS THE sha256 OF THE DUMP (.gsa) THAT Qxb6600622aModsProg.lean LOADS. Nothing in Lean hashes anything: it is a label: what it is worth is what the hold of that sum in a sandbox is worth. -/
noncomputable def Trym.pinned : Pinned := { name := "qxb6600622amods", sum := "5dc158df9046d4dd0a8d9ffb8298b79e41c2ed7e3aaceff2a0b4fcbf5196825a", checked := Trym.checked }
namespace Rows
def none {H : Type} : Left H := { results := [], args := [] }

/-- 'zzlaws_root_b1.FnReportedPerBitSpec': WHATEVER THE INPUT: true; the input reads as it did. -/
def fnReportedPerBitSpecSpec : ChangeSpec := { name := "fnReportedPerBitSpec", fn := fun _ => fun
  | [d1, d2] => { results := [.lit (.bool true)], args := [d1, d2] }
  | _ => none }
def fnReportedPerBitSpecRow : OpenClaim := { program := "qxb6600622amods", sum := "5dc158df9046d4dd0a8d9ffb8298b79e41c2ed7e3aaceff2a0b4fcbf5196825a", func := "example.com/attend/attend/zzlaws_root_b1.FnReportedPerBitSpec", spec := "fnReportedPerBitSpec", make := .lifted ["publicsums"], apart := false }
def FnReportedPerBitSpecSaid : Prop := fnReportedPerBitSpecRow.holds Trym.pinned (OpenSpec.ofChange fnReportedPerBitSpecSpec)

/-- ITS FALSE NEIGHBOUR: 'it returns false'. Refute it at one input. -/
def fnReportedPerBitSpecWrong : ChangeSpec := { name := "fnReportedPerBitSpec", fn := fun _ => fun
  | [d1, d2] => { results := [.lit (.bool false)], args := [d1, d2] }
  | _ => none }
def FnReportedPerBitSpecWrongFalsely : Prop := fnReportedPerBitSpecRow.holds Trym.pinned (OpenSpec.ofChange fnReportedPerBitSpecWrong)

/-- 'zzlaws_root_b1.FnReportedIdempotent': WHATEVER THE INPUT: true; the input reads as it did. -/
def fnReportedIdempotentSpec : ChangeSpec := { name := "fnReportedIdempotent", fn := fun _ => fun
  | [d1, d2] => { results := [.lit (.bool true)], args := [d1, d2] }
  | _ => none }
def fnReportedIdempotentRow : OpenClaim := { program := "qxb6600622amods", sum := "5dc158df9046d4dd0a8d9ffb8298b79e41c2ed7e3aaceff2a0b4fcbf5196825a", func := "example.com/attend/attend/zzlaws_root_b1.FnReportedIdempotent", spec := "fnReportedIdempotent", make := .lifted ["publicsums"], apart := false }
def FnReportedIdempotentSaid : Prop := fnReportedIdempotentRow.holds Trym.pinned (OpenSpec.ofChange fnReportedIdempotentSpec)

/-- ITS FALSE NEIGHBOUR: 'it returns false'. Refute it at one input. -/
def fnReportedIdempotentWrong : ChangeSpec := { name := "fnReportedIdempotent", fn := fun _ => fun
  | [d1, d2] => { results := [.lit (.bool false)], args := [d1, d2] }
  | _ => none }
def FnReportedIdempotentWrongFalsely : Prop := fnReportedIdempotentRow.holds Trym.pinned (OpenSpec.ofChange fnReportedIdempotentWrong)

/-- 'zzlaws_root_b1.FnReportedBounds': WHATEVER THE INPUT: true; the input reads as it did. -/
def fnReportedBoundsSpec : ChangeSpec := { name := "fnReportedBounds", fn := fun _ => fun
  | [d1, d2] => { results := [.lit (.bool true)], args := [d1, d2] }
  | _ => none }
def fnReportedBoundsRow : OpenClaim := { program := "qxb6600622amods", sum := "5dc158df9046d4dd0a8d9ffb8298b79e41c2ed7e3aaceff2a0b4fcbf5196825a", func := "example.com/attend/attend/zzlaws_root_b1.FnReportedBounds", spec := "fnReportedBounds", make := .lifted ["publicsums"], apart := false }
def FnReportedBoundsSaid : Prop := fnReportedBoundsRow.holds Trym.pinned (OpenSpec.ofChange fnReportedBoundsSpec)

/-- ITS FALSE NEIGHBOUR: 'it returns false'. Refute it at one input. -/
def fnReportedBoundsWrong : ChangeSpec := { name := "fnReportedBounds", fn := fun _ => fun
  | [d1, d2] => { results := [.lit (.bool false)], args := [d1, d2] }
  | _ => none }
def FnReportedBoundsWrongFalsely : Prop := fnReportedBoundsRow.holds Trym.pinned (OpenSpec.ofChange fnReportedBoundsWrong)

end Rows
end Go.Proofs.Qxb6600622aMods
