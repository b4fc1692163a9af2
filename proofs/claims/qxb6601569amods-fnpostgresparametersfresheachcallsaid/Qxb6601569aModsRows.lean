/-
  No cell of these rows narrows 'for every input' (looked for: loops, veiled, ifaces, maps, wideKeys, modest, calm, conditions, laid).
  DERIVED. THE GIVEN ROWS OF THIS SEAT. 4 by the template 'for every input the law returns true; each argument reads behind the call as it read before'; 0 by the template 'total and deterministic' (their statements: Qxb6601569aModsTotals.lean).
  GIVEN WITH THE SEED: the statements are not yours to turn. If you find one false, say at which input.
  Laid BY PROGRAM, IN A SANDBOX (cutbox-rows.mjs): the forced cells as the released guide's own fill.sh prints them over the translation f96a9dc40aa2cacf… (all of the seat's roots in one cut). By AI agents, Wed Nov 11 2026. No macro, syntax, notation, axiom, sorry.
-/
import Derived.Test.Qxb6601569aModsChecked
import GoSem.Claim
import GoSem.ClaimJoined
import GoSem.ClaimMapViews
import Derived.JoinedTies
import Derived.KernelRfl
namespace Go.Proofs.Qxb6601569aMods
/- THE CELL 'sum', in the pinned program and in every row, IS THE sha256 OF THE DUMP (.gsa) THAT Qxb6601569aModsProg.lean LOADS. Nothing in Lean hashes anything: it is a label: what it is worth is what the hold of that sum in a sandbox is worth. -/
noncomputable def Trym.pinned : Pinned := { name := "qxb6601569amods", sum := "f96a9dc40aa2cacf1fa5a5c53a326728af1b46d2dee3669b3ac5db6e5c3bea38", checked := Trym.checked }
namespace Rows
def none {H : Type} : Left H := { results := [], args := [] }

/-- 'zzlaws_internal_server_b1.FnMysqlProductNeverLosesAMarker': WHATEVER THE INPUT: true; the input reads as it did. -/
def fnMysqlProductNeverLosesAMarkerSpec : ChangeSpec := { name := "fnMysqlProductNeverLosesAMarker", fn := fun _ => fun
  | [d1, d2, d3] => { results := [.lit (.bool true)], args := [d1, d2, d3] }
  | _ => none }
def fnMysqlProductNeverLosesAMarkerRow : OpenClaim := { program := "qxb6601569amods", sum := "f96a9dc40aa2cacf1fa5a5c53a326728af1b46d2dee3669b3ac5db6e5c3bea38", func := "example.com/isolation-probe/isolation-probe/zzlaws_internal_server_b1.FnMysqlProductNeverLosesAMarker", spec := "fnMysqlProductNeverLosesAMarker", inPlace := ["internal/bytealg.IndexByteString", "internal/bytealg.IndexString"], named := ["internal/bytealg.MaxLen"], make := .lifted ["publicsums"], apart := false }
def FnMysqlProductNeverLosesAMarkerSaid : Prop := fnMysqlProductNeverLosesAMarkerRow.holds Trym.pinned (OpenSpec.ofChange fnMysqlProductNeverLosesAMarkerSpec)

/-- ITS FALSE NEIGHBOUR: 'it returns false'. Refute it at one input. -/
def fnMysqlProductNeverLosesAMarkerWrong : ChangeSpec := { name := "fnMysqlProductNeverLosesAMarker", fn := fun _ => fun
  | [d1, d2, d3] => { results := [.lit (.bool false)], args := [d1, d2, d3] }
  | _ => none }
def FnMysqlProductNeverLosesAMarkerWrongFalsely : Prop := fnMysqlProductNeverLosesAMarkerRow.holds Trym.pinned (OpenSpec.ofChange fnMysqlProductNeverLosesAMarkerWrong)

/-- 'zzlaws_internal_server_b1.FnMysqlProductStableUnderItsOwnName': WHATEVER THE INPUT: true; the input reads as it did. -/
def fnMysqlProductStableUnderItsOwnNameSpec : ChangeSpec := { name := "fnMysqlProductStableUnderItsOwnName", fn := fun _ => fun
  | [d] => { results := [.lit (.bool true)], args := [d] }
  | _ => none }
def fnMysqlProductStableUnderItsOwnNameRow : OpenClaim := { program := "qxb6601569amods", sum := "f96a9dc40aa2cacf1fa5a5c53a326728af1b46d2dee3669b3ac5db6e5c3bea38", func := "example.com/isolation-probe/isolation-probe/zzlaws_internal_server_b1.FnMysqlProductStableUnderItsOwnName", spec := "fnMysqlProductStableUnderItsOwnName", inPlace := ["internal/bytealg.IndexByteString", "internal/bytealg.IndexString"], named := ["internal/bytealg.MaxLen"], make := .lifted ["publicsums"], apart := false }
def FnMysqlProductStableUnderItsOwnNameSaid : Prop := fnMysqlProductStableUnderItsOwnNameRow.holds Trym.pinned (OpenSpec.ofChange fnMysqlProductStableUnderItsOwnNameSpec)

/-- ITS FALSE NEIGHBOUR: 'it returns false'. Refute it at one input. -/
def fnMysqlProductStableUnderItsOwnNameWrong : ChangeSpec := { name := "fnMysqlProductStableUnderItsOwnName", fn := fun _ => fun
  | [d] => { results := [.lit (.bool false)], args := [d] }
  | _ => none }
def FnMysqlProductStableUnderItsOwnNameWrongFalsely : Prop := fnMysqlProductStableUnderItsOwnNameRow.holds Trym.pinned (OpenSpec.ofChange fnMysqlProductStableUnderItsOwnNameWrong)

/-- 'zzlaws_internal_server_b1.FnPostgresParametersFreshEachCall': WHATEVER THE INPUT: true; the input reads as it did. -/
def fnPostgresParametersFreshEachCallSpec : ChangeSpec := { name := "fnPostgresParametersFreshEachCall", fn := fun _ => fun
  | [] => { results := [.lit (.bool true)], args := [] }
  | _ => none }
def fnPostgresParametersFreshEachCallRow : OpenClaim := { program := "qxb6601569amods", sum := "f96a9dc40aa2cacf1fa5a5c53a326728af1b46d2dee3669b3ac5db6e5c3bea38", func := "example.com/isolation-probe/isolation-probe/zzlaws_internal_server_b1.FnPostgresParametersFreshEachCall", spec := "fnPostgresParametersFreshEachCall", make := .lifted ["publicsums"], apart := false }
def FnPostgresParametersFreshEachCallSaid : Prop := fnPostgresParametersFreshEachCallRow.holds Trym.pinned (OpenSpec.ofChange fnPostgresParametersFreshEachCallSpec)

/-- ITS FALSE NEIGHBOUR: 'it returns false'. Refute it at one input. -/
def fnPostgresParametersFreshEachCallWrong : ChangeSpec := { name := "fnPostgresParametersFreshEachCall", fn := fun _ => fun
  | [] => { results := [.lit (.bool false)], args := [] }
  | _ => none }
def FnPostgresParametersFreshEachCallWrongFalsely : Prop := fnPostgresParametersFreshEachCallRow.holds Trym.pinned (OpenSpec.ofChange fnPostgresParametersFreshEachCallWrong)

/-- 'zzlaws_internal_server_b1.FnPostgresDependentsIsOneClosedStatement': WHATEVER THE INPUT: true; the input reads as it did. -/
def fnPostgresDependentsIsOneClosedStatementSpec : ChangeSpec := { name := "fnPostgresDependentsIsOneClosedStatement", fn := fun _ => fun
  | [] => { results := [.lit (.bool true)], args := [] }
  | _ => none }
def fnPostgresDependentsIsOneClosedStatementRow : OpenClaim := { program := "qxb6601569amods", sum := "f96a9dc40aa2cacf1fa5a5c53a326728af1b46d2dee3669b3ac5db6e5c3bea38", func := "example.com/isolation-probe/isolation-probe/zzlaws_internal_server_b1.FnPostgresDependentsIsOneClosedStatement", spec := "fnPostgresDependentsIsOneClosedStatement", make := .lifted ["publicsums"], apart := false }
def FnPostgresDependentsIsOneClosedStatementSaid : Prop := fnPostgresDependentsIsOneClosedStatementRow.holds Trym.pinned (OpenSpec.ofChange fnPostgresDependentsIsOneClosedStatementSpec)

/-- ITS FALSE NEIGHBOUR: 'it returns false'. Refute it at one input. -/
def fnPostgresDependentsIsOneClosedStatementWrong : ChangeSpec := { name := "fnPostgresDependentsIsOneClosedStatement", fn := fun _ => fun
  | [] => { results := [.lit (.bool false)], args := [] }
  | _ => none }
def FnPostgresDependentsIsOneClosedStatementWrongFalsely : Prop := fnPostgresDependentsIsOneClosedStatementRow.holds Trym.pinned (OpenSpec.ofChange fnPostgresDependentsIsOneClosedStatementWrong)

end Rows
end Go.Proofs.Qxb6601569aMods
