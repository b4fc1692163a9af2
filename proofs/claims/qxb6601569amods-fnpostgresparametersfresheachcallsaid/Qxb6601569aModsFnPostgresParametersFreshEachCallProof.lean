/-
  A PROOF OF 'Rows.FnPostgresParametersFreshEachCallSaid'. The row's step is the given shell's, its end turned from 'Grown' to 'Below' (the call writes into memory of its own); the walk is ours.
-/
import Derived.Test.Qxb6601569aModsRows
import Derived.Test.Qxb6601569aModsFresh
import Derived.WalkKit
import Derived.ProofKit
import Derived.OpenShut
import Derived.ShutString
namespace Go.Proofs.Qxb6601569aMods.fnPostgresParametersFreshEachCall
open Go.ChangeShapes Go.WideShapes Go.ChangeAt Go.RowKit
open Go.ChangeMaps (open_string shut_string)
set_option linter.unusedVariables false      -- a walk need not use every 'w<i>' (that an integer argument fits its kind)

theorem own : ownKnob Trym.prog.godebug = none := by kernel_rfl

/-! ### THE WALK: the Go text returns true, and writes nothing that was there -/
theorem walk (w : World) :
    Calls Trym.prog 5 #[] w fun e w' => e = .returned (.bool true) ∧ Below w.heap.size w w' :=
  Go.Proofs.Qxb6601569aMods.Par.walk5 w

/-! ### THE ROW's STEP -/
set_option maxRecDepth 100000 in
theorem lifted (os : Os) (started : os.Started) (H : Type) (enc : TypeId × Value → H) :
    ReturnsInHanded {} Trym.checked os 5 .any (Rows.fnPostgresParametersFreshEachCallSpec.pre6 enc Trym.prog Trym.f5 Rows.fnPostgresParametersFreshEachCallRow.domain false) (Rows.fnPostgresParametersFreshEachCallSpec.post enc Trym.prog Trym.f5 false true false false) := by
  refine returnsInHanded_of_change (C := Trym.checked) own started (by kernel_rfl) Trym.func5
    (ChangeSpec.witness6 (enc := enc) (C := Trym.checked) false ⟨#[], #[], []⟩ 8 (by kernel_rfl) (by kernel_rfl) (by kernel_rfl) (by kernel_rfl)) ?_
  intro W base args ds gs before hval0 hW hcnd _
  have hval : ∀ (j : Nat) t v, Trym.f5.params[j]? = some t → args[j]? = some v → Value.okWide Trym.prog W .any base t v := hval0
  have hW' := hW
  obtain ⟨p, q, hA0, hV, rfl, hfz, hnd⟩ := hW
  have hA : DataW.TrodAll enc Trym.prog W 0 (fun _ => true) true Trym.f5.params.toList args.toList ds p := hA0
  rw [Trym.params5] at hA hval
  obtain ⟨rfl, rfl, rfl⟩ := trodAll_none hA
  obtain ⟨rfl, rfl⟩ := trodVars_none hV
  clear hA0 hval0
  refine (walk W).mono fun e W' ⟨he, bel⟩ => ?_
  subst he
  exact ⟨_, rfl, _, _, _, [], [], [], hW', trodAll_mk1 (shut_bool Trym.underlying4 _), rfl, rfl, bel.frame _, fun h => by cases h⟩

theorem over : Rows.fnPostgresParametersFreshEachCallRow.holds Trym.pinned (OpenSpec.ofChange Rows.fnPostgresParametersFreshEachCallSpec) :=
  OpenClaim.holds_of_wide 5 Trym.f5 rfl rfl rfl rfl rfl rfl rfl ⟨rfl, rfl, rfl, rfl, rfl⟩ rfl rfl rfl rfl rfl (by kernel_rfl) Trym.func5 (by kernel_rfl)
    (of_decide_eq_true (by kernel_rfl)) (by unfold Func.isWrapper; first | (rw [if_pos (by decide +kernel)]; kernel_rfl) | (rw [if_neg (by decide +kernel)]; exact ⟨rfl, rfl⟩))
    (fun os started H enc _ => lifted os started H enc)

theorem proved : Rows.FnPostgresParametersFreshEachCallSaid :=
  over
end Go.Proofs.Qxb6601569aMods.fnPostgresParametersFreshEachCall
