/-
  THE LAW's OWN MODEL 'zzReportedModel', walked: it answers 'rep' too. Thirty-six ways, each decided ahead of the walk.
-/
import Derived.Test.Qxb6600622aModsRep
namespace Go.Proofs.Qxb6600622aMods.Model
open Go.RowKit Go.Proofs.Qxb6600622aMods.Low Go.Proofs.Qxb6600622aMods.Rep

set_option maxHeartbeats 4000000 in
theorem mod7 (X Y : Nat) (hX : X < 4294967296) (hY : Y < 4294967296) (w : World) :
    Calls Trym.prog 7 #[.int .u32 X, .int .u32 Y] w fun e w' => e = .returned (.int .u32 (rep (X % 16) (Y % 16))) ∧ w' = w := by
  rw [rep_mdl _ (m16 X) _ (m16 Y), ← t1 X hX, ← t2 X hX, ← t4 X hX, ← t8 X hX, ← t1 Y hY, ← t2 Y hY, ← t4 Y hY]
  generalize h1 : (bits .and .u32 (X : Int) 1 != 0) = fR
  generalize h2 : (bits .and .u32 (X : Int) 2 != 0) = fW
  generalize h3 : (bits .and .u32 (X : Int) 4 != 0) = fE
  generalize h4 : (bits .and .u32 (X : Int) 8 != 0) = fH
  generalize h5 : (bits .and .u32 (Y : Int) 1 != 0) = aR
  generalize h6 : (bits .and .u32 (Y : Int) 2 != 0) = aW
  generalize h7 : (bits .and .u32 (Y : Int) 4 != 0) = aE
  clear hX hY
  rcases fE with _ | _
  · rcases aR with _ | _ <;> rcases aW with _ | _ <;> rcases fH with _ | _
    all_goals (first
      | (go_enter Trym.func7, Trym.ntmps7; go_wp2; go_ret; exact ⟨rfl, rfl⟩)
      | (rcases fR with _ | _ <;> rcases fW with _ | _ <;> (go_enter Trym.func7, Trym.ntmps7; go_wp2; go_ret; exact ⟨rfl, rfl⟩)))
  · rcases aE with _ | _
    · rcases aR with _ | _ <;> rcases aW with _ | _ <;> rcases fH with _ | _
      all_goals (first
        | (go_enter Trym.func7, Trym.ntmps7; go_wp2; go_ret; exact ⟨rfl, rfl⟩)
        | (rcases fR with _ | _ <;> rcases fW with _ | _ <;> (go_enter Trym.func7, Trym.ntmps7; go_wp2; go_ret; exact ⟨rfl, rfl⟩)))
    · go_enter Trym.func7, Trym.ntmps7
      go_wp2
      go_ret
      exact ⟨rfl, rfl⟩

end Go.Proofs.Qxb6600622aMods.Model
