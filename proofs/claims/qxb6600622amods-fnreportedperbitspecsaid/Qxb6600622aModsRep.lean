/-
  THE SHARED ROAD OF THE TWO LAWS: 'reported' and its exported door.
-/
import Derived.Test.Qxb6600622aModsRows
import Derived.Test.Qxb6600622aModsBits
import Derived.WalkKit
namespace Go.Proofs.Qxb6600622aMods.Rep
open Go.RowKit Go.Proofs.Qxb6600622aMods.Low

theorem ret_u32 {a b : Int} (h : a = b) : Ending.returned (.int .u32 a) = .returned (.int .u32 b) := by rw [h]

theorem wf32 {a : Int} (h : (Lit.int .u32 a).wf = true) : ∃ n : Nat, a = n ∧ n < 4294967296 := by
  simp only [Lit.wf, Bool.and_eq_true, decide_eq_true_eq] at h
  have e1 : IntKind.u32.min = 0 := by rfl
  have e2 : IntKind.u32.max = 4294967295 := by rfl
  rw [e1, e2] at h
  exact ⟨a.toNat, by omega, by omega⟩

set_option maxHeartbeats 400000 in
theorem rep8 (X Y : Nat) (hX : X < 4294967296) (hY : Y < 4294967296) (w : World) :
    Calls Trym.prog 8 #[.int .u32 X, .int .u32 Y] w fun e w' => e = .returned (.int .u32 (rep (X % 16) (Y % 16))) ∧ w' = w := by
  have T1 := t4 X hX
  have T2 := t8 X hX
  have T3 := t4 Y hY
  have T4 := t3 Y hY
  rcases h1 : (bits .and .u32 (X : Int) 4 != 0) with _ | _
  · rcases h2 : (bits .and .u32 (X : Int) 8 != 0) with _ | _
    · have R := rep_way4 _ (Y % 16) (T1.symm.trans h1) (T2.symm.trans h2)
      clear T1 T2 T3 T4
      go_enter Trym.func8, Trym.ntmps8
      go_wp2
      go_ret
      exact ⟨ret_u32 (by rw [R]; exact way4 X Y hX hY), rfl⟩
    · have R := rep_way3 _ (Y % 16) (T1.symm.trans h1) (T2.symm.trans h2)
      clear T1 T2 T3 T4
      go_enter Trym.func8, Trym.ntmps8
      go_wp2
      go_ret
      exact ⟨ret_u32 (by rw [R]; exact way3 X Y hX hY), rfl⟩
  · rcases h3 : (bits .and .u32 (Y : Int) 4 != 0) with _ | _
    · rcases h4 : (bits .and .u32 (Y : Int) 3 == 0) with _ | _
      · have R := rep_way2 _ _ (T1.symm.trans h1) (T3.symm.trans h3) (T4.symm.trans h4)
        clear T1 T2 T3 T4
        go_enter Trym.func8, Trym.ntmps8
        go_wp2
        go_ret
        exact ⟨ret_u32 (by rw [R]; exact way2 X Y hX hY), rfl⟩
      · have R := rep_way1' _ _ (T1.symm.trans h1) (T4.symm.trans h4)
        clear T1 T2 T3 T4
        go_enter Trym.func8, Trym.ntmps8
        go_wp2
        go_ret
        exact ⟨ret_u32 (by rw [R]; rfl), rfl⟩
    · have R := rep_way1 _ _ (T1.symm.trans h1) (T3.symm.trans h3)
      clear T1 T2 T3 T4
      go_enter Trym.func8, Trym.ntmps8
      go_wp2
      go_ret
      exact ⟨ret_u32 (by rw [R]; rfl), rfl⟩

set_option maxHeartbeats 400000 in
theorem rep6 (X Y : Nat) (hX : X < 4294967296) (hY : Y < 4294967296) (w : World) :
    Calls Trym.prog 6 #[.int .u32 X, .int .u32 Y] w fun e w' => e = .returned (.int .u32 (rep (X % 16) (Y % 16))) ∧ w' = w := by
  go_enter Trym.func6, Trym.ntmps6
  go_wp2_with (go_at_call 8; refine (rep8 X Y hX hY _).mono ?_; rintro e w' ⟨rfl, rfl⟩)
  go_ret
  exact ⟨rfl, rfl⟩

end Go.Proofs.Qxb6600622aMods.Rep
