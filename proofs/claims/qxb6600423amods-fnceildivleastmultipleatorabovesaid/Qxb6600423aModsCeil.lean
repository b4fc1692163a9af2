/-
  THE SHARED ROAD OF THE TWO LAWS: 'ceilDiv' and its exported door, and the plain arithmetic of the rounded-up quotient.
-/
import Derived.Test.Qxb6600423aModsRows
import Derived.WalkKit
namespace Go.Proofs.Qxb6600423aMods.Ceil
open Go.RowKit

/-- The rounded-up quotient, plainly. -/
def cd (a b : Int) : Int := (a + b - 1) / b

theorem div_split (a b : Int) : a = b * (a / b) + a % b := by
  have := Int.mul_ediv_add_emod a b; omega

theorem cd_zero (a b : Int) (hb : 0 < b) (h : a % b = 0) : cd a b = a / b := by
  unfold cd
  have e := div_split a b
  have e2 : a + b - 1 = (b - 1) + b * (a / b) := by omega
  rw [e2, Int.add_mul_ediv_left _ _ (by omega), Int.ediv_eq_zero_of_lt (by omega) (by omega)]
  omega

theorem cd_pos (a b : Int) (hb : 0 < b) (h : a % b ≠ 0) : cd a b = a / b + 1 := by
  unfold cd
  have e := div_split a b
  have m0 := Int.emod_nonneg a (b := b) (by omega)
  have m1 := Int.emod_lt_of_pos a hb
  have e2 : a + b - 1 = (a % b - 1) + b * (a / b + 1) := by rw [Int.mul_add]; omega
  rw [e2, Int.add_mul_ediv_left _ _ (by omega), Int.ediv_eq_zero_of_lt (by omega) (by omega)]
  omega

theorem cd_lo (a b : Int) (ha : 0 ≤ a) (hb : 0 < b) : 0 ≤ cd a b := by
  unfold cd
  exact Int.ediv_nonneg (by omega) (by omega)

theorem cd_le (a b : Int) (ha : 0 ≤ a) (hb : 0 < b) : cd a b ≤ a := by
  have h0 : 0 ≤ a * (b - 1) := Int.mul_nonneg ha (by omega)
  have h1 : a * (b - 1) = a * b - a := by rw [Int.mul_sub]; omega
  have : cd a b < a + 1 := by
    unfold cd
    rw [Int.ediv_lt_iff_lt_mul hb, Int.add_mul]
    omega
  omega

/-- The least multiple at or above: no smaller than a, and less than a + b. -/
theorem cd_mul (a b : Int) (hb : 0 < b) : a ≤ cd a b * b ∧ cd a b * b < a + b := by
  have e := div_split (a + b - 1) b
  have m0 := Int.emod_nonneg (a + b - 1) (b := b) (by omega)
  have m1 := Int.emod_lt_of_pos (a + b - 1) hb
  have c : cd a b * b = b * ((a + b - 1) / b) := Int.mul_comm _ _
  omega

theorem wf64 {a : Int} (h : (Lit.int .i64 a).wf = true) : -9223372036854775808 ≤ a ∧ a ≤ 9223372036854775807 := by
  simp only [Lit.wf, Bool.and_eq_true, decide_eq_true_eq] at h
  have e1 : IntKind.i64.min = -9223372036854775808 := by rfl
  have e2 : IntKind.i64.max = 9223372036854775807 := by rfl
  rw [e1, e2] at h
  exact h

set_option maxHeartbeats 400000 in
theorem ceil7 (a b : Int) (ha : 0 ≤ a) (hb : 0 < b) (ha' : a ≤ 9223372036854775807) (hb' : b ≤ 9223372036854775807) (w : World) :
    Calls Trym.prog 7 #[.int .i64 a, .int .i64 b] w fun e w' => e = .returned (.int .i64 (cd a b)) ∧ w' = w := by
  have d0 : 0 ≤ a / b := Int.ediv_nonneg ha (by omega)
  have d1 : a / b ≤ a := Int.ediv_le_self _ ha
  have d2 := cd_le a b ha hb
  by_cases h : a % b = 0
  · have H := cd_zero a b hb h
    go_enter Trym.func7, Trym.ntmps7
    go_wp2
    go_ret
    exact ⟨by rw [H]; rfl, rfl⟩
  · have H := cd_pos a b hb h
    go_enter Trym.func7, Trym.ntmps7
    go_wp2
    go_ret
    exact ⟨by rw [H]; rfl, rfl⟩

set_option maxHeartbeats 400000 in
theorem ceil6 (a b : Int) (ha : 0 ≤ a) (hb : 0 < b) (ha' : a ≤ 9223372036854775807) (hb' : b ≤ 9223372036854775807) (w : World) :
    Calls Trym.prog 6 #[.int .i64 a, .int .i64 b] w fun e w' => e = .returned (.int .i64 (cd a b)) ∧ w' = w := by
  go_enter Trym.func6, Trym.ntmps6
  go_wp2_with (go_at_call 7; refine (ceil7 _ _ ha hb ha' hb' _).mono ?_; rintro e w' ⟨rfl, rfl⟩)
  go_ret
  exact ⟨rfl, rfl⟩

end Go.Proofs.Qxb6600423aMods.Ceil
