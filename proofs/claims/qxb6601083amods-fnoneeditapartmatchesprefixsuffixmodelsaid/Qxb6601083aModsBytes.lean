/-
  The two bounds on length that the laws begin with (20, 27), walked.
-/
import Derived.Test.Qxb6601083aModsEq
namespace Go.Proofs.Qxb6601083aMods.Edit
open Go.RowKit

theorem below_drewN {B : Nat} {a w : World} (h : Below B a w) (q : Nat) : Below B a (w.drewN q) := ⟨h.os, h.tape, h.output, h.size, h.block⟩

set_option maxHeartbeats 400000 in
theorem bytes20 (a0 a1 : Option Addr) (n c m d : Nat) (r : Bool) (w : World) (hn : n ≤ 9223372036854775807) (hr : decide (n + m ≤ 1048576) = r) :
    Calls Trym.prog 20 #[.slice a0 n c, .slice a1 m d] w fun e w' => e = .returned (.bool r) ∧ w' = w := by
  subst hr
  by_cases h1 : 1048576 < n
  · have R : Hid (decide (n + m ≤ 1048576) = false) := decide_eq_false (by omega)
    go_enter Trym.func20, Trym.ntmps20
    go_wp2
    go_ret
    exact ⟨by rw [R.out]; rfl, rfl⟩
  · by_cases h2 : 1048576 < m
    · have R : Hid (decide (n + m ≤ 1048576) = false) := decide_eq_false (by omega)
      go_enter Trym.func20, Trym.ntmps20
      go_wp2
      go_ret
      exact ⟨by rw [R.out]; rfl, rfl⟩
    · by_cases h3 : n + m ≤ 1048576
      · have R : Hid (decide (n + m ≤ 1048576) = true) := decide_eq_true h3
        go_enter Trym.func20, Trym.ntmps20
        go_wp2
        go_ret
        exact ⟨by rw [R.out]; rfl, rfl⟩
      · have R : Hid (decide (n + m ≤ 1048576) = false) := decide_eq_false h3
        have h4 : (1048576 : Int) < (n : Int) + (m : Int) := by omega
        go_enter Trym.func20, Trym.ntmps20
        go_wp2
        go_ret
        exact ⟨by rw [R.out]; rfl, rfl⟩

set_option maxHeartbeats 400000 in
theorem bytes27 (a0 : Option Addr) (n c : Nat) (k r kd : Int) (b : Bool) (w : World) (hn : n ≤ 9223372036854775807) (hr : decide (n ≤ 1048576) = b) :
    Calls Trym.prog 27 #[.slice a0 n c, .int .i64 k, .int .i32 r, .int .u8 kd] w fun e w' => e = .returned (.bool b) ∧ w' = w := by
  subst hr
  by_cases h1 : 1048576 < n
  · have R : Hid (decide (n ≤ 1048576) = false) := decide_eq_false (by omega)
    go_enter Trym.func27, Trym.ntmps27
    go_wp2
    go_ret
    exact ⟨by rw [R.out]; rfl, rfl⟩
  · have R : Hid (decide (n ≤ 1048576) = true) := decide_eq_true (by omega)
    go_enter Trym.func27, Trym.ntmps27
    go_wp2
    go_ret
    exact ⟨by rw [R.out]; rfl, rfl⟩

end Go.Proofs.Qxb6601083aMods.Edit
