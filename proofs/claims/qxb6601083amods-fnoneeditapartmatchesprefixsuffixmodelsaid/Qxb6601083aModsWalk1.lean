/-
  THE LAW 'FnOneEditApartMatchesPrefixSuffixModel' (5), walked: a theorem a way.
-/
import Derived.Test.Qxb6601083aModsLaw1
import Derived.Test.Qxb6601083aModsClone
import Derived.Test.Qxb6601083aModsBytes
namespace Go.Proofs.Qxb6601083aMods.Edit
open Go.RowKit

set_option maxHeartbeats 400000 in
theorem w5_long (a0 a1 : Option Addr) (n c m d : Nat) (w : World) (hn : n ≤ 9223372036854775807) (hb : ¬ n + m ≤ 1048576) :
    Calls Trym.prog 5 #[.slice a0 n c, .slice a1 m d] w fun e w' => e = .returned (.bool true) ∧ Below w.heap.size w w' := by
  have K20 := fun w => bytes20 a0 a1 n c m d false w hn (decide_eq_false hb)
  go_enter Trym.func5, Trym.ntmps5
  go_wp2_with (go_at_call 20; refine (K20 _).mono ?_; rintro e w' ⟨rfl, rfl⟩)
  go_ret
  exact ⟨rfl, Below.refl _ _⟩

set_option maxHeartbeats 400000 in
theorem w5_cap0 (a0 a1 : Option Addr) (n c m d : Nat) (w : World) (hb : n + m ≤ 1048576) (h : 262144 < n) :
    Calls Trym.prog 5 #[.slice a0 n c, .slice a1 m d] w fun e w' => e = .returned (.bool true) ∧ Below w.heap.size w w' := by
  have K20 := fun w => bytes20 a0 a1 n c m d true w (by omega) (decide_eq_true hb)
  go_enter Trym.func5, Trym.ntmps5
  go_wp2_with (go_at_call 20; refine (K20 _).mono ?_; rintro e w' ⟨rfl, rfl⟩)
  go_ret
  exact ⟨rfl, Below.refl _ _⟩

set_option maxHeartbeats 400000 in
theorem w5_cap1 (a0 a1 : Option Addr) (n c m d : Nat) (w : World) (hb : n + m ≤ 1048576) (h0 : n ≤ 262144) (h : 262144 < m) :
    Calls Trym.prog 5 #[.slice a0 n c, .slice a1 m d] w fun e w' => e = .returned (.bool true) ∧ Below w.heap.size w w' := by
  have K20 := fun w => bytes20 a0 a1 n c m d true w (by omega) (decide_eq_true hb)
  go_enter Trym.func5, Trym.ntmps5
  go_wp2_with (go_at_call 20; refine (K20 _).mono ?_; rintro e w' ⟨rfl, rfl⟩)
  go_ret
  exact ⟨rfl, Below.refl _ _⟩

set_option maxHeartbeats 400000 in
theorem w5_sum (a0 a1 : Option Addr) (n c m d : Nat) (w : World) (hb : n + m ≤ 1048576) (h0 : n ≤ 262144) (h1 : m ≤ 262144) (h : 1048576 < 4 * n + 4 * m) :
    Calls Trym.prog 5 #[.slice a0 n c, .slice a1 m d] w fun e w' => e = .returned (.bool true) ∧ Below w.heap.size w w' := by
  have K20 := fun w => bytes20 a0 a1 n c m d true w (by omega) (decide_eq_true hb)
  go_enter Trym.func5, Trym.ntmps5
  go_wp2_with (go_at_call 20; refine (K20 _).mono ?_; rintro e w' ⟨rfl, rfl⟩)
  go_ret
  exact ⟨rfl, Below.refl _ _⟩

set_option maxHeartbeats 400000 in
theorem w5_same (a0 a1 : Option Addr) (n c m d : Nat) (f g : Nat → Int) (w : World) (S0 : Sl w a0 n f) (S1 : Sl w a1 m g) (hb : n + m ≤ 1048576) (h0 : n ≤ 262144) (h1 : m ≤ 262144) (h : 4 * n + 4 * m ≤ 1048576) (hdf : eqB n m f g = true) :
    Calls Trym.prog 5 #[.slice a0 n c, .slice a1 m d] w fun e w' => e = .returned (.bool true) ∧ Below w.heap.size w w' := by
  have K20 := fun w => bytes20 a0 a1 n c m d true w (by omega) (decide_eq_true hb)
  have K21 := eq21 a0 a1 n c m d f g w S0 S1 (by omega) (by omega)
  rw [hdf] at K21
  clear S0 S1 hdf
  go_enter Trym.func5, Trym.ntmps5
  go_wp2_with (first
    | (go_at_call 20; refine (K20 _).mono ?_; rintro e w' ⟨rfl, rfl⟩)
    | (go_at_call 21; refine K21.mono ?_; rintro e w' ⟨rfl, q, rfl⟩))
  go_ret
  exact ⟨rfl, below_drewN (Below.refl _ _) _⟩

set_option maxHeartbeats 400000 in
theorem w5_diff (a0 a1 : Option Addr) (n c m d : Nat) (f g : Nat → Int) (w : World) (S0 : Sl w a0 n f) (S1 : Sl w a1 m g) (z0 : a0 = none → n = 0) (z1 : a1 = none → m = 0) (hb : n + m ≤ 1048576) (h0 : n ≤ 262144) (h1 : m ≤ 262144) (h : 4 * n + 4 * m ≤ 1048576) (hdf : eqB n m f g = false) :
    Calls Trym.prog 5 #[.slice a0 n c, .slice a1 m d] w fun e w' => e = .returned (.bool true) ∧ Below w.heap.size w w' := by
  have K20 := fun w => bytes20 a0 a1 n c m d true w (by omega) (decide_eq_true hb)
  have K21 := eq21 a0 a1 n c m d f g w S0 S1 (by omega) (by omega)
  rw [hdf] at K21
  have K22 := fun q => clone22 a0 n c f (w.drewN q) (S0.drewN q) z0 (by omega)
  have S1' : Hid (Sl w a1 m g) := S1
  have Z1 : Hid (a1 = none → m = 0) := z1
  have HD : Hid (eqB n m f g = false) := hdf
  clear S0 S1 z0 z1 hdf
  go_enter Trym.func5, Trym.ntmps5
  go_wp2_with (first
    | (go_at_call 20; refine (K20 _).mono ?_; rintro e w' ⟨rfl, rfl⟩)
    | (go_at_call 21; refine K21.mono ?_; rintro e w' ⟨rfl, q1, rfl⟩))
  refine (K22 _).mono ?_
  rintro e w1 ⟨b0, d0, rfl, hd0, hd0', T, B, _⟩
  have T0 : Hid (Sl w1 b0 n f) := T
  have B1 : Hid (Below _ _ w1) := B
  clear K20 K21 K22 T B
  go_wp2_with fail
  refine (clone22 a1 m d g w1 ((S1'.out.drewN _).below B1.out) Z1.out (by omega)).mono ?_
  rintro e w2 ⟨b1, d1, rfl, hd1, hd1', T, B, _⟩
  have T1 : Hid (Sl w2 b1 m g) := T
  have B2 : Hid (Below w1.heap.size w1 w2) := B
  have T2 : Hid (Sl w2 b0 n f) := T0.out.below B
  clear T B T0 S1' Z1
  go_wp2_with fail
  refine (one23 b0 b1 n d0 m d1 f g w2 T2.out T1.out hd0 hd1 (by omega) (by omega) HD.out).mono ?_
  rintro e w3 ⟨r, rfl, hA, q3, rfl⟩
  go_wp2_with fail
  refine (mod24 b0 b1 n d0 m d1 f g _ (T2.out.drewN _) (T1.out.drewN _) (by omega) (by omega) HD.out).mono ?_
  rintro e w4 ⟨r', rfl, hM, q4, rfl⟩
  obtain rfl := law1 HD.out hA hM
  clear hA hM T1 T2
  go_wp2
  go_ret
  refine ⟨by simp, ?_⟩
  first
  | exact below_drewN (below_drewN ((below_drewN (Below.refl _ _) _).trans (B1.out.trans (B2.out.mono B1.out.size))) _) _
  | exact below_drewN ((below_drewN (Below.refl _ _) _).trans (B1.out.trans (B2.out.mono B1.out.size))) _

theorem walk5 (a0 a1 : Option Addr) (n c m d : Nat) (f g : Nat → Int) (w : World) (S0 : Sl w a0 n f) (S1 : Sl w a1 m g) (z0 : a0 = none → n = 0) (z1 : a1 = none → m = 0) (hn : n ≤ 9223372036854775807) :
    Calls Trym.prog 5 #[.slice a0 n c, .slice a1 m d] w fun e w' => e = .returned (.bool true) ∧ Below w.heap.size w w' := by
  by_cases hb : n + m ≤ 1048576
  · by_cases h0 : 262144 < n
    · exact w5_cap0 a0 a1 n c m d w hb h0
    by_cases h1 : 262144 < m
    · exact w5_cap1 a0 a1 n c m d w hb (by omega) h1
    by_cases h : 1048576 < 4 * n + 4 * m
    · exact w5_sum a0 a1 n c m d w hb (by omega) (by omega) h
    rcases hdf : eqB n m f g with _ | _
    · exact w5_diff a0 a1 n c m d f g w S0 S1 z0 z1 hb (by omega) (by omega) (by omega) hdf
    · exact w5_same a0 a1 n c m d f g w S0 S1 hb (by omega) (by omega) (by omega) hdf
  · exact w5_long a0 a1 n c m d w hn hb

end Go.Proofs.Qxb6601083aMods.Edit
