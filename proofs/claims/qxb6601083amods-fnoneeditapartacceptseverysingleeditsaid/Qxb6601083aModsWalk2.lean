/-
  THE LAW 'FnOneEditApartAcceptsEverySingleEdit' (7), walked: a theorem a way.
-/
import Derived.Test.Qxb6601083aModsLaw2
import Derived.Test.Qxb6601083aModsBytes
namespace Go.Proofs.Qxb6601083aMods.Edit
open Go.RowKit

theorem ed_le {op : Int} {p n : Nat} {r : Int} {f : Nat → Int} {len : Nat} {H : Nat → Int} (h : EdS op p n r f len H) : len ≤ n + 1 := by
  rcases h with ⟨_, _, hl, _⟩ | ⟨_, _, hl, _⟩ | ⟨_, _, hl, _⟩ | ⟨_, _, hl, _⟩ <;> omega

theorem eqB_flip (n m : Nat) (f g : Nat → Int) : eqB n m f g = eqB m n g f := by
  rw [Bool.eq_iff_iff, eqB_iff, eqB_iff]
  exact ⟨fun ⟨h, k⟩ => ⟨h.symm, fun i hi => (k i (by omega)).symm⟩, fun ⟨h, k⟩ => ⟨h.symm, fun i hi => (k i (by omega)).symm⟩⟩

set_option maxHeartbeats 400000 in
theorem w7_long (a0 : Option Addr) (n c : Nat) (k r kd : Int) (w : World) (hn : n ≤ 9223372036854775807) (hb : ¬ n ≤ 1048576) :
    Calls Trym.prog 7 #[.slice a0 n c, .int .i64 k, .int .i32 r, .int .u8 kd] w fun e w' => e = .returned (.bool true) ∧ Below w.heap.size w w' := by
  have K27 := fun w => bytes27 a0 n c k r kd false w hn (decide_eq_false hb)
  go_enter Trym.func7, Trym.ntmps7
  go_wp2_with (go_at_call 27; refine (K27 _).mono ?_; rintro e w' ⟨rfl, rfl⟩)
  go_ret
  exact ⟨rfl, Below.refl _ _⟩

set_option maxHeartbeats 400000 in
theorem w7_cap (a0 : Option Addr) (n c : Nat) (k r kd : Int) (w : World) (hb : n ≤ 1048576) (h : 262144 < n) :
    Calls Trym.prog 7 #[.slice a0 n c, .int .i64 k, .int .i32 r, .int .u8 kd] w fun e w' => e = .returned (.bool true) ∧ Below w.heap.size w w' := by
  have K27 := fun w => bytes27 a0 n c k r kd true w (by omega) (decide_eq_true hb)
  go_enter Trym.func7, Trym.ntmps7
  go_wp2_with (go_at_call 27; refine (K27 _).mono ?_; rintro e w' ⟨rfl, rfl⟩)
  go_ret
  exact ⟨rfl, Below.refl _ _⟩

set_option maxHeartbeats 400000 in
theorem w7_sum (a0 : Option Addr) (n c : Nat) (k r kd : Int) (w : World) (hb : n ≤ 1048576) (h0 : n ≤ 262144) (h : 1048576 < 4 * n + 8) :
    Calls Trym.prog 7 #[.slice a0 n c, .int .i64 k, .int .i32 r, .int .u8 kd] w fun e w' => e = .returned (.bool true) ∧ Below w.heap.size w w' := by
  have K27 := fun w => bytes27 a0 n c k r kd true w (by omega) (decide_eq_true hb)
  go_enter Trym.func7, Trym.ntmps7
  go_wp2_with (go_at_call 27; refine (K27 _).mono ?_; rintro e w' ⟨rfl, rfl⟩)
  go_ret
  exact ⟨rfl, Below.refl _ _⟩

set_option maxHeartbeats 800000 in
theorem w7_edit (a0 : Option Addr) (n c : Nat) (f : Nat → Int) (k r kd : Int) (w : World) (S0 : Sl w a0 n f) (z0 : a0 = none → n = 0) (hb : n ≤ 1048576) (h0 : n ≤ 262144) (h : 4 * n + 8 ≤ 1048576) (d0 : 0 ≤ kd) (d1 : kd ≤ 255) (hk0 : -9223372036854775808 ≤ k) (hk1 : k ≤ 9223372036854775807) :
    Calls Trym.prog 7 #[.slice a0 n c, .int .i64 k, .int .i32 r, .int .u8 kd] w fun e w' => e = .returned (.bool true) ∧ Below w.heap.size w w' := by
  have K27 := fun w => bytes27 a0 n c k r kd true w (by omega) (decide_eq_true hb)
  have K22 := clone22 a0 n c f w S0 z0 (by omega)
  clear S0 z0
  go_enter Trym.func7, Trym.ntmps7
  go_wp2_with (go_at_call 27; refine (K27 _).mono ?_; rintro e w' ⟨rfl, rfl⟩)
  refine K22.mono ?_
  rintro e w1 ⟨b0, e0, rfl, hd0, hd0', T, B, Z⟩
  have T0 : Hid (Sl w1 b0 n f) := T
  have B1 : Hid (Below _ _ w1) := B
  have Z0 : Hid (b0 = none → e0 = 0) := Z
  clear K27 K22 T B Z
  go_wp2_with fail
  refine (app28 b0 n e0 f k r kd w1 T0.out Z0.out hd0 hd0' d0 d1 hk0 hk1).mono ?_
  rintro e w2 (⟨rfl, rfl⟩ | ⟨op, p, len, H, rfl, T1, B2, ED⟩)
  · go_wp2
    go_ret
    exact ⟨rfl, B1.out⟩
  · have hl : len ≤ n + 1 := ed_le ED
    have TA : Hid (Sl w2 b0 n f) := T0.out.below B2
    have TB : Hid (Sl w2 (some ⟨w1.heap.size, 0, none⟩) len H) := T1
    have BB : Hid (Below _ _ w2) := B1.out.trans (B2.mono B1.out.size)
    have HE : Hid (EdS op p n r f len H) := ED
    clear T1 B2 ED T0 B1 Z0
    rcases hdf : eqB n len f H with _ | _
    · have HD : Hid (eqB n len f H = false) := hdf
      have HD' : Hid (eqB len n H f = false) := (eqB_flip _ _ _ _).trans hdf
      have K21 := eq21 b0 (some ⟨w1.heap.size, 0, none⟩) n e0 len (n + 1) f H w2 TA.out TB.out (by omega) (by omega)
      rw [hdf] at K21
      clear hdf
      go_wp2_with fail
      refine K21.mono ?_
      rintro e w3 ⟨rfl, q1, rfl⟩
      clear K21
      go_wp2_with fail
      refine (one23 _ _ _ _ _ _ f H _ (TA.out.drewN _) (TB.out.drewN _) hd0 hl (by omega) (by omega) HD.out).mono ?_
      rintro e w3 ⟨b, rfl, hA, q2, rfl⟩
      obtain rfl := law2 HE.out HD.out hA
      clear hA
      go_wp2_with fail
      refine (one23 _ _ _ _ _ _ H f _ (TB.out.drewN _) (TA.out.drewN _) hl hd0 (by omega) (by omega) HD'.out).mono ?_
      rintro e w3 ⟨b, rfl, hA, q3, rfl⟩
      obtain rfl := law2' HE.out HD'.out hA
      clear hA
      go_wp2
      go_ret
      refine ⟨rfl, ?_⟩
      first
      | exact below_drewN BB.out _
      | exact below_drewN (below_drewN BB.out _) _
      | exact below_drewN (below_drewN (below_drewN BB.out _) _) _
    · have K21 := eq21 b0 (some ⟨w1.heap.size, 0, none⟩) n e0 len (n + 1) f H w2 TA.out TB.out (by omega) (by omega)
      rw [hdf] at K21
      clear hdf
      go_wp2_with fail
      refine K21.mono ?_
      rintro e w3 ⟨rfl, q1, rfl⟩
      clear K21
      go_wp2
      go_ret
      exact ⟨rfl, below_drewN BB.out _⟩

theorem walk7 (a0 : Option Addr) (n c : Nat) (f : Nat → Int) (k r kd : Int) (w : World) (S0 : Sl w a0 n f) (z0 : a0 = none → n = 0) (hn : n ≤ 9223372036854775807) (d0 : 0 ≤ kd) (d1 : kd ≤ 255) (hk0 : -9223372036854775808 ≤ k) (hk1 : k ≤ 9223372036854775807) :
    Calls Trym.prog 7 #[.slice a0 n c, .int .i64 k, .int .i32 r, .int .u8 kd] w fun e w' => e = .returned (.bool true) ∧ Below w.heap.size w w' := by
  by_cases hb : n ≤ 1048576
  · by_cases h0 : 262144 < n
    · exact w7_cap a0 n c k r kd w hb h0
    by_cases h : 1048576 < 4 * n + 8
    · exact w7_sum a0 n c k r kd w hb (by omega) h
    · exact w7_edit a0 n c f k r kd w S0 z0 hb (by omega) (by omega) d0 d1 hk0 hk1
  · exact w7_long a0 n c k r kd w hn hb

end Go.Proofs.Qxb6601083aMods.Edit
