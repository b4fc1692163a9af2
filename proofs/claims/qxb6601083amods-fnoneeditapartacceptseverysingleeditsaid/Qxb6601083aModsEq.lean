/-
  THE TWO EQUALITY TESTS ON THE ROAD: the law's own 'runesEqual' (21) and slices.Equal at []rune (40): each answers 'eqB'.
-/
import Derived.Test.Qxb6601083aModsBase
import Derived.Deep.LoopGhost
import Derived.Deep.QuietTactic
import Derived.BigQuiet
namespace Go.Proofs.Qxb6601083aMods.Edit
open Go.RowKit

set_option maxHeartbeats 400000 in
theorem eq21 (a1 a2 : Option Addr) (n c m d : Nat) (f g : Nat → Int) (w : World) (h1 : Sl w a1 n f) (h2 : Sl w a2 m g) (hn : n ≤ 140737488351232) (hm : m ≤ 140737488351232) :
    Calls Trym.prog 21 #[.slice a1 n c, .slice a2 m d] w fun e w' => e = .returned (.bool (eqB n m f g)) ∧ ∃ q, w' = w.drewN q := by
  by_cases hnm : n = m
  · subst hnm
    go_enter Trym.func21, Trym.ntmps21
    go_wp2
    go_loopg [5] n (fun gh s wr => ∃ k q : Nat, k ≤ n ∧ n - k ≤ gh ∧ s = .int .i64 k ∧ wr = w.drewN q ∧ Aside (∀ j, j < k → f j = g j))
    case atStart => exact ⟨0, 0, Nat.zero_le _, by omega, rfl, rfl, fun j hj => absurd hj (Nat.not_lt_zero _)⟩
    case round =>
      obtain ⟨k, q, hk, hg, rfl, rfl, A⟩ := hrel
      by_cases hlt : k < n
      · obtain ⟨b1, o1, rfl, c1⟩ := h1.at (by omega)
        obtain ⟨b2, o2, rfl, c2⟩ := h2.at (by omega)
        have g1 := c1 k hlt
        have g2 := c2 k hlt
        clear c1 c2 h1 h2
        by_cases hxy : f k = g k
        · have A' : Aside (∀ j, j < k + 1 → f j = g j) := fun j hj => by
            by_cases e : j = k
            · rw [e]; exact hxy
            · exact A.out j (by omega)
          generalize f k = x at g1 hxy
          generalize g k = y at g2 hxy
          subst hxy
          go_wp2_with fail
          go_quiet (fail)
          go_wp2
          go_roundg (n - (k + 1))
          case measure => omega
          case rel => exact ⟨k + 1, _, by omega, by omega, by go_num, rfl, A'⟩
        · have R : Aside (eqB n n f g = false) := eqB_elem k hlt hxy
          generalize f k = x at g1 hxy
          generalize g k = y at g2 hxy
          go_wp2_with fail
          go_quiet (fail)
          go_wp2
          go_ret
          exact ⟨by rw [R.out]; rfl, q + nq, World.drewN_drewN _ _ _⟩
      · have R : Aside (eqB n n f g = true) := eqB_true rfl (fun j hj => A.out j (by omega))
        clear h1 h2
        go_wp2
        go_ret
        exact ⟨by rw [R.out]; rfl, q, rfl⟩
  · have hnm' : ¬ (n : Int) = (m : Int) := by omega
    have R : Aside (eqB n m f g = false) := eqB_len hnm
    clear h1 h2
    go_enter Trym.func21, Trym.ntmps21
    go_wp2
    go_ret
    exact ⟨by rw [R.out]; rfl, 0, rfl⟩

set_option maxHeartbeats 400000 in
theorem eq40 (a1 a2 : Option Addr) (n c m d : Nat) (f g : Nat → Int) (w : World) (h1 : Sl w a1 n f) (h2 : Sl w a2 m g) (hn : n ≤ 140737488351232) (hm : m ≤ 140737488351232) :
    Calls Trym.prog 40 #[.slice a1 n c, .slice a2 m d] w fun e w' => e = .returned (.bool (eqB n m f g)) ∧ ∃ q, w' = w.drewN q := by
  by_cases hnm : n = m
  · subst hnm
    go_enter Trym.func40, Trym.ntmps40
    go_wp2
    go_loopg [13] n (fun gh s wr => ∃ k q : Nat, k ≤ n ∧ n - k ≤ gh ∧ s = .int .i64 k ∧ wr = w.drewN q ∧ Aside (∀ j, j < k → f j = g j))
    case atStart => exact ⟨0, 0, Nat.zero_le _, by omega, rfl, rfl, fun j hj => absurd hj (Nat.not_lt_zero _)⟩
    case round =>
      obtain ⟨k, q, hk, hg, rfl, rfl, A⟩ := hrel
      by_cases hlt : k < n
      · obtain ⟨b1, o1, rfl, c1⟩ := h1.at (by omega)
        obtain ⟨b2, o2, rfl, c2⟩ := h2.at (by omega)
        have g1 := c1 k hlt
        have g2 := c2 k hlt
        clear c1 c2 h1 h2
        by_cases hxy : f k = g k
        · have A' : Aside (∀ j, j < k + 1 → f j = g j) := fun j hj => by
            by_cases e : j = k
            · rw [e]; exact hxy
            · exact A.out j (by omega)
          generalize f k = x at g1 hxy
          generalize g k = y at g2 hxy
          subst hxy
          go_wp2_with fail
          go_quiet (fail)
          go_wp2
          go_roundg (n - (k + 1))
          case measure => omega
          case rel => exact ⟨k + 1, _, by omega, by omega, by go_num, rfl, A'⟩
        · have R : Aside (eqB n n f g = false) := eqB_elem k hlt hxy
          generalize f k = x at g1 hxy
          generalize g k = y at g2 hxy
          go_wp2_with fail
          go_quiet (fail)
          go_wp2
          go_ret
          exact ⟨by rw [R.out]; rfl, q + nq, World.drewN_drewN _ _ _⟩
      · have R : Aside (eqB n n f g = true) := eqB_true rfl (fun j hj => A.out j (by omega))
        clear h1 h2
        go_wp2
        go_ret
        exact ⟨by rw [R.out]; rfl, q, rfl⟩
  · have hnm' : ¬ (n : Int) = (m : Int) := by omega
    have R : Aside (eqB n m f g = false) := eqB_len hnm
    clear h1 h2
    go_enter Trym.func40, Trym.ntmps40
    go_wp2
    go_ret
    exact ⟨by rw [R.out]; rfl, 0, rfl⟩

end Go.Proofs.Qxb6601083aMods.Edit
