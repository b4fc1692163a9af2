/-
  The law's own model 'modelOneEdit' (24), walked.
-/
import Derived.Test.Qxb6601083aModsOne
namespace Go.Proofs.Qxb6601083aMods.Edit
open Go.RowKit

/-- q is the first place, read from the end, where the two part. -/
def IsSd (n m : Nat) (f g : Nat → Int) (q : Nat) : Prop := q ≤ m ∧ (∀ j, j < q → f (n - 1 - j) = g (m - 1 - j)) ∧ (q < m → ¬ f (n - 1 - q) = g (m - 1 - q))

theorem fd_ex (f g : Nat → Int) (m : Nat) : ∃ p, IsFd f g m p := by
  induction m with
  | zero => exact ⟨0, Nat.le_refl _, fun j hj => absurd hj (Nat.not_lt_zero _), fun h => absurd h (Nat.lt_irrefl _)⟩
  | succ m ih =>
    obtain ⟨p, h1, h2, h3⟩ := ih
    by_cases hp : p < m
    · exact ⟨p, by omega, h2, fun _ => h3 hp⟩
    · obtain rfl : p = m := by omega
      by_cases e : f p = g p
      · refine ⟨p + 1, Nat.le_refl _, fun j hj => ?_, fun h => absurd h (Nat.lt_irrefl _)⟩
        by_cases ej : j = p
        · rw [ej]; exact e
        · exact h2 j (by omega)
      · exact ⟨p, by omega, h2, fun _ => e⟩

theorem sd_ex (n m : Nat) (f g : Nat → Int) : ∃ q, IsSd n m f g q := fd_ex (fun j => f (n - 1 - j)) (fun j => g (m - 1 - j)) m

/-- What the model answers for the longer (n, f) and the shorter (m, g), n at most m + 1, common head p, common tail q. -/
def mdB (n m : Nat) (f g : Nat → Int) (p q : Nat) : Bool :=
  if m < n then decide (m ≤ p + q) else decide (n ≤ p + q + 1) || (decide (p + q + 2 = n) && f p == g (p + 1) && f (p + 1) == g p)

theorem mdB_gt {n m : Nat} {f g : Nat → Int} {p q : Nat} (h : m < n) : mdB n m f g p q = decide (m ≤ p + q) := by
  unfold mdB; rw [if_pos h]
theorem mdB_le {n m : Nat} {f g : Nat → Int} {p q : Nat} (h : n ≤ m) : mdB n m f g p q = (decide (n ≤ p + q + 1) || (decide (p + q + 2 = n) && f p == g (p + 1) && f (p + 1) == g p)) := by
  unfold mdB; rw [if_neg (by omega)]
theorem mdB_cover {n m : Nat} {f g : Nat → Int} {p q : Nat} (h : n ≤ m) (h3 : n ≤ p + q + 1) : mdB n m f g p q = true := by
  rw [mdB_le h]; simp [h3]
theorem mdB_wide {n m : Nat} {f g : Nat → Int} {p q : Nat} (h : n ≤ m) (h3 : ¬ n ≤ p + q + 1) (h4 : ¬ p + q + 2 = n) : mdB n m f g p q = false := by
  rw [mdB_le h]; simp [h3, h4]
theorem mdB_no1 {n m : Nat} {f g : Nat → Int} {p q : Nat} (h : n ≤ m) (h3 : ¬ n ≤ p + q + 1) (e : ¬ f p = g (p + 1)) : mdB n m f g p q = false := by
  rw [mdB_le h]; simp [h3, e]
theorem mdB_no2 {n m : Nat} {f g : Nat → Int} {p q : Nat} (h : n ≤ m) (h3 : ¬ n ≤ p + q + 1) (e : ¬ f (p + 1) = g p) : mdB n m f g p q = false := by
  rw [mdB_le h]; simp [h3, e]
theorem mdB_yes {n m : Nat} {f g : Nat → Int} {p q : Nat} (h : n ≤ m) (h4 : p + q + 2 = n) (e1 : f p = g (p + 1)) (e2 : f (p + 1) = g p) : mdB n m f g p q = true := by
  rw [mdB_le h]; simp [h4, e1, e2]
theorem beq_f {x y : Int} (h : ¬ x = y) : (x == y) = false := by simpa using h

set_option maxHeartbeats 4000000 in
theorem mod24_near (a1 a2 : Option Addr) (n c m d : Nat) (f g : Nat → Int) (w : World) (h1 : Sl w a1 n f) (h2 : Sl w a2 m g) (hcl : n ≤ 140737488351232) (hnm : m ≤ n) (hnm' : n ≤ m + 1) (hdf : eqB n m f g = false) :
    Calls Trym.prog 24 #[.slice a1 n c, .slice a2 m d] w fun e w' => ∃ p q, IsFd f g m p ∧ IsSd n m f g q ∧ e = .returned (.bool (mdB n m f g p q)) ∧ ∃ q, w' = w.drewN q := by
  obtain ⟨p, FP0⟩ := fd_ex f g m
  obtain ⟨s, FS0⟩ := sd_ex n m f g
  have hp1 := FP0.1
  have hs1 := FS0.1
  have FP : Hid (IsFd f g m p) := FP0
  have FS : Hid (IsSd n m f g s) := FS0
  have hpos : 0 < n := by
    rcases Nat.eq_zero_or_pos n with h | h
    · rw [eqB_true (by omega) (fun i hi => by omega)] at hdf; exact absurd hdf (by decide)
    · exact h
  have hpn : n = m → p < m := fun e => by
    rcases Nat.lt_or_ge p m with h | h
    · exact h
    · rw [eqB_true e (fun i hi => FP0.2.1 i (by omega))] at hdf; exact absurd hdf (by decide)
  obtain ⟨b1, o1, rfl, c1⟩ := h1.at hpos
  have C1 : Hid (∀ i, i < n → w.cell? ⟨b1, o1 + i, none⟩ = some (.int .i32 (f i))) := c1
  obtain ⟨b2, o2, A2, C2⟩ : ∃ b2 o2, Hid (0 < m → a2 = some ⟨b2, o2, none⟩) ∧ Hid (∀ i, i < m → w.cell? ⟨b2, o2 + i, none⟩ = some (.int .i32 (g i))) := by
    rcases Nat.eq_zero_or_pos m with h | h
    · exact ⟨0, 0, fun k => by omega, fun i k => by omega⟩
    · obtain ⟨b2, o2, e, c2⟩ := h2.at h
      exact ⟨b2, o2, fun _ => e, c2⟩
  clear FP0 FS0 h1 h2 hdf c1
  have hnl : decide (n < m) = false := decide_eq_false (by omega)
  have hnl1 : decide ((1 : Int) < (n : Int) - (m : Int)) = false := decide_eq_false (by omega)
  go_enter Trym.func24, Trym.ntmps24
  go_wp2
  go_loopg [9] m (fun gh t wr => ∃ k q : Nat, k ≤ p ∧ m - k ≤ gh ∧ t = .int .i64 k ∧ wr = w.drewN q)
  case atStart => exact ⟨0, 0, Nat.zero_le _, by omega, rfl, rfl⟩
  case round =>
    obtain ⟨k, q, hk, hg, rfl, rfl⟩ := hrel
    by_cases hlt : k < p
    · have g1 := C1.out k (by omega)
      have g2 := C2.out k (by omega)
      have e2 := A2.out (by omega)
      subst e2
      have hkm : k < m := by omega
      have hkn : k < n := by omega
      rw [FP.out.2.1 k hlt] at g1
      generalize g k = y at g1 g2
      go_wp2_with fail
      go_quiet (fail)
      go_wp2
      go_roundg (m - (k + 1))
      case measure => omega
      case rel => exact ⟨k + 1, _, by omega, by omega, by go_num, rfl⟩
    · obtain rfl : k = p := by omega
      rcases Nat.lt_or_ge k m with hpm | hpm
      case' inl =>
        have g1 := C1.out k (by omega)
        have g2 := C2.out k (by omega)
        have gx := FP.out.2.2 hpm
        have e2 := A2.out (by omega)
        subst e2
        have hkn : k < n := by omega
        generalize f k = x at g1 gx
        generalize g k = y at g2 gx
        have gx' : (x == y) = false := by simpa using gx
        clear gx
        go_wp2_with fail
        go_quiet (fail)
        go_wp2
        clear g1 g2 gx'
      case' inr =>
        have hlf : decide (k < m) = false := decide_eq_false (by omega)
        go_wp2_with fail
        go_quiet (fail)
        go_wp2
        clear hlf
      all_goals
        go_loopg [10] m (fun gh t wr => ∃ j q : Nat, j ≤ s ∧ m - j ≤ gh ∧ t = .int .i64 j ∧ wr = w.drewN q)
        case atStart => exact ⟨0, _, Nat.zero_le _, by omega, rfl, World.drewN_drewN _ _ _⟩
        case round =>
          obtain ⟨j, q1, hj, hg1, rfl, rfl⟩ := hrel
          by_cases hltj : j < s
          · have g1 := C1.out (n - 1 - j) (by omega)
            have g2 := C2.out (m - 1 - j) (by omega)
            have e2 := A2.out (by omega)
            have hjm : j < m := by omega
            have hjn : j < n := by omega
            rw [FS.out.2.1 j hltj] at g1
            generalize g (m - 1 - j) = y at g1 g2
            first | subst e2 | clear e2
            go_wp2_with fail
            go_quiet (fail)
            go_wp2
            go_roundg (m - (j + 1))
            case measure => omega
            case rel => exact ⟨j + 1, _, by omega, by omega, by go_num, rfl⟩
          · obtain rfl : j = s := by omega
            rcases Nat.lt_or_ge j m with hsm | hsm
            case' inl =>
              have g1 := C1.out (n - 1 - j) (by omega)
              have g2 := C2.out (m - 1 - j) (by omega)
              have gx := FS.out.2.2 hsm
              have e2 := A2.out (by omega)
              first | subst e2 | clear e2
              have hjn : j < n := by omega
              generalize f (n - 1 - j) = x at g1 gx
              generalize g (m - 1 - j) = y at g2 gx
              have gx' : (x == y) = false := by simpa using gx
              clear gx
              go_wp2_with fail
              go_quiet (fail)
              clear g1 g2
            case' inr =>
              have hlf : decide (j < m) = false := decide_eq_false (by omega)
              go_wp2_with fail
              go_quiet (fail)
            all_goals
              rcases Nat.lt_or_ge m n with hgt | hge
              · have R : Aside (mdB n m f g k j = decide (m ≤ k + j)) := mdB_gt hgt
                go_wp2
                go_ret
                refine ⟨k, j, FP.out, FS.out, ret_bool (by rw [R.out]; exact decide_eq_decide.2 (by omega)), ?_⟩
                first | exact ex1 _ _ | exact ex2 _ _ _ | exact ex3 _ _ _ _
              · have hkm : k < m := hpn (by omega)
                first
                | (exfalso; omega)
                | by_cases h3 : n ≤ k + j + 1
                  · have R : Aside (mdB n m f g k j = true) := mdB_cover hge h3
                    go_wp2
                    go_ret
                    refine ⟨k, j, FP.out, FS.out, ret_bool (by rw [R.out]), ?_⟩
                    first | exact ex1 _ _ | exact ex2 _ _ _ | exact ex3 _ _ _ _
                  · first
                    | (exfalso; omega)
                    | by_cases h4 : k + j + 2 = n
                      · have h4' : ((k : Int) + (j : Int) == (n : Int) - 2) = true := by simp; omega
                        have hk1 : k + 1 < n := by omega
                        have hk2 : k + 1 < m := by omega
                        have hk0 : k < n := by omega
                        have e5 := A2.out (by omega)
                        first | subst e5 | clear e5
                        have g1 := C1.out k (by omega)
                        have g2 := C2.out k (by omega)
                        have g3 := C1.out (k + 1) (by omega)
                        have g4 := C2.out (k + 1) (by omega)
                        by_cases t1 : f k = g (k + 1)
                        · by_cases t2 : f (k + 1) = g k
                          · have R : Aside (mdB n m f g k j = true) := mdB_yes hge h4 t1 t2
                            clear h4
                            generalize f k = x at g1 t1
                            generalize g k = y at g2 t2
                            generalize f (k + 1) = x1 at g3 t2
                            generalize g (k + 1) = y1 at g4 t1
                            subst t1 t2
                            go_wp2
                            go_quiet (fail)
                            go_wp2
                            go_ret
                            refine ⟨k, j, FP.out, FS.out, ret_bool (by rw [R.out]), ?_⟩
                            first | exact ex1 _ _ | exact ex2 _ _ _ | exact ex3 _ _ _ _
                          · have R : Aside (mdB n m f g k j = false) := mdB_no2 hge h3 t2
                            clear h4
                            generalize f k = x at g1 t1
                            generalize g k = y at g2 t2
                            generalize f (k + 1) = x1 at g3 t2
                            generalize g (k + 1) = y1 at g4 t1
                            subst t1
                            have t2' : (x1 == y) = false := beq_f t2
                            clear t2
                            go_wp2
                            go_quiet (fail)
                            go_wp2
                            go_ret
                            refine ⟨k, j, FP.out, FS.out, ret_bool (by rw [R.out]), ?_⟩
                            first | exact ex1 _ _ | exact ex2 _ _ _ | exact ex3 _ _ _ _
                        · have R : Aside (mdB n m f g k j = false) := mdB_no1 hge h3 t1
                          clear h4
                          generalize f k = x at g1 t1
                          generalize g k = y at g2
                          generalize f (k + 1) = x1 at g3
                          generalize g (k + 1) = y1 at g4 t1
                          have t1' : (x == y1) = false := beq_f t1
                          clear t1
                          go_wp2
                          go_quiet (fail)
                          go_wp2
                          go_ret
                          refine ⟨k, j, FP.out, FS.out, ret_bool (by rw [R.out]), ?_⟩
                          first | exact ex1 _ _ | exact ex2 _ _ _ | exact ex3 _ _ _ _
                      · have R : Aside (mdB n m f g k j = false) := mdB_wide hge h3 h4
                        have h4' : ((k : Int) + (j : Int) == (n : Int) - 2) = false := by simp; omega
                        go_wp2
                        go_quiet (fail)
                        go_wp2
                        go_ret
                        refine ⟨k, j, FP.out, FS.out, ret_bool (by rw [R.out]), ?_⟩
                        first | exact ex1 _ _ | exact ex2 _ _ _ | exact ex3 _ _ _ _

set_option maxHeartbeats 4000000 in
theorem mod24_swap (a1 a2 : Option Addr) (n c m d : Nat) (f g : Nat → Int) (w : World) (h1 : Sl w a1 n f) (h2 : Sl w a2 m g) (hcl : n ≤ 140737488351232) (hnm : m < n) (hnm' : n ≤ m + 1) (hdf : eqB n m f g = false) :
    Calls Trym.prog 24 #[.slice a2 m d, .slice a1 n c] w fun e w' => ∃ p q, IsFd f g m p ∧ IsSd n m f g q ∧ e = .returned (.bool (mdB n m f g p q)) ∧ ∃ q, w' = w.drewN q := by
  obtain ⟨p, FP0⟩ := fd_ex f g m
  obtain ⟨s, FS0⟩ := sd_ex n m f g
  have hp1 := FP0.1
  have hs1 := FS0.1
  have FP : Hid (IsFd f g m p) := FP0
  have FS : Hid (IsSd n m f g s) := FS0
  have hpos : 0 < n := by
    rcases Nat.eq_zero_or_pos n with h | h
    · rw [eqB_true (by omega) (fun i hi => by omega)] at hdf; exact absurd hdf (by decide)
    · exact h
  have hpn : n = m → p < m := fun e => by
    rcases Nat.lt_or_ge p m with h | h
    · exact h
    · rw [eqB_true e (fun i hi => FP0.2.1 i (by omega))] at hdf; exact absurd hdf (by decide)
  obtain ⟨b1, o1, rfl, c1⟩ := h1.at hpos
  have C1 : Hid (∀ i, i < n → w.cell? ⟨b1, o1 + i, none⟩ = some (.int .i32 (f i))) := c1
  obtain ⟨b2, o2, A2, C2⟩ : ∃ b2 o2, Hid (0 < m → a2 = some ⟨b2, o2, none⟩) ∧ Hid (∀ i, i < m → w.cell? ⟨b2, o2 + i, none⟩ = some (.int .i32 (g i))) := by
    rcases Nat.eq_zero_or_pos m with h | h
    · exact ⟨0, 0, fun k => by omega, fun i k => by omega⟩
    · obtain ⟨b2, o2, e, c2⟩ := h2.at h
      exact ⟨b2, o2, fun _ => e, c2⟩
  clear FP0 FS0 h1 h2 hdf c1
  have hnl : decide (m < n) = true := decide_eq_true (by omega)
  have hnl1 : decide ((1 : Int) < (n : Int) - (m : Int)) = false := decide_eq_false (by omega)
  go_enter Trym.func24, Trym.ntmps24
  go_wp2
  go_loopg [9] m (fun gh t wr => ∃ k q : Nat, k ≤ p ∧ m - k ≤ gh ∧ t = .int .i64 k ∧ wr = w.drewN q)
  case atStart => exact ⟨0, 0, Nat.zero_le _, by omega, rfl, rfl⟩
  case round =>
    obtain ⟨k, q, hk, hg, rfl, rfl⟩ := hrel
    by_cases hlt : k < p
    · have g1 := C1.out k (by omega)
      have g2 := C2.out k (by omega)
      have e2 := A2.out (by omega)
      subst e2
      have hkm : k < m := by omega
      have hkn : k < n := by omega
      rw [FP.out.2.1 k hlt] at g1
      generalize g k = y at g1 g2
      go_wp2_with fail
      go_quiet (fail)
      go_wp2
      go_roundg (m - (k + 1))
      case measure => omega
      case rel => exact ⟨k + 1, _, by omega, by omega, by go_num, rfl⟩
    · obtain rfl : k = p := by omega
      rcases Nat.lt_or_ge k m with hpm | hpm
      case' inl =>
        have g1 := C1.out k (by omega)
        have g2 := C2.out k (by omega)
        have gx := FP.out.2.2 hpm
        have e2 := A2.out (by omega)
        subst e2
        have hkn : k < n := by omega
        generalize f k = x at g1 gx
        generalize g k = y at g2 gx
        have gx' : (x == y) = false := by simpa using gx
        clear gx
        go_wp2_with fail
        go_quiet (fail)
        go_wp2
        clear g1 g2 gx'
      case' inr =>
        have hlf : decide (k < m) = false := decide_eq_false (by omega)
        go_wp2_with fail
        go_quiet (fail)
        go_wp2
        clear hlf
      all_goals
        go_loopg [10] m (fun gh t wr => ∃ j q : Nat, j ≤ s ∧ m - j ≤ gh ∧ t = .int .i64 j ∧ wr = w.drewN q)
        case atStart => exact ⟨0, _, Nat.zero_le _, by omega, rfl, World.drewN_drewN _ _ _⟩
        case round =>
          obtain ⟨j, q1, hj, hg1, rfl, rfl⟩ := hrel
          by_cases hltj : j < s
          · have g1 := C1.out (n - 1 - j) (by omega)
            have g2 := C2.out (m - 1 - j) (by omega)
            have e2 := A2.out (by omega)
            have hjm : j < m := by omega
            have hjn : j < n := by omega
            rw [FS.out.2.1 j hltj] at g1
            generalize g (m - 1 - j) = y at g1 g2
            first | subst e2 | clear e2
            go_wp2_with fail
            go_quiet (fail)
            go_wp2
            go_roundg (m - (j + 1))
            case measure => omega
            case rel => exact ⟨j + 1, _, by omega, by omega, by go_num, rfl⟩
          · obtain rfl : j = s := by omega
            rcases Nat.lt_or_ge j m with hsm | hsm
            case' inl =>
              have g1 := C1.out (n - 1 - j) (by omega)
              have g2 := C2.out (m - 1 - j) (by omega)
              have gx := FS.out.2.2 hsm
              have e2 := A2.out (by omega)
              first | subst e2 | clear e2
              have hjn : j < n := by omega
              generalize f (n - 1 - j) = x at g1 gx
              generalize g (m - 1 - j) = y at g2 gx
              have gx' : (x == y) = false := by simpa using gx
              clear gx
              go_wp2_with fail
              go_quiet (fail)
              clear g1 g2
            case' inr =>
              have hlf : decide (j < m) = false := decide_eq_false (by omega)
              go_wp2_with fail
              go_quiet (fail)
            all_goals
              rcases Nat.lt_or_ge m n with hgt | hge
              · have R : Aside (mdB n m f g k j = decide (m ≤ k + j)) := mdB_gt hgt
                go_wp2
                go_ret
                refine ⟨k, j, FP.out, FS.out, ret_bool (by rw [R.out]; exact decide_eq_decide.2 (by omega)), ?_⟩
                first | exact ex1 _ _ | exact ex2 _ _ _ | exact ex3 _ _ _ _
              · have hkm : k < m := hpn (by omega)
                first
                | (exfalso; omega)
                | by_cases h3 : n ≤ k + j + 1
                  · have R : Aside (mdB n m f g k j = true) := mdB_cover hge h3
                    go_wp2
                    go_ret
                    refine ⟨k, j, FP.out, FS.out, ret_bool (by rw [R.out]), ?_⟩
                    first | exact ex1 _ _ | exact ex2 _ _ _ | exact ex3 _ _ _ _
                  · first
                    | (exfalso; omega)
                    | by_cases h4 : k + j + 2 = n
                      · have h4' : ((k : Int) + (j : Int) == (n : Int) - 2) = true := by simp; omega
                        have hk1 : k + 1 < n := by omega
                        have hk2 : k + 1 < m := by omega
                        have hk0 : k < n := by omega
                        have e5 := A2.out (by omega)
                        first | subst e5 | clear e5
                        have g1 := C1.out k (by omega)
                        have g2 := C2.out k (by omega)
                        have g3 := C1.out (k + 1) (by omega)
                        have g4 := C2.out (k + 1) (by omega)
                        by_cases t1 : f k = g (k + 1)
                        · by_cases t2 : f (k + 1) = g k
                          · have R : Aside (mdB n m f g k j = true) := mdB_yes hge h4 t1 t2
                            clear h4
                            generalize f k = x at g1 t1
                            generalize g k = y at g2 t2
                            generalize f (k + 1) = x1 at g3 t2
                            generalize g (k + 1) = y1 at g4 t1
                            subst t1 t2
                            go_wp2
                            go_quiet (fail)
                            go_wp2
                            go_ret
                            refine ⟨k, j, FP.out, FS.out, ret_bool (by rw [R.out]), ?_⟩
                            first | exact ex1 _ _ | exact ex2 _ _ _ | exact ex3 _ _ _ _
                          · have R : Aside (mdB n m f g k j = false) := mdB_no2 hge h3 t2
                            clear h4
                            generalize f k = x at g1 t1
                            generalize g k = y at g2 t2
                            generalize f (k + 1) = x1 at g3 t2
                            generalize g (k + 1) = y1 at g4 t1
                            subst t1
                            have t2' : (x1 == y) = false := beq_f t2
                            clear t2
                            go_wp2
                            go_quiet (fail)
                            go_wp2
                            go_ret
                            refine ⟨k, j, FP.out, FS.out, ret_bool (by rw [R.out]), ?_⟩
                            first | exact ex1 _ _ | exact ex2 _ _ _ | exact ex3 _ _ _ _
                        · have R : Aside (mdB n m f g k j = false) := mdB_no1 hge h3 t1
                          clear h4
                          generalize f k = x at g1 t1
                          generalize g k = y at g2
                          generalize f (k + 1) = x1 at g3
                          generalize g (k + 1) = y1 at g4 t1
                          have t1' : (x == y1) = false := beq_f t1
                          clear t1
                          go_wp2
                          go_quiet (fail)
                          go_wp2
                          go_ret
                          refine ⟨k, j, FP.out, FS.out, ret_bool (by rw [R.out]), ?_⟩
                          first | exact ex1 _ _ | exact ex2 _ _ _ | exact ex3 _ _ _ _
                      · have R : Aside (mdB n m f g k j = false) := mdB_wide hge h3 h4
                        have h4' : ((k : Int) + (j : Int) == (n : Int) - 2) = false := by simp; omega
                        go_wp2
                        go_quiet (fail)
                        go_wp2
                        go_ret
                        refine ⟨k, j, FP.out, FS.out, ret_bool (by rw [R.out]), ?_⟩
                        first | exact ex1 _ _ | exact ex2 _ _ _ | exact ex3 _ _ _ _

set_option maxHeartbeats 400000 in
theorem mod24_far (a1 a2 : Option Addr) (n c m d : Nat) (w : World) (hcl : n ≤ 140737488351232) (hdl : m ≤ 140737488351232) (hnm : m + 1 < n) :
    Calls Trym.prog 24 #[.slice a1 n c, .slice a2 m d] w fun e w' => e = .returned (.bool false) ∧ w' = w := by
  go_enter Trym.func24, Trym.ntmps24
  go_wp2
  go_ret
  exact ⟨rfl, rfl⟩

set_option maxHeartbeats 400000 in
theorem mod24_far' (a1 a2 : Option Addr) (n c m d : Nat) (w : World) (hcl : n ≤ 140737488351232) (hdl : m ≤ 140737488351232) (hnm : m + 1 < n) :
    Calls Trym.prog 24 #[.slice a2 m d, .slice a1 n c] w fun e w' => e = .returned (.bool false) ∧ w' = w := by
  go_enter Trym.func24, Trym.ntmps24
  go_wp2
  go_ret
  exact ⟨rfl, rfl⟩

/-- What the model answers for two slices that differ, whichever is the longer. -/
def Md (n m : Nat) (f g : Nat → Int) (r : Bool) : Prop :=
  ((m + 1 < n ∨ n + 1 < m) ∧ r = false) ∨ (m ≤ n ∧ n ≤ m + 1 ∧ ∃ p q, IsFd f g m p ∧ IsSd n m f g q ∧ r = mdB n m f g p q) ∨
    (n < m ∧ m ≤ n + 1 ∧ ∃ p q, IsFd g f n p ∧ IsSd m n g f q ∧ r = mdB m n g f p q)

theorem eqB_comm (n m : Nat) (f g : Nat → Int) : eqB n m f g = eqB m n g f := by
  rw [Bool.eq_iff_iff, eqB_iff, eqB_iff]
  exact ⟨fun ⟨h, k⟩ => ⟨h.symm, fun i hi => (k i (by omega)).symm⟩, fun ⟨h, k⟩ => ⟨h.symm, fun i hi => (k i (by omega)).symm⟩⟩

theorem mod24 (a1 a2 : Option Addr) (n c m d : Nat) (f g : Nat → Int) (w : World) (h1 : Sl w a1 n f) (h2 : Sl w a2 m g) (hcl : n ≤ 140737488351232) (hdl : m ≤ 140737488351232) (hdf : eqB n m f g = false) :
    Calls Trym.prog 24 #[.slice a1 n c, .slice a2 m d] w fun e w' => ∃ r, e = .returned (.bool r) ∧ Md n m f g r ∧ ∃ q, w' = w.drewN q := by
  by_cases hf : m + 1 < n
  · refine (mod24_far a1 a2 n c m d w hcl hdl hf).mono ?_
    rintro e w' ⟨rfl, rfl⟩
    exact ⟨false, rfl, .inl ⟨.inl hf, rfl⟩, 0, rfl⟩
  by_cases hf' : n + 1 < m
  · refine (mod24_far' a2 a1 m d n c w hdl hcl hf').mono ?_
    rintro e w' ⟨rfl, rfl⟩
    exact ⟨false, rfl, .inl ⟨.inr hf', rfl⟩, 0, rfl⟩
  by_cases hnm : m ≤ n
  · refine (mod24_near a1 a2 n c m d f g w h1 h2 hcl hnm (by omega) hdf).mono ?_
    rintro e w' ⟨p, q, hp, hq, rfl, hw⟩
    exact ⟨_, rfl, .inr (.inl ⟨hnm, by omega, p, q, hp, hq, rfl⟩), hw⟩
  · refine (mod24_swap a2 a1 m d n c g f w h2 h1 hdl (by omega) (by omega) (by rw [eqB_comm]; exact hdf)).mono ?_
    rintro e w' ⟨p, q, hp, hq, rfl, hw⟩
    exact ⟨_, rfl, .inr (.inr ⟨by omega, by omega, p, q, hp, hq, rfl⟩), hw⟩

end Go.Proofs.Qxb6601083aMods.Edit
