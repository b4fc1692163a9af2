/-
  'oneEditApart' (33) and its exported door (23), walked.
-/
import Derived.Test.Qxb6601083aModsEq
namespace Go.Proofs.Qxb6601083aMods.Edit
open Go.RowKit

/-- p is the first place where f and g part, below m. -/
def IsFd (f g : Nat → Int) (m p : Nat) : Prop := p ≤ m ∧ (∀ j, j < p → f j = g j) ∧ (p < m → ¬ f p = g p)

/-- What 'oneEditApart' answers for the longer (n, f) and the shorter (m, g) that first part at p. -/
def edB (n m : Nat) (f g : Nat → Int) (p : Nat) : Bool :=
  if m < n then eqB (n - (p + 1)) (m - p) (fun i => f (p + 1 + i)) (fun i => g (p + i))
  else eqB (n - (p + 1)) (m - (p + 1)) (fun i => f (p + 1 + i)) (fun i => g (p + 1 + i)) ||
    (f p == g (p + 1) && f (p + 1) == g p && eqB (n - (p + 2)) (m - (p + 2)) (fun i => f (p + 2 + i)) (fun i => g (p + 2 + i)))

theorem edB_gt {n m : Nat} {f g : Nat → Int} {p : Nat} (h : m < n) : edB n m f g p = eqB (n - (p + 1)) (m - p) (fun i => f (p + 1 + i)) (fun i => g (p + i)) := by
  unfold edB; rw [if_pos h]
theorem edB_eq {n : Nat} {f g : Nat → Int} {p : Nat} : edB n n f g p = (eqB (n - (p + 1)) (n - (p + 1)) (fun i => f (p + 1 + i)) (fun i => g (p + 1 + i)) ||
    (f p == g (p + 1) && f (p + 1) == g p && eqB (n - (p + 2)) (n - (p + 2)) (fun i => f (p + 2 + i)) (fun i => g (p + 2 + i)))) := by
  unfold edB; rw [if_neg (by omega)]

/-- A tail of a slice, where there is something behind it. -/
theorem Sl.tail {w : World} {b o : Nat} {n : Nat} {f : Nat → Int} (h : Sl w (some ⟨b, o, none⟩) n f) (l q : Nat) :
    Sl (w.drewN q) (some ⟨b, o + l, none⟩) (n - l) (fun i => f (l + i)) := by
  by_cases hl : n ≤ l
  · exact .inl (by omega)
  · obtain ⟨b', o', e, k⟩ := h.at (by omega)
    obtain ⟨rfl, rfl⟩ : b = b' ∧ o = o' := by simpa using e
    refine .inr ⟨b, o + l, rfl, fun i hi => ?_⟩
    show w.cell? _ = _
    rw [Nat.add_assoc]; exact k (l + i) (by omega)

theorem Sl.empty {w : World} {a : Option Addr} {n : Nat} {f : Nat → Int} (h : n = 0) : Sl w a n f := .inl h

theorem ret_bool {a b : Bool} (h : a = b) : Ending.returned (.bool a) = .returned (.bool b) := by rw [h]
theorem ex1 (w : World) (a : Nat) : ∃ q, w.drewN a = w.drewN q := ⟨_, rfl⟩
theorem ex2 (w : World) (a b : Nat) : ∃ q, (w.drewN a).drewN b = w.drewN q := ⟨_, World.drewN_drewN _ _ _⟩
theorem ex3 (w : World) (a b c : Nat) : ∃ q, ((w.drewN a).drewN b).drewN c = w.drewN q := ⟨a + (b + c), by rw [World.drewN_drewN, World.drewN_drewN]⟩
theorem drew3 (w : World) (a b c : Nat) : (w.drewN (a + b)).drewN c = w.drewN (a + (b + c)) := by rw [World.drewN_drewN, Nat.add_assoc]

set_option maxHeartbeats 800000 in
theorem one33_gt (a1 a2 : Option Addr) (n c m d : Nat) (f g : Nat → Int) (w : World) (h1 : Sl w a1 n f) (h2 : Sl w a2 m g) (hc : n ≤ c) (hd : m ≤ d) (hcl : c ≤ 140737488351232) (hdl : d ≤ 140737488351232) (hnm : m < n) :
    Calls Trym.prog 33 #[.slice a1 n c, .slice a2 m d] w fun e w' => ∃ p, IsFd f g m p ∧ e = .returned (.bool (edB n m f g p)) ∧ ∃ q, w' = w.drewN q := by
  go_enter Trym.func33, Trym.ntmps33
  go_wp2
  go_loopg [5] m (fun gh s wr => ∃ k q : Nat, k ≤ m ∧ m - k ≤ gh ∧ s = .int .i64 k ∧ wr = w.drewN q ∧ Aside (∀ j, j < k → f j = g j))
  case atStart => exact ⟨0, 0, Nat.zero_le _, by omega, rfl, rfl, fun j hj => absurd hj (Nat.not_lt_zero _)⟩
  case round =>
    obtain ⟨k, q, hk, hg, rfl, rfl, A⟩ := hrel
    obtain ⟨b1, o1, rfl, c1⟩ := h1.at (by omega)
    by_cases hlt : k < m
    · obtain ⟨b2, o2, rfl, c2⟩ := h2.at (by omega)
      have g1 := c1 k (by omega)
      have g2 := c2 k hlt
      by_cases hxy : f k = g k
      · have A' : Aside (∀ j, j < k + 1 → f j = g j) := fun j hj => by
          by_cases e : j = k
          · rw [e]; exact hxy
          · exact A.out j (by omega)
        clear c1 c2 h1 h2
        generalize f k = x at g1 hxy
        generalize g k = y at g2 hxy
        subst hxy
        go_wp2_with fail
        go_quiet (fail)
        go_wp2
        go_roundg (m - (k + 1))
        case measure => omega
        case rel => exact ⟨k + 1, _, by omega, by omega, by go_num, rfl, A'⟩
      · have S1 : Hid (∀ q', Sl (w.drewN q') (some ⟨b1, o1 + (k + 1), none⟩) (n - (k + 1)) (fun i => f (k + 1 + i))) := h1.tail (k + 1)
        have S2 : Hid (∀ q', Sl (w.drewN q') (some ⟨b2, o2 + k, none⟩) (m - k) (fun i => g (k + i))) := h2.tail k
        have F : Aside (IsFd f g m k) := ⟨by omega, A.out, fun _ => hxy⟩
        have R : Aside (edB n m f g k = eqB (n - (k + 1)) (m - k) (fun i => f (k + 1 + i)) (fun i => g (k + i))) := edB_gt hnm
        clear c1 c2 h1 h2
        generalize f k = x at g1 hxy
        generalize g k = y at g2 hxy
        go_wp2_with fail
        go_quiet (fail)
        go_wp2
        go_quiet ((go_at_call 40; refine (eq40 _ _ _ _ _ _ _ _ _ (S1.out _) (S2.out _) (by omega) (by omega)).mono ?_; rintro e w'' ⟨rfl, qq, rfl⟩; exact ⟨rfl, _, drew3 _ _ _ _⟩))
        go_wp2
        go_ret
        exact ⟨k, F, ret_bool R.out.symm, _, World.drewN_drewN _ _ _⟩
    · have hkm : k = m := by omega
      subst hkm
      have F : Aside (IsFd f g k k) := ⟨by omega, A.out, fun h => absurd h (by omega)⟩
      have R : Aside (edB n k f g k = eqB (n - (k + 1)) (k - k) (fun i => f (k + 1 + i)) (fun i => g (k + i))) := edB_gt hnm
      have hlf : decide ((k : Int) < (k : Int)) = false := decide_eq_false (by omega)
      by_cases hck : c = k + 1
      · subst hck
        obtain rfl : n = k + 1 := by omega
        clear c1 h1 h2
        go_wp2_with fail
        go_quiet (fail)
        go_wp2
        go_quiet ((go_at_call 40; refine (eq40 _ _ _ _ _ _ (fun i => f (k + 1 + i)) (fun i => g (k + i)) _ (Sl.empty (by omega)) (Sl.empty (by omega)) (by omega) (by omega)).mono ?_; rintro e w'' ⟨rfl, qq, rfl⟩; exact ⟨rfl, _, drew3 _ _ _ _⟩))
        go_wp2
        all_goals
          go_ret
          refine ⟨k, F, ret_bool (by rw [R.out]; simp), ?_⟩
          first | exact ex1 _ _ | exact ex2 _ _ _ | exact ex3 _ _ _ _
      · have S1 : Hid (∀ q', Sl (w.drewN q') (some ⟨b1, o1 + (k + 1), none⟩) (n - (k + 1)) (fun i => f (k + 1 + i))) := h1.tail (k + 1)
        clear c1 h1 h2
        go_wp2_with fail
        go_quiet (fail)
        go_wp2
        go_quiet ((go_at_call 40; refine (eq40 _ _ _ _ _ _ _ (fun i => g (k + i)) _ (S1.out _) (Sl.empty (by omega)) (by omega) (by omega)).mono ?_; rintro e w'' ⟨rfl, qq, rfl⟩; exact ⟨rfl, _, drew3 _ _ _ _⟩))
        go_wp2
        all_goals
          go_ret
          refine ⟨k, F, ret_bool (by rw [R.out]; simp), ?_⟩
          first | exact ex1 _ _ | exact ex2 _ _ _ | exact ex3 _ _ _ _

set_option maxHeartbeats 800000 in
theorem one33_lt (a1 a2 : Option Addr) (n c m d : Nat) (f g : Nat → Int) (w : World) (h1 : Sl w a1 n f) (h2 : Sl w a2 m g) (hc : n ≤ c) (hd : m ≤ d) (hcl : c ≤ 140737488351232) (hdl : d ≤ 140737488351232) (hnm : m < n) :
    Calls Trym.prog 33 #[.slice a2 m d, .slice a1 n c] w fun e w' => ∃ p, IsFd f g m p ∧ e = .returned (.bool (edB n m f g p)) ∧ ∃ q, w' = w.drewN q := by
  go_enter Trym.func33, Trym.ntmps33
  go_wp2
  go_loopg [5] m (fun gh s wr => ∃ k q : Nat, k ≤ m ∧ m - k ≤ gh ∧ s = .int .i64 k ∧ wr = w.drewN q ∧ Aside (∀ j, j < k → f j = g j))
  case atStart => exact ⟨0, 0, Nat.zero_le _, by omega, rfl, rfl, fun j hj => absurd hj (Nat.not_lt_zero _)⟩
  case round =>
    obtain ⟨k, q, hk, hg, rfl, rfl, A⟩ := hrel
    obtain ⟨b1, o1, rfl, c1⟩ := h1.at (by omega)
    by_cases hlt : k < m
    · obtain ⟨b2, o2, rfl, c2⟩ := h2.at (by omega)
      have g1 := c1 k (by omega)
      have g2 := c2 k hlt
      by_cases hxy : f k = g k
      · have A' : Aside (∀ j, j < k + 1 → f j = g j) := fun j hj => by
          by_cases e : j = k
          · rw [e]; exact hxy
          · exact A.out j (by omega)
        clear c1 c2 h1 h2
        generalize f k = x at g1 hxy
        generalize g k = y at g2 hxy
        subst hxy
        go_wp2_with fail
        go_quiet (fail)
        go_wp2
        go_roundg (m - (k + 1))
        case measure => omega
        case rel => exact ⟨k + 1, _, by omega, by omega, by go_num, rfl, A'⟩
      · have S1 : Hid (∀ q', Sl (w.drewN q') (some ⟨b1, o1 + (k + 1), none⟩) (n - (k + 1)) (fun i => f (k + 1 + i))) := h1.tail (k + 1)
        have S2 : Hid (∀ q', Sl (w.drewN q') (some ⟨b2, o2 + k, none⟩) (m - k) (fun i => g (k + i))) := h2.tail k
        have F : Aside (IsFd f g m k) := ⟨by omega, A.out, fun _ => hxy⟩
        have R : Aside (edB n m f g k = eqB (n - (k + 1)) (m - k) (fun i => f (k + 1 + i)) (fun i => g (k + i))) := edB_gt hnm
        clear c1 c2 h1 h2
        generalize f k = x at g1 hxy
        generalize g k = y at g2 hxy
        go_wp2_with fail
        go_quiet (fail)
        go_wp2
        go_quiet ((go_at_call 40; refine (eq40 _ _ _ _ _ _ _ _ _ (S1.out _) (S2.out _) (by omega) (by omega)).mono ?_; rintro e w'' ⟨rfl, qq, rfl⟩; exact ⟨rfl, _, drew3 _ _ _ _⟩))
        go_wp2
        go_ret
        exact ⟨k, F, ret_bool R.out.symm, _, World.drewN_drewN _ _ _⟩
    · have hkm : k = m := by omega
      subst hkm
      have F : Aside (IsFd f g k k) := ⟨by omega, A.out, fun h => absurd h (by omega)⟩
      have R : Aside (edB n k f g k = eqB (n - (k + 1)) (k - k) (fun i => f (k + 1 + i)) (fun i => g (k + i))) := edB_gt hnm
      have hlf : decide ((k : Int) < (k : Int)) = false := decide_eq_false (by omega)
      by_cases hck : c = k + 1
      · subst hck
        obtain rfl : n = k + 1 := by omega
        clear c1 h1 h2
        go_wp2_with fail
        go_quiet (fail)
        go_wp2
        go_quiet ((go_at_call 40; refine (eq40 _ _ _ _ _ _ (fun i => f (k + 1 + i)) (fun i => g (k + i)) _ (Sl.empty (by omega)) (Sl.empty (by omega)) (by omega) (by omega)).mono ?_; rintro e w'' ⟨rfl, qq, rfl⟩; exact ⟨rfl, _, drew3 _ _ _ _⟩))
        go_wp2
        all_goals
          go_ret
          refine ⟨k, F, ret_bool (by rw [R.out]; simp), ?_⟩
          first | exact ex1 _ _ | exact ex2 _ _ _ | exact ex3 _ _ _ _
      · have S1 : Hid (∀ q', Sl (w.drewN q') (some ⟨b1, o1 + (k + 1), none⟩) (n - (k + 1)) (fun i => f (k + 1 + i))) := h1.tail (k + 1)
        clear c1 h1 h2
        go_wp2_with fail
        go_quiet (fail)
        go_wp2
        go_quiet ((go_at_call 40; refine (eq40 _ _ _ _ _ _ _ (fun i => g (k + i)) _ (S1.out _) (Sl.empty (by omega)) (by omega) (by omega)).mono ?_; rintro e w'' ⟨rfl, qq, rfl⟩; exact ⟨rfl, _, drew3 _ _ _ _⟩))
        go_wp2
        all_goals
          go_ret
          refine ⟨k, F, ret_bool (by rw [R.out]; simp), ?_⟩
          first | exact ex1 _ _ | exact ex2 _ _ _ | exact ex3 _ _ _ _

/-- slices.Equal with the answer named ahead. -/
theorem eq40r (a1 a2 : Option Addr) (n c m d : Nat) (f g : Nat → Int) (r : Bool) (w : World) (h1 : Sl w a1 n f) (h2 : Sl w a2 m g) (hr : eqB n m f g = r) (hn : n ≤ 140737488351232) (hm : m ≤ 140737488351232) :
    Calls Trym.prog 40 #[.slice a1 n c, .slice a2 m d] w fun e w' => e = .returned (.bool r) ∧ ∃ q, w' = w.drewN q := by
  subst hr; exact eq40 a1 a2 n c m d f g w h1 h2 hn hm

theorem edB_one {n : Nat} {f g : Nat → Int} {p : Nat} (h : eqB (n - (p + 1)) (n - (p + 1)) (fun i => f (p + 1 + i)) (fun i => g (p + 1 + i)) = true) : edB n n f g p = true := by
  rw [edB_eq, h]; rfl
theorem edB_no1 {n : Nat} {f g : Nat → Int} {p : Nat} (h : eqB (n - (p + 1)) (n - (p + 1)) (fun i => f (p + 1 + i)) (fun i => g (p + 1 + i)) = false) (h1 : ¬ f p = g (p + 1)) : edB n n f g p = false := by
  rw [edB_eq, h]; simp [h1]
theorem edB_no2 {n : Nat} {f g : Nat → Int} {p : Nat} (h : eqB (n - (p + 1)) (n - (p + 1)) (fun i => f (p + 1 + i)) (fun i => g (p + 1 + i)) = false) (h1 : ¬ f (p + 1) = g p) : edB n n f g p = false := by
  rw [edB_eq, h]; simp [h1]
theorem edB_two {n : Nat} {f g : Nat → Int} {p : Nat} (h : eqB (n - (p + 1)) (n - (p + 1)) (fun i => f (p + 1 + i)) (fun i => g (p + 1 + i)) = false) (h1 : f p = g (p + 1)) (h2 : f (p + 1) = g p) :
    edB n n f g p = eqB (n - (p + 2)) (n - (p + 2)) (fun i => f (p + 2 + i)) (fun i => g (p + 2 + i)) := by
  rw [edB_eq, h]; simp [h1, h2]

set_option maxHeartbeats 4000000 in
theorem one33_eq (a1 a2 : Option Addr) (n c d : Nat) (f g : Nat → Int) (w : World) (h1 : Sl w a1 n f) (h2 : Sl w a2 n g) (hc : n ≤ c) (hd : n ≤ d) (hcl : c ≤ 140737488351232) (_hdl : d ≤ 140737488351232) (hdf : ¬ ∀ j, j < n → f j = g j) :
    Calls Trym.prog 33 #[.slice a1 n c, .slice a2 n d] w fun e w' => ∃ p, IsFd f g n p ∧ e = .returned (.bool (edB n n f g p)) ∧ ∃ q, w' = w.drewN q := by
  have HDF : Hid (¬ ∀ j, j < n → f j = g j) := hdf
  clear hdf
  go_enter Trym.func33, Trym.ntmps33
  go_wp2
  go_loopg [5] n (fun gh s wr => ∃ k q : Nat, k ≤ n ∧ n - k ≤ gh ∧ s = .int .i64 k ∧ wr = w.drewN q ∧ Aside (∀ j, j < k → f j = g j))
  case atStart => exact ⟨0, 0, Nat.zero_le _, by omega, rfl, rfl, fun j hj => absurd hj (Nat.not_lt_zero _)⟩
  case round =>
    obtain ⟨k, q, hk, hg, rfl, rfl, A⟩ := hrel
    by_cases hlt : k < n
    · obtain ⟨b1, o1, rfl, c1⟩ := h1.at (by omega)
      obtain ⟨b2, o2, rfl, c2⟩ := h2.at (by omega)
      have g1 := c1 k (by omega)
      have g2 := c2 k hlt
      by_cases hxy : f k = g k
      · have A' : Aside (∀ j, j < k + 1 → f j = g j) := fun j hj => by
          by_cases e : j = k
          · rw [e]; exact hxy
          · exact A.out j (by omega)
        clear c1 c2 h1 h2
        generalize f k = x at g1 hxy
        generalize g k = y at g2 hxy
        subst hxy
        go_wp2_with fail
        go_quiet (fail)
        go_wp2
        go_roundg (n - (k + 1))
        case measure => omega
        case rel => exact ⟨k + 1, _, by omega, by omega, by go_num, rfl, A'⟩
      · have F : Aside (IsFd f g n k) := ⟨by omega, A.out, fun _ => hxy⟩
        by_cases hn1 : n = k + 1
        · have R : Aside (edB n n f g k = true) := edB_one (eqB_true rfl (fun i hi => by omega))
          have E : Hid (∀ x y, x = 0 → y = 0 → eqB x y (fun i => f (k + 1 + i)) (fun i => g (k + 1 + i)) = true) := fun x y hx hy => eqB_true (by omega) (fun i hi => by omega)
          have hn1' : n ≤ k + 1 := by omega
          clear c1 c2 h1 h2 HDF hn1
          generalize f k = x at g1 hxy
          generalize g k = y at g2 hxy
          go_wp2_with fail
          go_quiet (fail)
          go_wp2
          go_quiet ((go_at_call 40; refine (eq40r _ _ _ _ _ _ _ _ _ _ (Sl.empty (by omega)) (Sl.empty (by omega)) (E.out _ _ (by omega) (by omega)) (by omega) (by omega)).mono ?_; rintro e w'' ⟨rfl, qq, rfl⟩; exact ⟨rfl, _, drew3 _ _ _ _⟩))
          go_wp2
          all_goals
            go_ret
            refine ⟨k, F, ret_bool (by rw [R.out]), ?_⟩
            first | exact ex1 _ _ | exact ex2 _ _ _ | exact ex3 _ _ _ _
        · have hn2 : k + 1 < n := by omega
          have hc1 : ¬ c = k + 1 := by omega
          have hd1 : ¬ d = k + 1 := by omega
          have S1 : Hid (∀ q', Sl (w.drewN q') (some ⟨b1, o1 + (k + 1), none⟩) (n - (k + 1)) (fun i => f (k + 1 + i))) := h1.tail (k + 1)
          have S2 : Hid (∀ q', Sl (w.drewN q') (some ⟨b2, o2 + (k + 1), none⟩) (n - (k + 1)) (fun i => g (k + 1 + i))) := h2.tail (k + 1)
          rcases hr : eqB (n - (k + 1)) (n - (k + 1)) (fun i => f (k + 1 + i)) (fun i => g (k + 1 + i)) with _ | _
          · have E : Hid (eqB (n - (k + 1)) (n - (k + 1)) (fun i => f (k + 1 + i)) (fun i => g (k + 1 + i)) = false) := hr
            clear hr
            have g3 := c1 (k + 1) hn2
            have g4 := c2 (k + 1) hn2
            by_cases t1 : f k = g (k + 1)
            · by_cases t2 : f (k + 1) = g k
              · have R : Aside (edB n n f g k = eqB (n - (k + 2)) (n - (k + 2)) (fun i => f (k + 2 + i)) (fun i => g (k + 2 + i))) := edB_two E.out t1 t2
                have T1 : Hid (∀ q', Sl (w.drewN q') (some ⟨b1, o1 + (k + 2), none⟩) (n - (k + 2)) (fun i => f (k + 2 + i))) := h1.tail (k + 2)
                have T2 : Hid (∀ q', Sl (w.drewN q') (some ⟨b2, o2 + (k + 2), none⟩) (n - (k + 2)) (fun i => g (k + 2 + i))) := h2.tail (k + 2)
                clear c1 c2 h1 h2 HDF
                generalize f k = x at g1 hxy t1
                generalize g k = y at g2 hxy t2
                generalize f (k + 1) = x1 at g3 t2
                generalize g (k + 1) = y1 at g4 t1
                subst t1 t2
                by_cases hn3 : n = k + 2
                · have E2 : Hid (∀ x y, x = 0 → y = 0 → eqB x y (fun i => f (k + 2 + i)) (fun i => g (k + 2 + i)) = true) := fun x y hx hy => eqB_true (by omega) (fun i hi => by omega)
                  have R2 : Aside (edB n n f g k = true) := by rw [R.out]; exact E2.out _ _ (by omega) (by omega)
                  have hn3' : n ≤ k + 2 := by omega
                  clear hn3
                  go_wp2_with fail
                  go_quiet (fail)
                  go_wp2
                  go_quiet ((go_at_call 40; refine (eq40r _ _ _ _ _ _ _ _ _ _ (S1.out _) (S2.out _) E.out (by omega) (by omega)).mono ?_; rintro e w'' ⟨rfl, qq, rfl⟩; exact ⟨rfl, _, drew3 _ _ _ _⟩))
                  go_wp2
                  go_quiet ((go_at_call 40; refine (eq40r _ _ _ _ _ _ _ _ _ _ (Sl.empty (by omega)) (Sl.empty (by omega)) (E2.out _ _ (by omega) (by omega)) (by omega) (by omega)).mono ?_; rintro e w'' ⟨rfl, qq, rfl⟩; exact ⟨rfl, _, drew3 _ _ _ _⟩))
                  go_wp2
                  all_goals
                    go_ret
                    refine ⟨k, F, ret_bool (by rw [R2.out]), ?_⟩
                    first | exact ex1 _ _ | exact ex2 _ _ _ | exact ex3 _ _ _ _
                · have hn4 : k + 2 < n := by omega
                  have hc2 : ¬ c = k + 2 := by omega
                  have hd2 : ¬ d = k + 2 := by omega
                  go_wp2_with fail
                  go_quiet (fail)
                  go_wp2
                  go_quiet ((go_at_call 40; refine (eq40r _ _ _ _ _ _ _ _ _ _ (S1.out _) (S2.out _) E.out (by omega) (by omega)).mono ?_; rintro e w'' ⟨rfl, qq, rfl⟩; exact ⟨rfl, _, drew3 _ _ _ _⟩))
                  go_wp2
                  go_quiet ((go_at_call 40; refine (eq40 _ _ _ _ _ _ _ _ _ (T1.out _) (T2.out _) (by omega) (by omega)).mono ?_; rintro e w'' ⟨rfl, qq, rfl⟩; exact ⟨rfl, _, drew3 _ _ _ _⟩))
                  go_wp2
                  all_goals
                    go_ret
                    refine ⟨k, F, ret_bool (by rw [R.out]), ?_⟩
                    first | exact ex1 _ _ | exact ex2 _ _ _ | exact ex3 _ _ _ _
              · have R : Aside (edB n n f g k = false) := edB_no2 E.out t2
                clear c1 c2 h1 h2 HDF
                generalize f k = x at g1 hxy t1
                generalize g k = y at g2 hxy t2
                generalize f (k + 1) = x1 at g3 t2
                generalize g (k + 1) = y1 at g4 t1
                subst t1
                have t2' : (x1 == y) = false := by simpa using t2
                go_wp2_with fail
                go_quiet (fail)
                go_wp2
                go_quiet ((go_at_call 40; refine (eq40r _ _ _ _ _ _ _ _ _ _ (S1.out _) (S2.out _) E.out (by omega) (by omega)).mono ?_; rintro e w'' ⟨rfl, qq, rfl⟩; exact ⟨rfl, _, drew3 _ _ _ _⟩))
                go_wp2
                go_quiet (fail)
                go_wp2
                all_goals
                  go_ret
                  refine ⟨k, F, ret_bool (by rw [R.out]), ?_⟩
                  first | exact ex1 _ _ | exact ex2 _ _ _ | exact ex3 _ _ _ _
            · have R : Aside (edB n n f g k = false) := edB_no1 E.out t1
              clear c1 c2 h1 h2 HDF
              generalize f k = x at g1 hxy t1
              generalize g k = y at g2 hxy
              generalize f (k + 1) = x1 at g3
              generalize g (k + 1) = y1 at g4 t1
              have t1' : (x == y1) = false := by simpa using t1
              go_wp2_with fail
              go_quiet (fail)
              go_wp2
              go_quiet ((go_at_call 40; refine (eq40r _ _ _ _ _ _ _ _ _ _ (S1.out _) (S2.out _) E.out (by omega) (by omega)).mono ?_; rintro e w'' ⟨rfl, qq, rfl⟩; exact ⟨rfl, _, drew3 _ _ _ _⟩))
              go_wp2
              go_quiet (fail)
              go_wp2
              all_goals
                go_ret
                refine ⟨k, F, ret_bool (by rw [R.out]), ?_⟩
                first | exact ex1 _ _ | exact ex2 _ _ _ | exact ex3 _ _ _ _
          · have R : Aside (edB n n f g k = true) := edB_one hr
            have E : Hid (eqB (n - (k + 1)) (n - (k + 1)) (fun i => f (k + 1 + i)) (fun i => g (k + 1 + i)) = true) := hr
            clear hr c1 c2 h1 h2 HDF
            generalize f k = x at g1 hxy
            generalize g k = y at g2 hxy
            go_wp2_with fail
            go_quiet (fail)
            go_wp2
            go_quiet ((go_at_call 40; refine (eq40r _ _ _ _ _ _ _ _ _ _ (S1.out _) (S2.out _) E.out (by omega) (by omega)).mono ?_; rintro e w'' ⟨rfl, qq, rfl⟩; exact ⟨rfl, _, drew3 _ _ _ _⟩))
            go_wp2
            all_goals
              go_ret
              refine ⟨k, F, ret_bool (by rw [R.out]), ?_⟩
              first | exact ex1 _ _ | exact ex2 _ _ _ | exact ex3 _ _ _ _
    · exact absurd (fun j hj => A.out j (by omega)) HDF.out

/-- What 'oneEditApart' answers for two slices that differ, whichever is the longer. -/
def Ap (n m : Nat) (f g : Nat → Int) (r : Bool) : Prop :=
  (m < n ∧ ∃ p, IsFd f g m p ∧ r = edB n m f g p) ∨ (n < m ∧ ∃ p, IsFd g f n p ∧ r = edB m n g f p) ∨ (n = m ∧ ∃ p, IsFd f g n p ∧ r = edB n n f g p)

theorem one33 (a1 a2 : Option Addr) (n c m d : Nat) (f g : Nat → Int) (w : World) (h1 : Sl w a1 n f) (h2 : Sl w a2 m g) (hc : n ≤ c) (hd : m ≤ d) (hcl : c ≤ 140737488351232) (hdl : d ≤ 140737488351232) (hdf : eqB n m f g = false) :
    Calls Trym.prog 33 #[.slice a1 n c, .slice a2 m d] w fun e w' => ∃ r, e = .returned (.bool r) ∧ Ap n m f g r ∧ ∃ q, w' = w.drewN q := by
  rcases Nat.lt_trichotomy n m with h | h | h
  · refine (one33_lt a2 a1 m d n c g f w h2 h1 hd hc hdl hcl h).mono ?_
    rintro e w' ⟨p, hp, rfl, hw⟩
    exact ⟨_, rfl, .inr (.inl ⟨h, p, hp, rfl⟩), hw⟩
  · subst h
    refine (one33_eq a1 a2 n c d f g w h1 h2 hc hd hcl hdl ?_).mono ?_
    · intro k
      rw [eqB_true rfl k] at hdf
      exact absurd hdf (by decide)
    · rintro e w' ⟨p, hp, rfl, hw⟩
      exact ⟨_, rfl, .inr (.inr ⟨rfl, p, hp, rfl⟩), hw⟩
  · refine (one33_gt a1 a2 n c m d f g w h1 h2 hc hd hcl hdl h).mono ?_
    rintro e w' ⟨p, hp, rfl, hw⟩
    exact ⟨_, rfl, .inl ⟨h, p, hp, rfl⟩, hw⟩

set_option maxHeartbeats 400000 in
theorem one23 (a1 a2 : Option Addr) (n c m d : Nat) (f g : Nat → Int) (w : World) (h1 : Sl w a1 n f) (h2 : Sl w a2 m g) (hc : n ≤ c) (hd : m ≤ d) (hcl : c ≤ 140737488351232) (hdl : d ≤ 140737488351232) (hdf : eqB n m f g = false) :
    Calls Trym.prog 23 #[.slice a1 n c, .slice a2 m d] w fun e w' => ∃ r, e = .returned (.bool r) ∧ Ap n m f g r ∧ ∃ q, w' = w.drewN q := by
  have K := one33 a1 a2 n c m d f g w h1 h2 hc hd hcl hdl hdf
  clear h1 h2 hc hd hcl hdl hdf
  go_enter Trym.func23, Trym.ntmps23
  go_wp2_with (go_at_call 33; refine K.mono ?_; rintro e w' ⟨r, rfl, hA, q, rfl⟩)
  go_ret
  exact ⟨r, rfl, hA, q, rfl⟩

end Go.Proofs.Qxb6601083aMods.Edit
