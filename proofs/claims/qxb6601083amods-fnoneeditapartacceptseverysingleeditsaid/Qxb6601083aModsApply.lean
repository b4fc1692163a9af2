/-
  'applyEdit' (28), walked.
-/
import Derived.Test.Qxb6601083aModsApp
import Derived.Test.Qxb6601083aModsOne
namespace Go.Proofs.Qxb6601083aMods.Edit
open Go.RowKit

theorem make_room (n : Nat) (hn : n ≤ 35184372087808) (w : World) :
    (Instr.makeSlice 35 (.int .i64 0) (.int .i64 ((n : Int) + 1))).run Trym.prog w = .ok (.slice (some ⟨w.heap.size, 0, none⟩) 0 (n + 1)) (w.alloc (.cells (madeCells #[.int .i32 0] (n + 1)) 21)) := by
  obtain ⟨i0, hi, hz0, hz1, hz2⟩ := info_parts Trym.info21
  have := run_make (P := Trym.prog) w 35 21 i0 (.int .i32 0) Trym.underlying35 hi hz0 .i64 .i64 0 ((n : Int) + 1) (by omega) (by omega) (by rw [hz2]; omega) (by omega)
  rw [this, hz1]
  have e : ((n : Int) + 1).toNat = n + 1 := by omega
  rw [e]
  simp [Value.cells]

/-- No place for the edit: nil and false. -/
theorem app28_no (ao : Option Addr) (n c : Nat) (k r kd : Int) (w : World) (hn : n ≤ 35184372087808) (h0 : 0 ≤ kd) (h1 : kd ≤ 255) (hk0 : -9223372036854775808 ≤ k) (hk1 : k ≤ 9223372036854775807)
    (hno : k < 0 ∨ (kd % 4 = 0 ∧ (n : Int) < k) ∨ (kd % 4 = 1 ∧ (n : Int) ≤ k) ∨ (kd % 4 = 2 ∧ (n : Int) ≤ k) ∨ (kd % 4 = 3 ∧ (n : Int) - 1 ≤ k)) :
    Calls Trym.prog 28 #[.slice ao n c, .int .i64 k, .int .i32 r, .int .u8 kd] w fun e w' => e = .returned (.tuple #[.slice none 0 0, .bool false]) ∧ w' = w := by
  by_cases hneg : k < 0
  · go_enter Trym.func28, Trym.ntmps28
    go_wp2
    go_ret2
    exact ⟨rfl, rfl⟩
  · rcases hno with h | ⟨e, h⟩ | ⟨e, h⟩ | ⟨e, h⟩ | ⟨e, h⟩
    · omega
    all_goals
      go_enter Trym.func28, Trym.ntmps28
      go_wp2
      go_ret2
      exact ⟨rfl, rfl⟩

theorem Sl.head {w : World} {b o : Nat} {n : Nat} {f : Nat → Int} (h : Sl w (some ⟨b, o, none⟩) n f) (l : Nat) (hl : l ≤ n) : Sl w (some ⟨b, o, none⟩) l f := by
  rcases Nat.eq_zero_or_pos l with e | e
  · exact .inl e
  · obtain ⟨b', o', e', k⟩ := h.at (by omega)
    exact .inr ⟨b', o', e', fun i hi => k i (by omega)⟩

theorem Sl.rest {w : World} {b o : Nat} {n : Nat} {f : Nat → Int} (h : Sl w (some ⟨b, o, none⟩) n f) (l : Nat) : Sl w (some ⟨b, o + l, none⟩) (n - l) (fun i => f (l + i)) := h.tail l 0

theorem Sl.cellAt {w : World} {b o n : Nat} {f : Nat → Int} (h : Sl w (some ⟨b, o, none⟩) n f) (i : Nat) (hi : i < n) : w.cell? ⟨b, o + i, none⟩ = some (.int .i32 (f i)) := by
  obtain ⟨b', o', e, k⟩ := h.at (by omega)
  obtain ⟨rfl, rfl⟩ : b = b' ∧ o = o' := by simpa using e
  exact k i hi

theorem Sl.one {w : World} (r : Int) : Sl (w.alloc (.cells #[.int .i32 r] 21)) (some ⟨w.heap.size, 0, none⟩) 1 (fun _ => r) := by
  refine .inr ⟨_, _, rfl, fun i hi => ?_⟩
  obtain rfl : i = 0 := by omega
  simp

theorem below_own {B : Nat} {w w1 w2 : World} (h : Below B w w1) (g : w1.grownBy w2 (some B)) (hB : B ≤ w.heap.size) : Below B w w2 :=
  h.grown g (Nat.le_trans hB h.size) (fun k hk => by cases hk; exact Nat.le_refl _)

/-- What the edit makes of (n, f) at p: (len, H). -/
def EdS (op : Int) (p n : Nat) (r : Int) (f : Nat → Int) (len : Nat) (H : Nat → Int) : Prop :=
  (op = 0 ∧ p ≤ n ∧ len = n + 1 ∧ (∀ i, i < p → H i = f i) ∧ H p = r ∧ ∀ i, p < i → i ≤ n → H i = f (i - 1)) ∨
  (op = 1 ∧ p < n ∧ len = n - 1 ∧ (∀ i, i < p → H i = f i) ∧ ∀ i, p ≤ i → i < n - 1 → H i = f (i + 1)) ∨
  (op = 2 ∧ p < n ∧ len = n ∧ H p = r ∧ ∀ i, i < n → ¬ i = p → H i = f i) ∨
  (op = 3 ∧ p + 1 < n ∧ len = n ∧ H p = f (p + 1) ∧ H (p + 1) = f p ∧ ∀ i, i < n → ¬ i = p → ¬ i = p + 1 → H i = f i)

theorem ed0 {p n : Nat} {r : Int} {f : Nat → Int} (hp : p ≤ n) : EdS 0 p n r f (p + 1 + (n - p)) (cat (p + 1) (cat p (cat 0 f f) (fun _ => r)) (fun i => f (p + i))) := by
  refine .inl ⟨rfl, hp, by omega, fun i hi => ?_, ?_, fun i h1 h2 => ?_⟩
  · rw [cat_lo (by omega), cat_lo hi, cat_hi (Nat.zero_le _), Nat.sub_zero]
  · rw [cat_lo (by omega), cat_hi (Nat.le_refl _)]
  · rw [cat_hi (by omega)]; show f (p + (i - (p + 1))) = _; rw [show p + (i - (p + 1)) = i - 1 by omega]

theorem ed1 {p n : Nat} {r : Int} {f : Nat → Int} (hp : p < n) : EdS 1 p n r f (p + (n - (p + 1))) (cat p (cat 0 f f) (fun i => f (p + 1 + i))) := by
  refine .inr (.inl ⟨rfl, hp, by omega, fun i hi => ?_, fun i h1 h2 => ?_⟩)
  · rw [cat_lo hi, cat_hi (Nat.zero_le _), Nat.sub_zero]
  · rw [cat_hi h1]; show f (p + 1 + (i - p)) = _; rw [show p + 1 + (i - p) = i + 1 by omega]

theorem ed2 {p n : Nat} {r : Int} {f : Nat → Int} (hp : p < n) : EdS 2 p n r f (p + 1 + (n - (p + 1))) (cat (p + 1) (cat p (cat 0 f f) (fun _ => r)) (fun i => f (p + 1 + i))) := by
  refine .inr (.inr (.inl ⟨rfl, hp, by omega, ?_, fun i hi hne => ?_⟩))
  · rw [cat_lo (by omega), cat_hi (Nat.le_refl _)]
  · rcases Nat.lt_or_ge i p with h | h
    · rw [cat_lo (by omega), cat_lo h, cat_hi (Nat.zero_le _), Nat.sub_zero]
    · rw [cat_hi (by omega)]; show f (p + 1 + (i - (p + 1))) = _; rw [show p + 1 + (i - (p + 1)) = i by omega]

theorem ed3 {p n : Nat} {r : Int} {f : Nat → Int} (hp : p + 1 < n) : EdS 3 p n r f (p + 1 + 1 + (n - (p + 2))) (cat (p + 1 + 1) (cat (p + 1) (cat p (cat 0 f f) (fun _ => f (p + 1))) (fun _ => f p)) (fun i => f (p + 2 + i))) := by
  refine .inr (.inr (.inr ⟨rfl, hp, by omega, ?_, ?_, fun i hi hne hne' => ?_⟩))
  · rw [cat_lo (by omega), cat_lo (by omega), cat_hi (Nat.le_refl _)]
  · rw [cat_lo (by omega), cat_hi (Nat.le_refl _)]
  · rcases Nat.lt_or_ge i p with h | h
    · rw [cat_lo (by omega), cat_lo (by omega), cat_lo h, cat_hi (Nat.zero_le _), Nat.sub_zero]
    · rw [cat_hi (by omega)]; show f (p + 2 + (i - (p + 1 + 1))) = _; rw [show p + 2 + (i - (p + 1 + 1)) = i by omega]

/-- What a call of 'applyEdit' that finds a place for the edit leaves. -/
def Out28 (w : World) (op : Int) (p n : Nat) (r : Int) (f : Nat → Int) (e : Ending) (w' : World) : Prop :=
  ∃ len H, e = .returned (.tuple #[.slice (some ⟨w.heap.size, 0, none⟩) len (n + 1), .bool true]) ∧ Sl w' (some ⟨w.heap.size, 0, none⟩) len H ∧ Below w.heap.size w w' ∧ EdS op p n r f len H

theorem sl_len {w : World} {a : Option Addr} {n n' : Nat} {f : Nat → Int} (h : n = n') (k : Sl w a n' f) : Sl w a n f := by rw [h]; exact k

theorem ed_len {op : Int} {p n : Nat} {r : Int} {f : Nat → Int} {len len' : Nat} {H : Nat → Int} (h : len = len') (k : EdS op p n r f len' H) : EdS op p n r f len H := by rw [h]; exact k

set_option maxHeartbeats 1600000 in
theorem app28_0 (b o n c p : Nat) (r kd : Int) (f : Nat → Int) (w : World) (S : Sl w (some ⟨b, o, none⟩) n f) (hn : n ≤ c) (hc : c ≤ 35184372087808) (h0 : 0 ≤ kd) (h1 : kd ≤ 255) (hop : kd % 4 = 0) (hp : p < n) :
    Calls Trym.prog 28 #[.slice (some ⟨b, o, none⟩) n c, .int .i64 p, .int .i32 r, .int .u8 kd] w fun e w' => Out28 w 0 p n r f e w' := by
  have hmk := make_room n (by omega)
  have O0 : Hid (Own (w.alloc (.cells (madeCells #[.int .i32 0] (n + 1)) 21)) w.heap.size (n + 1) 0 f) := own_made w (n + 1) f
  have B0 : Hid (Below w.heap.size w (w.alloc (.cells (madeCells #[.int .i32 0] (n + 1)) 21))) := (Below.refl _ _).alloc (Nat.le_refl _) _
  have S0 : Hid (Sl w (some ⟨b, o, none⟩) n f) := S
  clear S
  go_enter Trym.func28, Trym.ntmps28
  go_wp2_with (first
    | (at_builtin; refine app_fun _ rfl (.tmp 48) (.tmp 51) rfl w.heap.size (n + 1) 0 (f) rfl O0.out _ p _ (f) rfl ((S0.out.below B0.out).head p (by omega)) (by intro h; first | cases h | (split at h <;> cases h)) (by omega) (by unfold maxLen; omega) ?_; intro w1 O1 G1; rw [Nat.zero_add] at O1; have P1 : Hid (Own w1 w.heap.size (n + 1) (p) (cat 0 f f)) := O1; have B1 : Hid (Below w.heap.size w w1) := below_own B0.out G1 (Nat.le_refl _); clear O1 G1)
    | (at_builtin; refine app_fun _ rfl (.tmp 55) (.tmp 57) rfl w.heap.size (n + 1) p (cat 0 f f) rfl (P1.out.alloc _) _ 1 1 (fun _ => r) rfl (Sl.one r) (by intro h; first | cases h | (split at h <;> cases h)) (by omega) (by unfold maxLen; omega) ?_; intro w2 O2 G2; have P2 : Hid (Own w2 w.heap.size (n + 1) (p + 1) (cat p (cat 0 f f) (fun _ => r))) := O2; have B2 : Hid (Below w.heap.size w w2) := below_own (B1.out.alloc B1.out.size _) G2 (Nat.le_refl _); clear O2 G2)
    | (at_builtin; refine app_fun _ rfl (.tmp 59) (.tmp 62) rfl w.heap.size (n + 1) (p + 1) (cat p (cat 0 f f) (fun _ => r)) rfl P2.out _ (n - p) _ (fun i => f (p + i)) rfl ((S0.out.below B2.out).rest p) (by intro h; first | cases h | (split at h <;> cases h)) (by omega) (by unfold maxLen; omega) ?_; intro w3 O3 G3; have P3 : Hid (Own w3 w.heap.size (n + 1) (p + 1 + (n - p)) (cat (p + 1) (cat p (cat 0 f f) (fun _ => r)) (fun i => f (p + i)))) := O3; have B3 : Hid (Below w.heap.size w w3) := below_own B2.out G3 (Nat.le_refl _); clear O3 G3))
  all_goals
    go_ret2
    exact ⟨_, _, rfl, P3.out.slk, B3.out, ed0 (by omega)⟩

set_option maxHeartbeats 1600000 in
theorem app28_0n (b o n c p : Nat) (r kd : Int) (f : Nat → Int) (w : World) (S : Sl w (some ⟨b, o, none⟩) n f) (hn : n ≤ c) (hc : c ≤ 35184372087808) (h0 : 0 ≤ kd) (h1 : kd ≤ 255) (hop : kd % 4 = 0) (hp : p ≤ n) (hp' : n ≤ p) :
    Calls Trym.prog 28 #[.slice (some ⟨b, o, none⟩) n c, .int .i64 p, .int .i32 r, .int .u8 kd] w fun e w' => Out28 w 0 p n r f e w' := by
  have hmk := make_room n (by omega)
  have O0 : Hid (Own (w.alloc (.cells (madeCells #[.int .i32 0] (n + 1)) 21)) w.heap.size (n + 1) 0 f) := own_made w (n + 1) f
  have B0 : Hid (Below w.heap.size w (w.alloc (.cells (madeCells #[.int .i32 0] (n + 1)) 21))) := (Below.refl _ _).alloc (Nat.le_refl _) _
  have S0 : Hid (Sl w (some ⟨b, o, none⟩) n f) := S
  clear S
  go_enter Trym.func28, Trym.ntmps28
  go_wp2_with (first
    | (at_builtin; refine app_fun _ rfl (.tmp 48) (.tmp 51) rfl w.heap.size (n + 1) 0 (f) rfl O0.out _ p _ (f) rfl ((S0.out.below B0.out).head p (by omega)) (by intro h; first | cases h | (split at h <;> cases h)) (by omega) (by unfold maxLen; omega) ?_; intro w1 O1 G1; rw [Nat.zero_add] at O1; have P1 : Hid (Own w1 w.heap.size (n + 1) (p) (cat 0 f f)) := O1; have B1 : Hid (Below w.heap.size w w1) := below_own B0.out G1 (Nat.le_refl _); clear O1 G1)
    | (at_builtin; refine app_fun _ rfl (.tmp 55) (.tmp 57) rfl w.heap.size (n + 1) p (cat 0 f f) rfl (P1.out.alloc _) _ 1 1 (fun _ => r) rfl (Sl.one r) (by intro h; first | cases h | (split at h <;> cases h)) (by omega) (by unfold maxLen; omega) ?_; intro w2 O2 G2; have P2 : Hid (Own w2 w.heap.size (n + 1) (p + 1) (cat p (cat 0 f f) (fun _ => r))) := O2; have B2 : Hid (Below w.heap.size w w2) := below_own (B1.out.alloc B1.out.size _) G2 (Nat.le_refl _); clear O2 G2)
    | (at_builtin; refine app_fun _ rfl (.tmp 59) (.tmp 62) rfl w.heap.size (n + 1) (p + 1) (cat p (cat 0 f f) (fun _ => r)) rfl P2.out _ 0 _ (fun i => f (p + i)) rfl (Sl.empty rfl) (by intro h; first | cases h | (split at h <;> cases h)) (by omega) (by unfold maxLen; omega) ?_; intro w3 O3 G3; rw [Nat.add_zero] at O3; have P3 : Hid (Own w3 w.heap.size (n + 1) (p + 1) (cat (p + 1) (cat p (cat 0 f f) (fun _ => r)) (fun i => f (p + i)))) := O3; have B3 : Hid (Below w.heap.size w w3) := below_own B2.out G3 (Nat.le_refl _); clear O3 G3))
  all_goals
    go_ret2
    exact ⟨_, _, rfl, P3.out.slk, B3.out, ed_len (by omega) (ed0 (by omega))⟩

set_option maxHeartbeats 1600000 in
theorem app28_1 (b o n c p : Nat) (r kd : Int) (f : Nat → Int) (w : World) (S : Sl w (some ⟨b, o, none⟩) n f) (hn : n ≤ c) (hc : c ≤ 35184372087808) (h0 : 0 ≤ kd) (h1 : kd ≤ 255) (hop : kd % 4 = 1) (hp : p + 1 < n) :
    Calls Trym.prog 28 #[.slice (some ⟨b, o, none⟩) n c, .int .i64 p, .int .i32 r, .int .u8 kd] w fun e w' => Out28 w 1 p n r f e w' := by
  have hmk := make_room n (by omega)
  have O0 : Hid (Own (w.alloc (.cells (madeCells #[.int .i32 0] (n + 1)) 21)) w.heap.size (n + 1) 0 f) := own_made w (n + 1) f
  have B0 : Hid (Below w.heap.size w (w.alloc (.cells (madeCells #[.int .i32 0] (n + 1)) 21))) := (Below.refl _ _).alloc (Nat.le_refl _) _
  have S0 : Hid (Sl w (some ⟨b, o, none⟩) n f) := S
  have hcp : ¬ c = p + 1 := by omega
  clear S
  go_enter Trym.func28, Trym.ntmps28
  go_wp2_with (first
    | (at_builtin; refine app_fun _ rfl (.tmp 48) (.tmp 51) rfl w.heap.size (n + 1) 0 (f) rfl O0.out _ p _ (f) rfl ((S0.out.below B0.out).head p (by omega)) (by intro h; first | cases h | (split at h <;> cases h)) (by omega) (by unfold maxLen; omega) ?_; intro w1 O1 G1; rw [Nat.zero_add] at O1; have P1 : Hid (Own w1 w.heap.size (n + 1) (p) (cat 0 f f)) := O1; have B1 : Hid (Below w.heap.size w w1) := below_own B0.out G1 (Nat.le_refl _); clear O1 G1)
    | (at_builtin; refine app_fun _ rfl (.tmp 66) (.tmp 70) rfl w.heap.size (n + 1) p (cat 0 f f) rfl P1.out _ (n - (p + 1)) _ (fun i => f (p + 1 + i)) rfl ((S0.out.below B1.out).rest (p + 1)) (by intro h; first | cases h | (split at h <;> cases h)) (by omega) (by unfold maxLen; omega) ?_; intro w2 O2 G2; have P2 : Hid (Own w2 w.heap.size (n + 1) (p + (n - (p + 1))) (cat p (cat 0 f f) (fun i => f (p + 1 + i)))) := O2; have B2 : Hid (Below w.heap.size w w2) := below_own B1.out G2 (Nat.le_refl _); clear O2 G2))
  all_goals
    go_ret2
    exact ⟨_, _, rfl, P2.out.slk, B2.out, ed1 (by omega)⟩

set_option maxHeartbeats 1600000 in
theorem app28_1n (b o n c p : Nat) (r kd : Int) (f : Nat → Int) (w : World) (S : Sl w (some ⟨b, o, none⟩) n f) (hn : n ≤ c) (hc : c ≤ 35184372087808) (h0 : 0 ≤ kd) (h1 : kd ≤ 255) (hop : kd % 4 = 1) (hp : p < n) (hp' : n ≤ p + 1) :
    Calls Trym.prog 28 #[.slice (some ⟨b, o, none⟩) n c, .int .i64 p, .int .i32 r, .int .u8 kd] w fun e w' => Out28 w 1 p n r f e w' := by
  have hmk := make_room n (by omega)
  have O0 : Hid (Own (w.alloc (.cells (madeCells #[.int .i32 0] (n + 1)) 21)) w.heap.size (n + 1) 0 f) := own_made w (n + 1) f
  have B0 : Hid (Below w.heap.size w (w.alloc (.cells (madeCells #[.int .i32 0] (n + 1)) 21))) := (Below.refl _ _).alloc (Nat.le_refl _) _
  have S0 : Hid (Sl w (some ⟨b, o, none⟩) n f) := S
  clear S
  go_enter Trym.func28, Trym.ntmps28
  go_wp2_with (first
    | (at_builtin; refine app_fun _ rfl (.tmp 48) (.tmp 51) rfl w.heap.size (n + 1) 0 (f) rfl O0.out _ p _ (f) rfl ((S0.out.below B0.out).head p (by omega)) (by intro h; first | cases h | (split at h <;> cases h)) (by omega) (by unfold maxLen; omega) ?_; intro w1 O1 G1; rw [Nat.zero_add] at O1; have P1 : Hid (Own w1 w.heap.size (n + 1) (p) (cat 0 f f)) := O1; have B1 : Hid (Below w.heap.size w w1) := below_own B0.out G1 (Nat.le_refl _); clear O1 G1)
    | (at_builtin; refine app_fun _ rfl (.tmp 66) (.tmp 70) rfl w.heap.size (n + 1) p (cat 0 f f) rfl P1.out _ 0 _ (fun i => f (p + 1 + i)) rfl (Sl.empty rfl) (by intro h; first | cases h | (split at h <;> cases h)) (by omega) (by unfold maxLen; omega) ?_; intro w2 O2 G2; rw [Nat.add_zero] at O2; have P2 : Hid (Own w2 w.heap.size (n + 1) (p) (cat p (cat 0 f f) (fun i => f (p + 1 + i)))) := O2; have B2 : Hid (Below w.heap.size w w2) := below_own B1.out G2 (Nat.le_refl _); clear O2 G2))
  all_goals
    go_ret2
    exact ⟨_, _, rfl, P2.out.slk, B2.out, ed_len (by omega) (ed1 (by omega))⟩

set_option maxHeartbeats 1600000 in
theorem app28_2 (b o n c p : Nat) (r kd : Int) (f : Nat → Int) (w : World) (S : Sl w (some ⟨b, o, none⟩) n f) (hn : n ≤ c) (hc : c ≤ 35184372087808) (h0 : 0 ≤ kd) (h1 : kd ≤ 255) (hop : kd % 4 = 2) (hp : p + 1 < n) :
    Calls Trym.prog 28 #[.slice (some ⟨b, o, none⟩) n c, .int .i64 p, .int .i32 r, .int .u8 kd] w fun e w' => Out28 w 2 p n r f e w' := by
  have hmk := make_room n (by omega)
  have O0 : Hid (Own (w.alloc (.cells (madeCells #[.int .i32 0] (n + 1)) 21)) w.heap.size (n + 1) 0 f) := own_made w (n + 1) f
  have B0 : Hid (Below w.heap.size w (w.alloc (.cells (madeCells #[.int .i32 0] (n + 1)) 21))) := (Below.refl _ _).alloc (Nat.le_refl _) _
  have S0 : Hid (Sl w (some ⟨b, o, none⟩) n f) := S
  have hcp : ¬ c = p + 1 := by omega
  clear S
  go_enter Trym.func28, Trym.ntmps28
  go_wp2_with (first
    | (at_builtin; refine app_fun _ rfl (.tmp 48) (.tmp 51) rfl w.heap.size (n + 1) 0 (f) rfl O0.out _ p _ (f) rfl ((S0.out.below B0.out).head p (by omega)) (by intro h; first | cases h | (split at h <;> cases h)) (by omega) (by unfold maxLen; omega) ?_; intro w1 O1 G1; rw [Nat.zero_add] at O1; have P1 : Hid (Own w1 w.heap.size (n + 1) (p) (cat 0 f f)) := O1; have B1 : Hid (Below w.heap.size w w1) := below_own B0.out G1 (Nat.le_refl _); clear O1 G1)
    | (at_builtin; refine app_fun _ rfl (.tmp 74) (.tmp 76) rfl w.heap.size (n + 1) p (cat 0 f f) rfl (P1.out.alloc _) _ 1 1 (fun _ => r) rfl (Sl.one r) (by intro h; first | cases h | (split at h <;> cases h)) (by omega) (by unfold maxLen; omega) ?_; intro w2 O2 G2; have P2 : Hid (Own w2 w.heap.size (n + 1) (p + 1) (cat p (cat 0 f f) (fun _ => r))) := O2; have B2 : Hid (Below w.heap.size w w2) := below_own (B1.out.alloc B1.out.size _) G2 (Nat.le_refl _); clear O2 G2)
    | (at_builtin; refine app_fun _ rfl (.tmp 78) (.tmp 82) rfl w.heap.size (n + 1) (p + 1) (cat p (cat 0 f f) (fun _ => r)) rfl P2.out _ (n - (p + 1)) _ (fun i => f (p + 1 + i)) rfl ((S0.out.below B2.out).rest (p + 1)) (by intro h; first | cases h | (split at h <;> cases h)) (by omega) (by unfold maxLen; omega) ?_; intro w3 O3 G3; have P3 : Hid (Own w3 w.heap.size (n + 1) (p + 1 + (n - (p + 1))) (cat (p + 1) (cat p (cat 0 f f) (fun _ => r)) (fun i => f (p + 1 + i)))) := O3; have B3 : Hid (Below w.heap.size w w3) := below_own B2.out G3 (Nat.le_refl _); clear O3 G3))
  all_goals
    go_ret2
    exact ⟨_, _, rfl, P3.out.slk, B3.out, ed2 (by omega)⟩

set_option maxHeartbeats 1600000 in
theorem app28_2n (b o n c p : Nat) (r kd : Int) (f : Nat → Int) (w : World) (S : Sl w (some ⟨b, o, none⟩) n f) (hn : n ≤ c) (hc : c ≤ 35184372087808) (h0 : 0 ≤ kd) (h1 : kd ≤ 255) (hop : kd % 4 = 2) (hp : p < n) (hp' : n ≤ p + 1) :
    Calls Trym.prog 28 #[.slice (some ⟨b, o, none⟩) n c, .int .i64 p, .int .i32 r, .int .u8 kd] w fun e w' => Out28 w 2 p n r f e w' := by
  have hmk := make_room n (by omega)
  have O0 : Hid (Own (w.alloc (.cells (madeCells #[.int .i32 0] (n + 1)) 21)) w.heap.size (n + 1) 0 f) := own_made w (n + 1) f
  have B0 : Hid (Below w.heap.size w (w.alloc (.cells (madeCells #[.int .i32 0] (n + 1)) 21))) := (Below.refl _ _).alloc (Nat.le_refl _) _
  have S0 : Hid (Sl w (some ⟨b, o, none⟩) n f) := S
  clear S
  go_enter Trym.func28, Trym.ntmps28
  go_wp2_with (first
    | (at_builtin; refine app_fun _ rfl (.tmp 48) (.tmp 51) rfl w.heap.size (n + 1) 0 (f) rfl O0.out _ p _ (f) rfl ((S0.out.below B0.out).head p (by omega)) (by intro h; first | cases h | (split at h <;> cases h)) (by omega) (by unfold maxLen; omega) ?_; intro w1 O1 G1; rw [Nat.zero_add] at O1; have P1 : Hid (Own w1 w.heap.size (n + 1) (p) (cat 0 f f)) := O1; have B1 : Hid (Below w.heap.size w w1) := below_own B0.out G1 (Nat.le_refl _); clear O1 G1)
    | (at_builtin; refine app_fun _ rfl (.tmp 74) (.tmp 76) rfl w.heap.size (n + 1) p (cat 0 f f) rfl (P1.out.alloc _) _ 1 1 (fun _ => r) rfl (Sl.one r) (by intro h; first | cases h | (split at h <;> cases h)) (by omega) (by unfold maxLen; omega) ?_; intro w2 O2 G2; have P2 : Hid (Own w2 w.heap.size (n + 1) (p + 1) (cat p (cat 0 f f) (fun _ => r))) := O2; have B2 : Hid (Below w.heap.size w w2) := below_own (B1.out.alloc B1.out.size _) G2 (Nat.le_refl _); clear O2 G2)
    | (at_builtin; refine app_fun _ rfl (.tmp 78) (.tmp 82) rfl w.heap.size (n + 1) (p + 1) (cat p (cat 0 f f) (fun _ => r)) rfl P2.out _ 0 _ (fun i => f (p + 1 + i)) rfl (Sl.empty rfl) (by intro h; first | cases h | (split at h <;> cases h)) (by omega) (by unfold maxLen; omega) ?_; intro w3 O3 G3; rw [Nat.add_zero] at O3; have P3 : Hid (Own w3 w.heap.size (n + 1) (p + 1) (cat (p + 1) (cat p (cat 0 f f) (fun _ => r)) (fun i => f (p + 1 + i)))) := O3; have B3 : Hid (Below w.heap.size w w3) := below_own B2.out G3 (Nat.le_refl _); clear O3 G3))
  all_goals
    go_ret2
    exact ⟨_, _, rfl, P3.out.slk, B3.out, ed_len (by omega) (ed2 (by omega))⟩

set_option maxHeartbeats 1600000 in
theorem app28_3 (b o n c p : Nat) (r kd : Int) (f : Nat → Int) (w : World) (S : Sl w (some ⟨b, o, none⟩) n f) (hn : n ≤ c) (hc : c ≤ 35184372087808) (h0 : 0 ≤ kd) (h1 : kd ≤ 255) (hop : kd % 4 = 3) (hp : p + 2 < n) :
    Calls Trym.prog 28 #[.slice (some ⟨b, o, none⟩) n c, .int .i64 p, .int .i32 r, .int .u8 kd] w fun e w' => Out28 w 3 p n r f e w' := by
  have hmk := make_room n (by omega)
  have O0 : Hid (Own (w.alloc (.cells (madeCells #[.int .i32 0] (n + 1)) 21)) w.heap.size (n + 1) 0 f) := own_made w (n + 1) f
  have B0 : Hid (Below w.heap.size w (w.alloc (.cells (madeCells #[.int .i32 0] (n + 1)) 21))) := (Below.refl _ _).alloc (Nat.le_refl _) _
  have S0 : Hid (Sl w (some ⟨b, o, none⟩) n f) := S
  have hcp : ¬ c = p + 2 := by omega
  have hp1 : p + 1 < n := by omega
  have hp0 : p < n := by omega
  clear S
  go_enter Trym.func28, Trym.ntmps28
  go_wp2_with (first
    | (at_builtin; refine app_fun _ rfl (.tmp 48) (.tmp 51) rfl w.heap.size (n + 1) 0 (f) rfl O0.out _ p _ (f) rfl ((S0.out.below B0.out).head p (by omega)) (by intro h; first | cases h | (split at h <;> cases h)) (by omega) (by unfold maxLen; omega) ?_; intro w1 O1 G1; rw [Nat.zero_add] at O1; have P1 : Hid (Own w1 w.heap.size (n + 1) (p) (cat 0 f f)) := O1; have B1 : Hid (Below w.heap.size w w1) := below_own B0.out G1 (Nat.le_refl _); clear O1 G1; have q1 : w1.cell? ⟨b, o + (p + 1), none⟩ = some (.int .i32 (f (p + 1))) := (S0.out.below B1.out).cellAt (p + 1) (by omega))
    | (at_builtin; refine app_fun _ rfl (.tmp 86) (.tmp 92) rfl w.heap.size (n + 1) p (cat 0 f f) rfl (P1.out.alloc _) _ 1 1 (fun _ => f (p + 1)) rfl (Sl.one _) (by intro h; first | cases h | (split at h <;> cases h)) (by omega) (by unfold maxLen; omega) ?_; intro w2 O2 G2; have P2 : Hid (Own w2 w.heap.size (n + 1) (p + 1) (cat p (cat 0 f f) (fun _ => f (p + 1)))) := O2; have B2 : Hid (Below w.heap.size w w2) := below_own (B1.out.alloc B1.out.size _) G2 (Nat.le_refl _); clear O2 G2; have q2 : w2.cell? ⟨b, o + p, none⟩ = some (.int .i32 (f p)) := (S0.out.below B2.out).cellAt p (by omega))
    | (at_builtin; refine app_fun _ rfl (.tmp 94) (.tmp 99) rfl w.heap.size (n + 1) (p + 1) (cat p (cat 0 f f) (fun _ => f (p + 1))) rfl (P2.out.alloc _) _ 1 1 (fun _ => f p) rfl (Sl.one _) (by intro h; first | cases h | (split at h <;> cases h)) (by omega) (by unfold maxLen; omega) ?_; intro w3 O3 G3; have P3 : Hid (Own w3 w.heap.size (n + 1) (p + 1 + 1) (cat (p + 1) (cat p (cat 0 f f) (fun _ => f (p + 1))) (fun _ => f p))) := O3; have B3 : Hid (Below w.heap.size w w3) := below_own (B2.out.alloc B2.out.size _) G3 (Nat.le_refl _); clear O3 G3)
    | (at_builtin; refine app_fun _ rfl (.tmp 101) (.tmp 105) rfl w.heap.size (n + 1) (p + 1 + 1) (cat (p + 1) (cat p (cat 0 f f) (fun _ => f (p + 1))) (fun _ => f p)) rfl P3.out _ (n - (p + 2)) _ (fun i => f (p + 2 + i)) rfl ((S0.out.below B3.out).rest (p + 2)) (by intro h; first | cases h | (split at h <;> cases h)) (by omega) (by unfold maxLen; omega) ?_; intro w4 O4 G4; have P4 : Hid (Own w4 w.heap.size (n + 1) (p + 1 + 1 + (n - (p + 2))) (cat (p + 1 + 1) (cat (p + 1) (cat p (cat 0 f f) (fun _ => f (p + 1))) (fun _ => f p)) (fun i => f (p + 2 + i)))) := O4; have B4 : Hid (Below w.heap.size w w4) := below_own B3.out G4 (Nat.le_refl _); clear O4 G4))
  all_goals
    go_ret2
    exact ⟨_, _, rfl, P4.out.slk, B4.out, ed3 (by omega)⟩

set_option maxHeartbeats 1600000 in
theorem app28_3n (b o n c p : Nat) (r kd : Int) (f : Nat → Int) (w : World) (S : Sl w (some ⟨b, o, none⟩) n f) (hn : n ≤ c) (hc : c ≤ 35184372087808) (h0 : 0 ≤ kd) (h1 : kd ≤ 255) (hop : kd % 4 = 3) (hp : p + 1 < n) (hp' : n ≤ p + 2) :
    Calls Trym.prog 28 #[.slice (some ⟨b, o, none⟩) n c, .int .i64 p, .int .i32 r, .int .u8 kd] w fun e w' => Out28 w 3 p n r f e w' := by
  have hmk := make_room n (by omega)
  have O0 : Hid (Own (w.alloc (.cells (madeCells #[.int .i32 0] (n + 1)) 21)) w.heap.size (n + 1) 0 f) := own_made w (n + 1) f
  have B0 : Hid (Below w.heap.size w (w.alloc (.cells (madeCells #[.int .i32 0] (n + 1)) 21))) := (Below.refl _ _).alloc (Nat.le_refl _) _
  have S0 : Hid (Sl w (some ⟨b, o, none⟩) n f) := S
  have hp0 : p < n := by omega
  clear S
  go_enter Trym.func28, Trym.ntmps28
  go_wp2_with (first
    | (at_builtin; refine app_fun _ rfl (.tmp 48) (.tmp 51) rfl w.heap.size (n + 1) 0 (f) rfl O0.out _ p _ (f) rfl ((S0.out.below B0.out).head p (by omega)) (by intro h; first | cases h | (split at h <;> cases h)) (by omega) (by unfold maxLen; omega) ?_; intro w1 O1 G1; rw [Nat.zero_add] at O1; have P1 : Hid (Own w1 w.heap.size (n + 1) (p) (cat 0 f f)) := O1; have B1 : Hid (Below w.heap.size w w1) := below_own B0.out G1 (Nat.le_refl _); clear O1 G1; have q1 : w1.cell? ⟨b, o + (p + 1), none⟩ = some (.int .i32 (f (p + 1))) := (S0.out.below B1.out).cellAt (p + 1) (by omega))
    | (at_builtin; refine app_fun _ rfl (.tmp 86) (.tmp 92) rfl w.heap.size (n + 1) p (cat 0 f f) rfl (P1.out.alloc _) _ 1 1 (fun _ => f (p + 1)) rfl (Sl.one _) (by intro h; first | cases h | (split at h <;> cases h)) (by omega) (by unfold maxLen; omega) ?_; intro w2 O2 G2; have P2 : Hid (Own w2 w.heap.size (n + 1) (p + 1) (cat p (cat 0 f f) (fun _ => f (p + 1)))) := O2; have B2 : Hid (Below w.heap.size w w2) := below_own (B1.out.alloc B1.out.size _) G2 (Nat.le_refl _); clear O2 G2; have q2 : w2.cell? ⟨b, o + p, none⟩ = some (.int .i32 (f p)) := (S0.out.below B2.out).cellAt p (by omega))
    | (at_builtin; refine app_fun _ rfl (.tmp 94) (.tmp 99) rfl w.heap.size (n + 1) (p + 1) (cat p (cat 0 f f) (fun _ => f (p + 1))) rfl (P2.out.alloc _) _ 1 1 (fun _ => f p) rfl (Sl.one _) (by intro h; first | cases h | (split at h <;> cases h)) (by omega) (by unfold maxLen; omega) ?_; intro w3 O3 G3; have P3 : Hid (Own w3 w.heap.size (n + 1) (p + 1 + 1) (cat (p + 1) (cat p (cat 0 f f) (fun _ => f (p + 1))) (fun _ => f p))) := O3; have B3 : Hid (Below w.heap.size w w3) := below_own (B2.out.alloc B2.out.size _) G3 (Nat.le_refl _); clear O3 G3)
    | (at_builtin; refine app_fun _ rfl (.tmp 101) (.tmp 105) rfl w.heap.size (n + 1) (p + 1 + 1) (cat (p + 1) (cat p (cat 0 f f) (fun _ => f (p + 1))) (fun _ => f p)) rfl P3.out _ (n - (p + 2)) _ (fun i => f (p + 2 + i)) rfl (Sl.empty (by omega)) (by intro h; first | cases h | (split at h <;> cases h)) (by omega) (by unfold maxLen; omega) ?_; intro w4 O4 G4; have P4 : Hid (Own w4 w.heap.size (n + 1) (p + 1 + 1 + (n - (p + 2))) (cat (p + 1 + 1) (cat (p + 1) (cat p (cat 0 f f) (fun _ => f (p + 1))) (fun _ => f p)) (fun i => f (p + 2 + i)))) := O4; have B4 : Hid (Below w.heap.size w w4) := below_own B3.out G4 (Nat.le_refl _); clear O4 G4))
  all_goals
    go_ret2
    exact ⟨_, _, rfl, sl_len (by omega) P4.out.slk, B4.out, ed_len (by omega) (ed3 (by omega))⟩

/-- An empty slice: one number is put in. -/
theorem app28_0z (ao : Option Addr) (c : Nat) (r kd : Int) (f : Nat → Int) (w : World) (hz : ao = none → c = 0) (hc : c ≤ 35184372087808) (h0 : 0 ≤ kd) (h1 : kd ≤ 255) (hop : kd % 4 = 0) :
    Calls Trym.prog 28 #[.slice ao 0 c, .int .i64 0, .int .i32 r, .int .u8 kd] w fun e w' => Out28 w 0 0 0 r f e w' := by
  have hmk : ∀ w, (Instr.makeSlice 35 (.int .i64 0) (.int .i64 1)).run Trym.prog w = .ok (.slice (some ⟨w.heap.size, 0, none⟩) 0 1) (w.alloc (.cells (madeCells #[.int .i32 0] 1) 21)) := make_room 0 (by omega)
  have O0 : Hid (Own (w.alloc (.cells (madeCells #[.int .i32 0] 1) 21)) w.heap.size 1 0 f) := own_made w 1 f
  have B0 : Hid (Below w.heap.size w (w.alloc (.cells (madeCells #[.int .i32 0] 1) 21))) := (Below.refl _ _).alloc (Nat.le_refl _) _
  rcases ao with _ | x
  · obtain rfl := hz rfl
    clear hz
    go_enter Trym.func28, Trym.ntmps28
    go_wp2_with (first
      | (at_builtin; refine app_fun _ rfl (.tmp 48) (.tmp 51) rfl w.heap.size 1 0 f rfl O0.out _ 0 _ f rfl (Sl.empty rfl) (by intro _; exact ⟨rfl, rfl⟩) (by omega) (by unfold maxLen; omega) ?_; intro w1 O1 G1; rw [Nat.zero_add] at O1; have P1 : Hid (Own w1 w.heap.size 1 0 (cat 0 f f)) := O1; have B1 : Hid (Below w.heap.size w w1) := below_own B0.out G1 (Nat.le_refl _); clear O1 G1)
      | (at_builtin; refine app_fun _ rfl (.tmp 55) (.tmp 57) rfl w.heap.size 1 0 (cat 0 f f) rfl (P1.out.alloc _) _ 1 1 (fun _ => r) rfl (Sl.one r) (by intro h; cases h) (by omega) (by unfold maxLen; omega) ?_; intro w2 O2 G2; have P2 : Hid (Own w2 w.heap.size 1 (0 + 1) (cat 0 (cat 0 f f) (fun _ => r))) := O2; have B2 : Hid (Below w.heap.size w w2) := below_own (B1.out.alloc B1.out.size _) G2 (Nat.le_refl _); clear O2 G2)
      | (at_builtin; refine app_fun _ rfl (.tmp 59) (.tmp 62) rfl w.heap.size 1 1 (cat 0 (cat 0 f f) (fun _ => r)) rfl P2.out _ 0 _ (fun i => f (0 + i)) rfl (Sl.empty rfl) (by intro _; exact ⟨rfl, rfl⟩) (by omega) (by unfold maxLen; omega) ?_; intro w3 O3 G3; have P3 : Hid (Own w3 w.heap.size 1 1 (cat 1 (cat 0 (cat 0 f f) (fun _ => r)) (fun i => f (0 + i)))) := O3; have B3 : Hid (Below w.heap.size w w3) := below_own B2.out G3 (Nat.le_refl _); clear O3 G3))
    all_goals
      go_ret2
      exact ⟨_, _, rfl, P3.out.slk, B3.out, ed0 (Nat.le_refl _)⟩
  · clear hz
    go_enter Trym.func28, Trym.ntmps28
    go_wp2_with (first
      | (at_builtin; refine app_fun _ rfl (.tmp 48) (.tmp 51) rfl w.heap.size 1 0 f rfl O0.out _ 0 _ f rfl (Sl.empty rfl) (by intro h; first | cases h | (split at h <;> cases h)) (by omega) (by unfold maxLen; omega) ?_; intro w1 O1 G1; rw [Nat.zero_add] at O1; have P1 : Hid (Own w1 w.heap.size 1 0 (cat 0 f f)) := O1; have B1 : Hid (Below w.heap.size w w1) := below_own B0.out G1 (Nat.le_refl _); clear O1 G1)
      | (at_builtin; refine app_fun _ rfl (.tmp 55) (.tmp 57) rfl w.heap.size 1 0 (cat 0 f f) rfl (P1.out.alloc _) _ 1 1 (fun _ => r) rfl (Sl.one r) (by intro h; cases h) (by omega) (by unfold maxLen; omega) ?_; intro w2 O2 G2; have P2 : Hid (Own w2 w.heap.size 1 (0 + 1) (cat 0 (cat 0 f f) (fun _ => r))) := O2; have B2 : Hid (Below w.heap.size w w2) := below_own (B1.out.alloc B1.out.size _) G2 (Nat.le_refl _); clear O2 G2)
      | (at_builtin; refine app_fun _ rfl (.tmp 59) (.tmp 62) rfl w.heap.size 1 1 (cat 0 (cat 0 f f) (fun _ => r)) rfl P2.out _ 0 _ (fun i => f (0 + i)) rfl (Sl.empty rfl) (by intro h; first | cases h | (split at h <;> cases h)) (by omega) (by unfold maxLen; omega) ?_; intro w3 O3 G3; have P3 : Hid (Own w3 w.heap.size 1 1 (cat 1 (cat 0 (cat 0 f f) (fun _ => r)) (fun i => f (0 + i)))) := O3; have B3 : Hid (Below w.heap.size w w3) := below_own B2.out G3 (Nat.le_refl _); clear O3 G3))
    all_goals
      go_ret2
      exact ⟨_, _, rfl, P3.out.slk, B3.out, ed0 (Nat.le_refl _)⟩

end Go.Proofs.Qxb6601083aMods.Edit
