/-
  THE PLAIN LAW: for two rows of numbers that differ, 'oneEditApart' and the model by common head and common tail answer the same. No Go in sight.
-/
import Derived.Test.Qxb6601083aModsMod
namespace Go.Proofs.Qxb6601083aMods.Edit

theorem sd_iff {n m : Nat} {f g : Nat → Int} {q : Nat} (h : IsSd n m f g q) (t : Nat) (ht : t ≤ m) : (∀ j, j < t → f (n - 1 - j) = g (m - 1 - j)) ↔ t ≤ q := by
  constructor
  · intro k
    rcases Nat.lt_or_ge q t with hq | hq
    · exact absurd (k q hq) (h.2.2 (by omega))
    · exact hq
  · exact fun k j hj => h.2.1 j (by omega)

/-- Equal tails, counted from the front, are equal tails counted from the end. -/
theorem tail_iff {n m : Nat} {f g : Nat → Int} {q : Nat} (h : IsSd n m f g q) (a b : Nat) (hb : b ≤ m) (e : n - a = m - b) (ha : a ≤ n) :
    eqB (n - a) (m - b) (fun i => f (a + i)) (fun i => g (b + i)) = decide (m - b ≤ q) := by
  rw [Bool.eq_iff_iff, eqB_iff, decide_eq_true_iff, ← sd_iff h (m - b) (by omega)]
  constructor
  · rintro ⟨_, k⟩ j hj
    have := k (n - a - 1 - j) (by omega)
    rw [show a + (n - a - 1 - j) = n - 1 - j by omega, show b + (n - a - 1 - j) = m - 1 - j by omega] at this
    exact this
  · intro k
    refine ⟨e, fun i hi => ?_⟩
    have := k (n - a - 1 - i) (by omega)
    rw [show n - 1 - (n - a - 1 - i) = a + i by omega, show m - 1 - (n - a - 1 - i) = b + i by omega] at this
    exact this

theorem fd_uniq {f g : Nat → Int} {m p p' : Nat} (h : IsFd f g m p) (h' : IsFd f g m p') : p = p' := by
  rcases Nat.lt_trichotomy p p' with k | k | k
  · exact absurd (h'.2.1 p k) (h.2.2 (by have := h'.1; omega))
  · exact k
  · exact absurd (h.2.1 p' k) (h'.2.2 (by have := h.1; omega))

theorem far_no {n m : Nat} {f g : Nat → Int} {p : Nat} (hp : IsFd f g m p) (h : m + 1 < n) : edB n m f g p = false := by
  rw [edB_gt (by omega)]
  exact eqB_len (by have := hp.1; omega)

theorem near_same {n m : Nat} {f g : Nat → Int} {p q : Nat} (hp : IsFd f g m p) (hq : IsSd n m f g q) (h : m ≤ n) (h' : n ≤ m + 1) (hdf : eqB n m f g = false) :
    edB n m f g p = mdB n m f g p q := by
  have hp1 := hp.1
  rcases Nat.lt_or_ge m n with k | k
  · rw [edB_gt k, mdB_gt k, tail_iff hq (p + 1) p hp1 (by omega) (by omega)]
    exact decide_eq_decide.2 (by omega)
  · obtain rfl : n = m := by omega
    have hpn : p < n := by
      rcases Nat.lt_or_ge p n with k | k
      · exact k
      · rw [eqB_true rfl (fun i hi => hp.2.1 i (by omega))] at hdf; exact absurd hdf (by decide)
    rw [edB_eq, mdB_le (Nat.le_refl _), tail_iff hq (p + 1) (p + 1) (by omega) rfl (by omega)]
    by_cases h3 : n ≤ p + q + 1
    · rw [decide_eq_true (by omega : n - (p + 1) ≤ q), decide_eq_true h3]; rfl
    · rw [decide_eq_false (by omega : ¬ n - (p + 1) ≤ q), decide_eq_false h3, tail_iff hq (p + 2) (p + 2) (by omega) rfl (by omega)]
      have e : decide (n - (p + 2) ≤ q) = decide (p + q + 2 = n) := decide_eq_decide.2 (by omega)
      rw [e]
      cases decide (p + q + 2 = n) <;> simp

theorem law1 {n m : Nat} {f g : Nat → Int} {r r' : Bool} (hdf : eqB n m f g = false) (h : Ap n m f g r) (h' : Md n m f g r') : r = r' := by
  rcases h with ⟨k, p, hp, rfl⟩ | ⟨k, p, hp, rfl⟩ | ⟨rfl, p, hp, rfl⟩
  · rcases h' with ⟨k', rfl⟩ | ⟨k1, k2, p', q', hp', hq', rfl⟩ | ⟨k1, k2, p', q', hp', hq', rfl⟩
    · exact far_no hp (by omega)
    · obtain rfl := fd_uniq hp hp'
      exact near_same hp hq' k1 k2 hdf
    · omega
  · rcases h' with ⟨k', rfl⟩ | ⟨k1, k2, p', q', hp', hq', rfl⟩ | ⟨k1, k2, p', q', hp', hq', rfl⟩
    · exact far_no hp (by omega)
    · omega
    · obtain rfl := fd_uniq hp hp'
      exact near_same hp hq' (by omega) k2 (by rw [eqB_comm]; exact hdf)
  · rcases h' with ⟨k', rfl⟩ | ⟨k1, k2, p', q', hp', hq', rfl⟩ | ⟨k1, k2, p', q', hp', hq', rfl⟩
    · omega
    · obtain rfl := fd_uniq hp hp'
      exact near_same hp hq' k1 k2 hdf
    · omega

end Go.Proofs.Qxb6601083aMods.Edit
