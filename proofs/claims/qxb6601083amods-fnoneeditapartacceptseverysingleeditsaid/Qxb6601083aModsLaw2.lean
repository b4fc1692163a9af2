/-
  THE PLAIN LAW: (n, f) and what one edit makes of it are one edit apart, read either way, wherever they differ. And 'applyEdit' in one word.
-/
import Derived.Test.Qxb6601083aModsApply
namespace Go.Proofs.Qxb6601083aMods.Edit
open Go.RowKit

/-- One is the other with one number left out at p. -/
theorem drop_yes {n m : Nat} {f g : Nat → Int} {p q : Nat} (hn : n = m + 1) (hp : p ≤ m) (h1 : ∀ i, i < p → f i = g i) (h2 : ∀ i, p ≤ i → i < m → f (i + 1) = g i) (hq : IsFd f g m q) : edB n m f g q = true := by
  have hpq : p ≤ q := by
    rcases Nat.lt_or_ge q p with k | k
    · exact absurd (h1 q k) (hq.2.2 (by omega))
    · exact k
  have := hq.1
  rw [edB_gt (by omega)]
  refine eqB_true (by omega) (fun i hi => ?_)
  show f (q + 1 + i) = g (q + i)
  rw [show q + 1 + i = q + i + 1 by omega]
  exact h2 (q + i) (by omega) (by omega)

theorem fd_lt {n : Nat} {f g : Nat → Int} {q : Nat} (hdf : eqB n n f g = false) (hq : IsFd f g n q) : q < n := by
  rcases Nat.lt_or_ge q n with k | k
  · exact k
  · rw [eqB_true rfl (fun i hi => hq.2.1 i (by omega))] at hdf; exact absurd hdf (by decide)

/-- They part at p alone. -/
theorem turn_yes {n : Nat} {f g : Nat → Int} {p q : Nat} (h : ∀ i, i < n → ¬ i = p → f i = g i) (hdf : eqB n n f g = false) (hq : IsFd f g n q) : edB n n f g q = true := by
  have hqn := fd_lt hdf hq
  have hqp : q = p := by
    by_cases e : q = p
    · exact e
    · exact absurd (h q hqn e) (hq.2.2 hqn)
  refine edB_one (eqB_true rfl (fun i hi => ?_))
  exact h (q + 1 + i) (by omega) (by omega)

/-- They part at p and p + 1 alone, crosswise equal. -/
theorem swap_yes {n : Nat} {f g : Nat → Int} {p q : Nat} (hp : p + 1 < n) (h : ∀ i, i < n → ¬ i = p → ¬ i = p + 1 → f i = g i) (e1 : f p = g (p + 1)) (e2 : f (p + 1) = g p) (hdf : eqB n n f g = false) (hq : IsFd f g n q) : edB n n f g q = true := by
  have hqn := fd_lt hdf hq
  have hqp : q = p := by
    by_cases e : q = p
    · exact e
    · by_cases e' : q = p + 1
      · have k := hq.2.1 p (by omega)
        have k' := hq.2.2 hqn
        rw [e'] at k'
        exact absurd (e2.trans (k.symm.trans e1)) k'
      · exact absurd (h q hqn e e') (hq.2.2 hqn)
  subst hqp
  have tl : eqB (n - (q + 2)) (n - (q + 2)) (fun i => f (q + 2 + i)) (fun i => g (q + 2 + i)) = true := eqB_true rfl (fun i hi => h (q + 2 + i) (by omega) (by omega) (by omega))
  rw [edB_eq, e1, e2, tl]
  simp

theorem law2 {op : Int} {p n : Nat} {r : Int} {f : Nat → Int} {len : Nat} {H : Nat → Int} {b : Bool} (h : EdS op p n r f len H) (hdf : eqB n len f H = false) (hA : Ap n len f H b) : b = true := by
  rcases h with ⟨_, hp, hl, h1, _, h3⟩ | ⟨_, hp, hl, h1, h3⟩ | ⟨_, hp, hl, _, h3⟩ | ⟨_, hp, hl, e1, e2, h3⟩
  · rcases hA with ⟨k, q, hq, rfl⟩ | ⟨k, q, hq, rfl⟩ | ⟨k, q, hq, rfl⟩
    · omega
    · exact drop_yes hl hp h1 (fun i hi hi' => h3 (i + 1) (by omega) (by omega)) hq
    · omega
  · rcases hA with ⟨k, q, hq, rfl⟩ | ⟨k, q, hq, rfl⟩ | ⟨k, q, hq, rfl⟩
    · exact drop_yes (by omega) (by omega) (fun i hi => (h1 i hi).symm) (fun i hi hi' => (h3 i hi (by omega)).symm) hq
    · omega
    · omega
  · subst hl
    rcases hA with ⟨k, q, hq, rfl⟩ | ⟨k, q, hq, rfl⟩ | ⟨k, q, hq, rfl⟩
    · omega
    · omega
    · exact turn_yes (fun i hi hne => (h3 i hi hne).symm) hdf hq
  · subst hl
    rcases hA with ⟨k, q, hq, rfl⟩ | ⟨k, q, hq, rfl⟩ | ⟨k, q, hq, rfl⟩
    · omega
    · omega
    · exact swap_yes hp (fun i hi hne hne' => (h3 i hi hne hne').symm) e2.symm e1.symm hdf hq

theorem law2' {op : Int} {p n : Nat} {r : Int} {f : Nat → Int} {len : Nat} {H : Nat → Int} {b : Bool} (h : EdS op p n r f len H) (hdf : eqB len n H f = false) (hA : Ap len n H f b) : b = true := by
  rcases h with ⟨_, hp, hl, h1, _, h3⟩ | ⟨_, hp, hl, h1, h3⟩ | ⟨_, hp, hl, _, h3⟩ | ⟨_, hp, hl, e1, e2, h3⟩
  · rcases hA with ⟨k, q, hq, rfl⟩ | ⟨k, q, hq, rfl⟩ | ⟨k, q, hq, rfl⟩
    · exact drop_yes hl hp h1 (fun i hi hi' => h3 (i + 1) (by omega) (by omega)) hq
    · omega
    · omega
  · rcases hA with ⟨k, q, hq, rfl⟩ | ⟨k, q, hq, rfl⟩ | ⟨k, q, hq, rfl⟩
    · omega
    · exact drop_yes (by omega) (by omega) (fun i hi => (h1 i hi).symm) (fun i hi hi' => (h3 i hi (by omega)).symm) hq
    · omega
  · subst hl
    rcases hA with ⟨k, q, hq, rfl⟩ | ⟨k, q, hq, rfl⟩ | ⟨k, q, hq, rfl⟩
    · omega
    · omega
    · exact turn_yes (fun i hi hne => h3 i hi hne) hdf hq
  · subst hl
    rcases hA with ⟨k, q, hq, rfl⟩ | ⟨k, q, hq, rfl⟩ | ⟨k, q, hq, rfl⟩
    · omega
    · omega
    · exact swap_yes hp (fun i hi hne hne' => h3 i hi hne hne') e1 e2 hdf hq

/-- 'applyEdit', whatever the input. -/
theorem app28 (ao : Option Addr) (n c : Nat) (f : Nat → Int) (k r kd : Int) (w : World) (S : Sl w ao n f) (hz : ao = none → c = 0) (hn : n ≤ c) (hc : c ≤ 35184372087808) (h0 : 0 ≤ kd) (h1 : kd ≤ 255) (hk0 : -9223372036854775808 ≤ k) (hk1 : k ≤ 9223372036854775807) :
    Calls Trym.prog 28 #[.slice ao n c, .int .i64 k, .int .i32 r, .int .u8 kd] w fun e w' => (e = .returned (.tuple #[.slice none 0 0, .bool false]) ∧ w' = w) ∨ ∃ op p, Out28 w op p n r f e w' := by
  by_cases hno : k < 0 ∨ (kd % 4 = 0 ∧ (n : Int) < k) ∨ (kd % 4 = 1 ∧ (n : Int) ≤ k) ∨ (kd % 4 = 2 ∧ (n : Int) ≤ k) ∨ (kd % 4 = 3 ∧ (n : Int) - 1 ≤ k)
  · exact (app28_no ao n c k r kd w (by omega) h0 h1 hk0 hk1 hno).mono fun e w' h => .inl h
  · obtain ⟨p, rfl⟩ : ∃ p : Nat, k = p := ⟨k.toNat, by omega⟩
    rcases Nat.eq_zero_or_pos n with e | e
    · subst e
      obtain rfl : p = 0 := by omega
      exact (app28_0z ao c r kd f w hz hc h0 h1 (by omega)).mono fun e w' h => .inr ⟨_, _, h⟩
    · obtain ⟨b, o, rfl, _⟩ := S.at e
      have h4 : kd % 4 = 0 ∨ kd % 4 = 1 ∨ kd % 4 = 2 ∨ kd % 4 = 3 := by omega
      rcases h4 with h4 | h4 | h4 | h4
      · rcases Nat.lt_or_ge p n with q | q
        · exact (app28_0 b o n c p r kd f w S hn hc h0 h1 h4 q).mono fun e w' h => .inr ⟨_, _, h⟩
        · exact (app28_0n b o n c p r kd f w S hn hc h0 h1 h4 (by omega) q).mono fun e w' h => .inr ⟨_, _, h⟩
      · rcases Nat.lt_or_ge (p + 1) n with q | q
        · exact (app28_1 b o n c p r kd f w S hn hc h0 h1 h4 q).mono fun e w' h => .inr ⟨_, _, h⟩
        · exact (app28_1n b o n c p r kd f w S hn hc h0 h1 h4 (by omega) q).mono fun e w' h => .inr ⟨_, _, h⟩
      · rcases Nat.lt_or_ge (p + 1) n with q | q
        · exact (app28_2 b o n c p r kd f w S hn hc h0 h1 h4 q).mono fun e w' h => .inr ⟨_, _, h⟩
        · exact (app28_2n b o n c p r kd f w S hn hc h0 h1 h4 (by omega) q).mono fun e w' h => .inr ⟨_, _, h⟩
      · rcases Nat.lt_or_ge (p + 2) n with q | q
        · exact (app28_3 b o n c p r kd f w S hn hc h0 h1 h4 q).mono fun e w' h => .inr ⟨_, _, h⟩
        · exact (app28_3n b o n c p r kd f w S hn hc h0 h1 h4 (by omega) q).mono fun e w' h => .inr ⟨_, _, h⟩

end Go.Proofs.Qxb6601083aMods.Edit
