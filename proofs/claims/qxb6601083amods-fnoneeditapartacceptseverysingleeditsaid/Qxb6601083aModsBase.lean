/-
  WORDS OF THIS SEAT: a slice of int32 as a length and a function from places to numbers; what the plain laws speak of. No walk here.
-/
import Derived.Test.Qxb6601083aModsRows
import Derived.WalkKit
import Derived.Deep.Draws
namespace Go.Proofs.Qxb6601083aMods.Edit
open Go.RowKit

/-- The slice at 'a' has n readable elements, the numbers f 0 .. f (n-1). An empty one may have whatever address. -/
def Sl (w : World) (a : Option Addr) (n : Nat) (f : Nat → Int) : Prop :=
  n = 0 ∨ ∃ b o, a = some ⟨b, o, none⟩ ∧ ∀ i, i < n → w.cell? ⟨b, o + i, none⟩ = some (.int .i32 (f i))

theorem Sl.at {w : World} {a : Option Addr} {n : Nat} {f : Nat → Int} (h : Sl w a n f) (hn : 0 < n) :
    ∃ b o, a = some ⟨b, o, none⟩ ∧ ∀ i, i < n → w.cell? ⟨b, o + i, none⟩ = some (.int .i32 (f i)) := by
  rcases h with h | h
  · omega
  · exact h

theorem Sl.drewN {w : World} {a : Option Addr} {n : Nat} {f : Nat → Int} (h : Sl w a n f) (q : Nat) : Sl (w.drewN q) a n f := by
  rcases h with h | ⟨b, o, e, h⟩
  · exact .inl h
  · exact .inr ⟨b, o, e, fun i hi => h i hi⟩

/-- The two rows of numbers are one. -/
def eqB (n m : Nat) (f g : Nat → Int) : Bool := decide (n = m) && (List.range n).all fun i => f i == g i

theorem eqB_true {n m : Nat} {f g : Nat → Int} (h : n = m) (k : ∀ i, i < n → f i = g i) : eqB n m f g = true := by
  unfold eqB
  simp [h]
  intro i hi
  exact k i (by omega)

theorem eqB_iff (n m : Nat) (f g : Nat → Int) : eqB n m f g = true ↔ n = m ∧ ∀ i, i < n → f i = g i := by
  constructor
  · intro h
    unfold eqB at h
    simp at h
    exact h
  · exact fun h => eqB_true h.1 h.2

theorem eqB_len {n m : Nat} {f g : Nat → Int} (h : ¬ n = m) : eqB n m f g = false := by
  rw [Bool.eq_false_iff]; intro e; exact h ((eqB_iff ..).1 e).1

theorem eqB_elem {n m : Nat} {f g : Nat → Int} (i : Nat) (hi : i < n) (h : ¬ f i = g i) : eqB n m f g = false := by
  rw [Bool.eq_false_iff]; intro e; exact h (((eqB_iff ..).1 e).2 i hi)

end Go.Proofs.Qxb6601083aMods.Edit
