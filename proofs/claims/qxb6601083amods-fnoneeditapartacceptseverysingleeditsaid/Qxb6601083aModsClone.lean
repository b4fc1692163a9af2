/-
  'cloneRunes' (22), walked: the copy lies in new memory and holds the same numbers.
-/
import Derived.Test.Qxb6601083aModsEq
import Derived.Deep.OwnRows
import Derived.WalkSpells
namespace Go.Proofs.Qxb6601083aMods.Edit
open Go.RowKit

theorem Trym.info21 : (Trym.prog.info? 21).map (fun i => (i.zero, i.size, i.bytes)) = some (some (.int .i32 0), 1, 4) := by kernel_rfl

/-- Block B is a row of n cells of the call's own; the first k hold f's numbers. -/
def Own (w : World) (B n k : Nat) (f : Nat → Int) : Prop :=
  ∃ arr : Array Value, w.heap[B]? = some (.cells arr 21 (0, 0)) ∧ arr.size = n ∧ ∀ j, j < k → arr[j]? = some (.int .i32 (f j))

theorem Own.cell {w : World} {B n k : Nat} {f : Nat → Int} (h : Own w B n k f) (j : Nat) (hj : j < n) : ∃ v, w.cell? ⟨B, j, none⟩ = some v := by
  obtain ⟨arr, hb, hs, _⟩ := h
  exact ⟨arr[j]'(by omega), by simp [World.cell?, hb, hs, hj]⟩

theorem Own.free {w : World} {B n k : Nat} {f : Nat → Int} (h : Own w B n k f) (j : Nat) : w.frozen? ⟨B, j, none⟩ = false := by
  obtain ⟨arr, hb, _, _⟩ := h
  simp [World.frozen?, hb]

theorem heap_setCell_self {w : World} {B : Nat} {arr : Array Value} {t : TypeId} {fz : Nat × Nat} (h : w.heap[B]? = some (.cells arr t fz)) (j : Nat) (v : Value) :
    (w.setCell ⟨B, j, none⟩ v).heap[B]? = some (.cells (arr.setIfInBounds j v) t fz) := by
  simp [World.setCell, Array.getElem?_modify, h]

theorem Own.set {w : World} {B n k : Nat} {f : Nat → Int} (h : Own w B n k f) (hk : k < n) : Own (w.setCell ⟨B, k, none⟩ (.int .i32 (f k))) B n (k + 1) f := by
  obtain ⟨arr, hb, hs, hc⟩ := h
  refine ⟨_, heap_setCell_self hb k _, by simpa using hs, fun j hj => ?_⟩
  rw [Array.getElem?_setIfInBounds]
  by_cases e : k = j
  · subst e
    rw [if_pos rfl, if_pos (by omega)]
  · rw [if_neg e]
    exact hc j (by omega)

theorem Own.sl {w : World} {B n : Nat} {f : Nat → Int} (h : Own w B n n f) : Sl w (some ⟨B, 0, none⟩) n f := by
  obtain ⟨arr, hb, hs, hc⟩ := h
  refine .inr ⟨B, 0, rfl, fun i hi => ?_⟩
  have := hc i hi
  simp [World.cell?, hb, this]

theorem own_made (w : World) (n : Nat) (f : Nat → Int) : Own (w.alloc (.cells (madeCells #[.int .i32 0] n) 21)) w.heap.size n 0 f := by
  refine ⟨madeCells #[.int .i32 0] n, ?_, size_madeCells _ _, fun j hj => absurd hj (Nat.not_lt_zero _)⟩
  show (w.heap.push _)[w.heap.size]? = _
  simp

theorem lt_of_cell {w : World} {b o : Nat} {v : Value} (h : w.cell? ⟨b, o, none⟩ = some v) : b < w.heap.size := by
  rcases Nat.lt_or_ge b w.heap.size with k | k
  · exact k
  · have : w.heap[b]? = none := Array.getElem?_eq_none k
    simp [World.cell?, this] at h

/-- What is read stays readable while old memory is left alone. -/
theorem Sl.below {w w' : World} {a : Option Addr} {n : Nat} {f : Nat → Int} (h : Sl w a n f) (hb : Below w.heap.size w w') : Sl w' a n f := by
  rcases h with h | ⟨b, o, e, h⟩
  · exact .inl h
  · refine .inr ⟨b, o, e, fun i hi => ?_⟩
    have hc := h i hi
    rw [hb.cell (lt_of_cell hc)]
    exact hc

set_option maxHeartbeats 800000 in
theorem clone22 (a : Option Addr) (n c : Nat) (f : Nat → Int) (w : World) (h : Sl w a n f) (hz : a = none → n = 0) (hn : n ≤ 35184372087808) :
    Calls Trym.prog 22 #[.slice a n c] w fun e w' => ∃ a' c', e = .returned (.slice a' n c') ∧ n ≤ c' ∧ c' ≤ 35184372087808 ∧ Sl w' a' n f ∧ Below w.heap.size w w' ∧ (a' = none → c' = 0) := by
  have hnil := fun (a : Option Addr) (w : World) => Lib.run_eql_slice_nil (P := Trym.prog) w 35 21 a n c 0 0 Trym.underlying35
  rcases a with _ | x
  · obtain rfl := hz rfl
    go_enter Trym.func22, Trym.ntmps22
    go_wp2
    go_ret
    exact ⟨none, 0, rfl, by omega, .inl rfl, Below.refl _ _, fun _ => rfl⟩
  · have hmk := run_make_row' (P := Trym.prog) 35 21 (.int .i32 0) 4 Trym.underlying35 Trym.info21 rfl .i64 .i64 n (by omega) (by omega)
    clear hz
    go_enter Trym.func22, Trym.ntmps22
    go_wp2
    clear hmk hnil
    go_loopg [4] n (fun gh s wr => ∃ k : Nat, k ≤ n ∧ n - k ≤ gh ∧ s = .int .i64 k ∧ Aside (Own wr w.heap.size n k f) ∧ Aside (Below w.heap.size w wr))
    case atStart => exact ⟨0, Nat.zero_le _, by omega, rfl, own_made w n f, (Below.refl _ _).alloc (Nat.le_refl _) _⟩
    case round =>
      obtain ⟨k, hk, hg, rfl, O, D⟩ := hrel
      by_cases hlt : k < n
      · obtain ⟨b, o, e, hc⟩ := h.at (by omega)
        obtain rfl : x = ⟨b, o, none⟩ := by simpa using e
        have g1 : wr.cell? ⟨b, o + k, none⟩ = some (.int .i32 (f k)) := (D.out.cell (lt_of_cell (hc k hlt))).trans (hc k hlt)
        obtain ⟨v, g2⟩ := O.out.cell k hlt
        have g3 := O.out.free k
        have O' : Aside (Own (wr.setCell ⟨w.heap.size, k, none⟩ (.int .i32 (f k))) w.heap.size n (k + 1) f) := O.out.set hlt
        have D' : Aside (Below w.heap.size w (wr.setCell ⟨w.heap.size, k, none⟩ (.int .i32 (f k)))) := D.out.setCell (Nat.le_refl _) _
        clear hc h O D
        generalize f k = y at g1 O' D'
        go_wp2
        go_roundg (n - (k + 1))
        case measure => omega
        case rel => exact ⟨k + 1, by omega, by omega, by go_num, O', D'⟩
      · obtain rfl : k = n := by omega
        clear h
        go_wp2
        go_ret
        exact ⟨_, _, rfl, Nat.le_refl _, hn, O.out.sl, D.out, fun h => absurd h (by simp)⟩

end Go.Proofs.Qxb6601083aMods.Edit
