/-
  THE SMALL CALLEES: a parameter's three fields (17, 12, 19), libpq's table (18), the list of parameters (16, 11).
-/
import Derived.Test.Qxb6601569aModsRows
import Derived.WalkKit
import Derived.Deep.Draws
namespace Go.Proofs.Qxb6601569aMods.Par
open Go.RowKit

/-- The six names. -/
def nm : Nat → ByteArray
  | 0 => ⟨#[115, 115, 108, 109, 111, 100, 101]⟩
  | 1 => ⟨#[115, 115, 108, 114, 111, 111, 116, 99, 101, 114, 116]⟩
  | 2 => ⟨#[115, 115, 108, 99, 101, 114, 116]⟩
  | 3 => ⟨#[115, 115, 108, 107, 101, 121]⟩
  | 4 => ⟨#[115, 115, 108, 112, 97, 115, 115, 119, 111, 114, 100]⟩
  | _ => ⟨#[99, 111, 110, 110, 101, 99, 116, 95, 116, 105, 109, 101, 111, 117, 116]⟩

/-- The six values of the first. -/
def vl : Nat → ByteArray
  | 0 => ⟨#[100, 105, 115, 97, 98, 108, 101]⟩
  | 1 => ⟨#[97, 108, 108, 111, 119]⟩
  | 2 => ⟨#[112, 114, 101, 102, 101, 114]⟩
  | 3 => ⟨#[114, 101, 113, 117, 105, 114, 101]⟩
  | 4 => ⟨#[118, 101, 114, 105, 102, 121, 45, 99, 97]⟩
  | _ => ⟨#[118, 101, 114, 105, 102, 121, 45, 102, 117, 108, 108]⟩

set_option maxHeartbeats 400000 in
theorem fld17 (s : ByteArray) (v : Value) (c : Bool) (w : World) :
    Calls Trym.prog 17 #[.agg #[.string s, v, .bool c]] w fun e w' => e = .returned (.string s) ∧ Below w.heap.size w w' := by
  go_enter Trym.func17, Trym.ntmps17
  go_wp2
  go_ret
  exact ⟨rfl, (Below.refl _ _).alloc (Nat.le_refl _) _⟩

set_option maxHeartbeats 400000 in
theorem fld12 (s : ByteArray) (ao : Option Addr) (n m : Nat) (c : Bool) (w : World) :
    Calls Trym.prog 12 #[.agg #[.string s, .slice ao n m, .bool c]] w fun e w' => e = .returned (.slice ao n m) ∧ Below w.heap.size w w' := by
  go_enter Trym.func12, Trym.ntmps12
  go_wp2
  go_ret
  exact ⟨rfl, (Below.refl _ _).alloc (Nat.le_refl _) _⟩

set_option maxHeartbeats 400000 in
theorem fld19 (s : ByteArray) (v : Value) (c : Bool) (w : World) :
    Calls Trym.prog 19 #[.agg #[.string s, v, .bool c]] w fun e w' => e = .returned (.bool c) ∧ Below w.heap.size w w' := by
  go_enter Trym.func19, Trym.ntmps19
  go_wp2
  go_ret
  exact ⟨rfl, (Below.refl _ _).alloc (Nat.le_refl _) _⟩

set_option maxHeartbeats 400000 in
theorem lib18_1 (w : World) :
    Calls Trym.prog 18 #[.string (nm 1)] w fun e w' => e = .returned (.tuple #[.slice none 0 0, .bool true]) ∧ w' = w := by
  unfold nm
  go_enter Trym.func18, Trym.ntmps18
  go_wp2
  go_ret2
  exact ⟨rfl, rfl⟩

set_option maxHeartbeats 400000 in
theorem lib18_2 (w : World) :
    Calls Trym.prog 18 #[.string (nm 2)] w fun e w' => e = .returned (.tuple #[.slice none 0 0, .bool true]) ∧ w' = w := by
  unfold nm
  go_enter Trym.func18, Trym.ntmps18
  go_wp2
  go_ret2
  exact ⟨rfl, rfl⟩

set_option maxHeartbeats 400000 in
theorem lib18_3 (w : World) :
    Calls Trym.prog 18 #[.string (nm 3)] w fun e w' => e = .returned (.tuple #[.slice none 0 0, .bool true]) ∧ w' = w := by
  unfold nm
  go_enter Trym.func18, Trym.ntmps18
  go_wp2
  go_ret2
  exact ⟨rfl, rfl⟩

set_option maxHeartbeats 400000 in
theorem lib18_4 (w : World) :
    Calls Trym.prog 18 #[.string (nm 4)] w fun e w' => e = .returned (.tuple #[.slice none 0 0, .bool true]) ∧ w' = w := by
  unfold nm
  go_enter Trym.func18, Trym.ntmps18
  go_wp2
  go_ret2
  exact ⟨rfl, rfl⟩

set_option maxHeartbeats 400000 in
theorem lib18_5 (w : World) :
    Calls Trym.prog 18 #[.string (nm 5)] w fun e w' => e = .returned (.tuple #[.slice none 0 0, .bool true]) ∧ w' = w := by
  unfold nm
  go_enter Trym.func18, Trym.ntmps18
  go_wp2
  go_ret2
  exact ⟨rfl, rfl⟩

/-- The six values lie at V. -/
def Vals (w : World) (V : Nat) : Prop := ∀ j, j < 6 → w.cell? ⟨V, j, none⟩ = some (.string (vl j))

/-- What the second field of parameter i holds. -/
def vs (V : Nat) : Nat → Value
  | 0 => .slice (some ⟨V, 0, none⟩) 6 6
  | _ => .slice none 0 0

/-- The six parameters lie at b, their values at V. -/
def Pars (w : World) (b V : Nat) : Prop := ∀ i, i < 6 → w.cell? ⟨b, i * 3, none⟩ = some (.string (nm i)) ∧ w.cell? ⟨b, i * 3 + 1, none⟩ = some (vs V i) ∧ w.cell? ⟨b, i * 3 + 2, none⟩ = some (.bool false)

theorem lt_of_cell {w : World} {b o : Nat} {v : Value} (h : w.cell? ⟨b, o, none⟩ = some v) : b < w.heap.size := by
  rcases Nat.lt_or_ge b w.heap.size with k | k
  · exact k
  · have : w.heap[b]? = none := Array.getElem?_eq_none k
    simp [World.cell?, this] at h

theorem Vals.below {w w' : World} {V : Nat} (h : Vals w V) (hb : Below w.heap.size w w') : Vals w' V := fun j hj => by
  rw [hb.cell (lt_of_cell (h j hj))]; exact h j hj

theorem Pars.below {w w' : World} {b V : Nat} (h : Pars w b V) (hb : Below w.heap.size w w') : Pars w' b V := fun i hi => by
  have hl := lt_of_cell (h i hi).1
  rw [hb.cell (by exact hl), hb.cell (by exact hl), hb.cell (by exact hl)]; exact h i hi

theorem blk_one (w : World) (o1 : Obj) : (w.alloc o1).heap[w.heap.size]? = some o1 := by
  show (w.heap.push o1)[w.heap.size]? = _
  simp
theorem blk_two (w : World) (o1 o2 : Obj) : ((w.alloc o1).alloc o2).heap[w.heap.size + 1]? = some o2 := by
  have := blk_one (w.alloc o1) o2
  simpa using this
theorem blk_three (w : World) (o1 o2 o3 : Obj) : (((w.alloc o1).alloc o2).alloc o3).heap[w.heap.size + 1 + 1]? = some o3 := by
  have := blk_two (w.alloc o1) o2 o3
  simpa using this
theorem blk_mid (w : World) (o1 o2 o3 : Obj) : (((w.alloc o1).alloc o2).alloc o3).heap[w.heap.size + 1]? = some o2 := by
  rw [Below.heap_alloc _ _ _ (by simp)]
  exact blk_two w o1 o2

theorem cell_blk {w : World} {b : Nat} {arr : Array Value} {t : TypeId} {fz : Nat × Nat} (h : w.heap[b]? = some (.cells arr t fz)) (o : Nat) : w.cell? ⟨b, o, none⟩ = arr[o]? := by
  simp [World.cell?, h]
theorem free_blk {w : World} {b : Nat} {arr : Array Value} {t : TypeId} (h : w.heap[b]? = some (.cells arr t (0, 0))) (o : Nat) : w.frozen? ⟨b, o, none⟩ = false := by
  simp [World.frozen?, h]

set_option maxHeartbeats 400000 in
theorem lib18_0 (w : World) :
    Calls Trym.prog 18 #[.string (nm 0)] w fun e w' => e = .returned (.tuple #[.slice (some ⟨w.heap.size, 0, none⟩) 6 6, .bool true]) ∧ Vals w' w.heap.size ∧ Below w.heap.size w w' := by
  unfold nm
  go_enter Trym.func18, Trym.ntmps18
  go_wp2
  go_ret2
  refine ⟨rfl, ?_, (Below.refl _ _).alloc (Nat.le_refl _) _⟩
  intro j hj
  obtain rfl | rfl | rfl | rfl | rfl | rfl : j = 0 ∨ j = 1 ∨ j = 2 ∨ j = 3 ∨ j = 4 ∨ j = 5 := by omega
  all_goals simp [vl]

set_option maxHeartbeats 400000 in
theorem par16 (w : World) :
    Calls Trym.prog 16 #[.agg #[]] w fun e w' => ∃ b V, e = .returned (.slice (some ⟨b, 0, none⟩) 6 6) ∧ Pars w' b V ∧ Vals w' V ∧ (∀ o, w'.frozen? ⟨b, o, none⟩ = false) ∧ (∀ o, w'.frozen? ⟨V, o, none⟩ = false) ∧ w.heap.size ≤ b ∧ w.heap.size ≤ V ∧ ¬ b = V ∧ Below w.heap.size w w' := by
  go_enter Trym.func16, Trym.ntmps16
  go_wp2
  go_ret
  refine ⟨w.heap.size + 1 + 1, w.heap.size + 1, rfl, ?_, ?_, ?_, ?_, by omega, by omega, by omega, ?_⟩
  · intro i hi
    obtain rfl | rfl | rfl | rfl | rfl | rfl : i = 0 ∨ i = 1 ∨ i = 2 ∨ i = 3 ∨ i = 4 ∨ i = 5 := by omega
    all_goals (refine ⟨?_, ?_, ?_⟩ <;> exact cell_blk (blk_three w _ _ _) _)
  · intro j hj
    obtain rfl | rfl | rfl | rfl | rfl | rfl : j = 0 ∨ j = 1 ∨ j = 2 ∨ j = 3 ∨ j = 4 ∨ j = 5 := by omega
    all_goals exact cell_blk (blk_mid w _ _ _) _
  · exact free_blk (blk_three w _ _ _)
  · exact free_blk (blk_mid w _ _ _)
  · exact (((Below.refl _ _).alloc (Nat.le_refl _) _).alloc (by simp) _).alloc (by simp; omega) _

set_option maxHeartbeats 400000 in
theorem par11 (w : World) :
    Calls Trym.prog 11 #[] w fun e w' => ∃ b V, e = .returned (.slice (some ⟨b, 0, none⟩) 6 6) ∧ Pars w' b V ∧ Vals w' V ∧ (∀ o, w'.frozen? ⟨b, o, none⟩ = false) ∧ (∀ o, w'.frozen? ⟨V, o, none⟩ = false) ∧ w.heap.size ≤ b ∧ w.heap.size ≤ V ∧ ¬ b = V ∧ Below w.heap.size w w' := by
  go_enter Trym.func11, Trym.ntmps11
  go_wp2_with fail
  refine (par16 _).mono ?_
  rintro e w' ⟨b, V, rfl, h⟩
  have H : Hid _ := h
  clear h
  go_wp2
  go_ret
  exact ⟨b, V, rfl, H.out⟩

end Go.Proofs.Qxb6601569aMods.Par
