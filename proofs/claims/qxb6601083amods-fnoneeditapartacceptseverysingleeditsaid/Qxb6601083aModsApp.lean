/-
  'append' within the capacity onto a row of the call's own, in this seat's words: what is appended is whatever 'Sl' says.
-/
import Derived.Test.Qxb6601083aModsClone
namespace Go.Proofs.Qxb6601083aMods.Edit
open Go.RowKit

def row (h : Nat → Int) (k : Nat) : List Value := (List.range k).map fun i => .int .i32 (h i)

theorem row_length (h : Nat → Int) (k : Nat) : (row h k).length = k := by simp [row]
theorem row_get (h : Nat → Int) (k j : Nat) : (row h k)[j]? = if j < k then some (.int .i32 (h j)) else none := by
  unfold row
  by_cases hj : j < k
  · simp [hj]
  · simp [hj]

/-- What lies behind an append: the old numbers, then the new ones. -/
def cat (k : Nat) (h s : Nat → Int) : Nat → Int := fun i => if i < k then h i else s (i - k)

theorem cat_lo {k i : Nat} {h s : Nat → Int} (hi : i < k) : cat k h s i = h i := if_pos hi
theorem cat_hi {k i : Nat} {h s : Nat → Int} (hi : k ≤ i) : cat k h s i = s (i - k) := if_neg (by omega)

theorem own_to {w : World} {B cap k : Nat} {h : Nat → Int} (O : Own w B cap k h) (hk : k ≤ cap) (hc : cap ≤ maxLen) :
    w.ownsRow B 21 1 (.slice (some ⟨B, 0, none⟩) k cap) k (row h k) := by
  obtain ⟨arr, hb, hs, hv⟩ := O
  refine ⟨by rw [row_length]; omega, .inr ⟨B, cap, arr, rfl, Nat.le_refl _, hb, hk, hc, by omega, ?_⟩⟩
  apply List.ext_getElem?
  intro j
  rw [row_get, List.getElem?_take]
  by_cases hj : j < k
  · rw [if_pos (by omega), if_pos hj]
    have := hv j hj
    simpa using this
  · rw [if_neg (by omega), if_neg hj]

theorem own_from {w : World} {B cap k m : Nat} {h s : Nat → Int} (O : w.ownsRow B 21 1 (.slice (some ⟨B, 0, none⟩) (k + m) cap) (k + m) (row h k ++ row s m)) : Own w B cap (k + m) (cat k h s) := by
  obtain ⟨_, hv | ⟨g, cap', cur, hv, _, hb, _, _, hs, ht⟩⟩ := O
  · simp at hv
  · simp only [Value.slice.injEq, Option.some.injEq, Addr.mk.injEq] at hv
    obtain ⟨⟨rfl, _, _⟩, _, rfl⟩ := hv
    refine ⟨cur, hb, by omega, fun j hj => ?_⟩
    have e := congrArg (fun l => l[j]?) ht
    simp only [List.getElem?_take] at e
    rw [if_pos (by omega), List.getElem?_append, row_length, row_get, row_get] at e
    have e2 : cur[j]? = cur.toList[j]? := by simp
    rw [e2, e]
    unfold cat
    by_cases hjk : j < k
    · rw [if_pos hjk, if_pos hjk, if_pos hjk]
    · rw [if_neg hjk, if_neg hjk, if_pos (by omega)]

theorem Own.alloc {w : World} {B n k : Nat} {f : Nat → Int} (h : Own w B n k f) (o : Obj) : Own (w.alloc o) B n k f := by
  obtain ⟨arr, hb, hs, hc⟩ := h
  refine ⟨arr, ?_, hs, hc⟩
  rw [Below.heap_alloc _ _ _ (lt_of_block hb)]
  exact hb

theorem Own.slk {w : World} {B n k : Nat} {f : Nat → Int} (h : Own w B n k f) : Sl w (some ⟨B, 0, none⟩) k f := by
  obtain ⟨arr, hb, hs, hc⟩ := h
  refine .inr ⟨B, 0, rfl, fun i hi => ?_⟩
  have := hc i hi
  simp [World.cell?, hb, this]

theorem addr_add (b o j : Nat) : (⟨b, o, none⟩ : Addr).add j = ⟨b, o + j, none⟩ := by
  cases j <;> simp [Addr.add]

theorem app_fun (w : World) {ops : Array Oper} {rest : List Oper} {o : Oper} {a : Act} {Q : Exit → Act → World → Prop} (hg : o.guard = none)
    (s x : Operand) (hop : o.op = Op.call { callee := Callee.builtin Builtin.append, args := #[s, x], argTypes := #[35, 35] })
    (B cap k : Nat) (h : Nat → Int) (hs : a.eval s = .slice (some ⟨B, 0, none⟩) k cap) (O : Own w B cap k h)
    (ao : Option Addr) (m c : Nat) (src : Nat → Int) (hx : a.eval x = .slice ao m c) (S : Sl w ao m src) (hnone : ao = none → m = 0 ∧ c = 0) (hle : k + m ≤ cap) (hc : cap ≤ maxLen)
    (hK : ∀ w', Own w' B cap (k + m) (cat k h src) → w.grownBy w' (some B) → wpList Trym.prog ops Q rest (a.put o.dst (.slice (some ⟨B, 0, none⟩) (k + m) cap)) w') :
    wpList Trym.prog ops Q (o :: rest) a w := by
  obtain ⟨i0, hi, hz0, hz1, hz2⟩ := info_parts Trym.info21
  refine wpList_append_fits_any w hg s x 35 hop B 21 i0 1 Trym.underlying35 hi hz1 B k cap (row h k) hs (own_to O (by omega) hc) ao m c (row src m) hx (by rw [row_length]; omega) hnone ?_ ?_ hle ?_
  · rintro ad rfl j u hj
    rw [row_get] at hj
    by_cases hjm : j < m
    · rw [if_pos hjm] at hj
      obtain ⟨b, o', e, hcell⟩ := S.at (by omega)
      obtain rfl : ad = ⟨b, o', none⟩ := by simpa using e
      rw [addr_add, hcell j hjm]
      exact hj
    · rw [if_neg hjm] at hj
      simp at hj
  · intro u hu
    unfold row at hu
    simp at hu
    obtain ⟨_, _, rfl⟩ := hu
    rfl
  · intro w' O' G
    exact hK w' (own_from O') G

end Go.Proofs.Qxb6601083aMods.Edit
