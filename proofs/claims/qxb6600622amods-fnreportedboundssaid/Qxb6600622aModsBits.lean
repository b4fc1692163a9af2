/-
  THE PLAIN SIDE: everything depends on the low four bits of the two words. No Go in sight.
-/
import Derived.WalkKit
import Derived.Laws.BitsAllLaws
namespace Go.Proofs.Qxb6600622aMods.Low

theorem low_and (X M : Nat) (hM : M < 16) : X &&& M = X % 16 &&& M := by
  have e1 : X % 16 = X &&& 15 := (Nat.and_two_pow_sub_one_eq_mod X 4).symm
  have e2 : 15 &&& M = M := by
    rw [Nat.and_comm, show (15 : Nat) = 2 ^ 4 - 1 by decide, Nat.and_two_pow_sub_one_eq_mod]
    exact Nat.mod_eq_of_lt (by omega)
  rw [e1, Nat.and_assoc, e2]

theorem low_or1 (X : Nat) : (X ||| 1) % 16 = (X % 16) ||| 1 := by
  have := Nat.or_mod_two_pow (a := X) (b := 1) (n := 4)
  simpa using this

theorem lt16 : ∀ p < 16, ∀ q < 16, (p &&& q < 16) ∧ (p ||| q < 16) := by decide

theorem b_and (X M : Nat) (hX : X < 4294967296) (hM : M < 16) : bits .and .u32 (X : Int) (M : Int) = ((X % 16 &&& M : Nat) : Int) := by
  rw [u32_and_nat X M hX (by omega), low_and X M hM]

/-- What 'reported' answers, of the low four bits p of 'found' and q of 'asked'. -/
def rep (p q : Nat) : Nat :=
  if p &&& 4 ≠ 0 ∧ (q &&& 4 ≠ 0 ∨ q &&& 3 = 0) then 4
  else if p &&& 4 ≠ 0 then (q &&& 3) ||| (p &&& 8)
  else if p &&& 8 ≠ 0 then (p ||| 1) &&& ((q &&& 3) ||| 8)
  else p &&& ((q &&& 3) ||| 8)

theorem rep_lt : ∀ p < 16, ∀ q < 16, rep p q < 16 := by decide

theorem eq0 (n : Nat) : ((n : Int) == 0) = (n == 0) := by
  rw [Bool.eq_iff_iff]; simp
theorem ne0 (n : Nat) : ((n : Int) != 0) = (n != 0) := by
  rw [Bool.eq_iff_iff]; simp

/-- A test of one bit, as the walk spells it, is a test of the low four bits. -/
theorem t1 (X : Nat) (hX : X < 4294967296) : (bits .and .u32 (X : Int) 1 != 0) = (X % 16 &&& 1 != 0) := by
  rw [show bits .and .u32 (X : Int) 1 = ((X % 16 &&& 1 : Nat) : Int) from b_and X 1 hX (by omega)]; exact ne0 _
theorem t2 (X : Nat) (hX : X < 4294967296) : (bits .and .u32 (X : Int) 2 != 0) = (X % 16 &&& 2 != 0) := by
  rw [show bits .and .u32 (X : Int) 2 = ((X % 16 &&& 2 : Nat) : Int) from b_and X 2 hX (by omega)]; exact ne0 _
theorem t4 (X : Nat) (hX : X < 4294967296) : (bits .and .u32 (X : Int) 4 != 0) = (X % 16 &&& 4 != 0) := by
  rw [show bits .and .u32 (X : Int) 4 = ((X % 16 &&& 4 : Nat) : Int) from b_and X 4 hX (by omega)]; exact ne0 _
theorem t8 (X : Nat) (hX : X < 4294967296) : (bits .and .u32 (X : Int) 8 != 0) = (X % 16 &&& 8 != 0) := by
  rw [show bits .and .u32 (X : Int) 8 = ((X % 16 &&& 8 : Nat) : Int) from b_and X 8 hX (by omega)]; exact ne0 _
theorem t3 (X : Nat) (hX : X < 4294967296) : (bits .and .u32 (X : Int) 3 == 0) = (X % 16 &&& 3 == 0) := by
  rw [show bits .and .u32 (X : Int) 3 = ((X % 16 &&& 3 : Nat) : Int) from b_and X 3 hX (by omega)]; exact eq0 _

theorem v3 (Y : Nat) (hY : Y < 4294967296) : bits .and .u32 (Y : Int) 3 = ((Y % 16 &&& 3 : Nat) : Int) := b_and Y 3 hY (by omega)
theorem v8 (Y : Nat) (hY : Y < 4294967296) : bits .and .u32 (Y : Int) 8 = ((Y % 16 &&& 8 : Nat) : Int) := b_and Y 8 hY (by omega)
theorem m16 (X : Nat) : X % 16 < 16 := Nat.mod_lt _ (by omega)
theorem l3 (Y : Nat) : Y % 16 &&& 3 < 16 := (lt16 _ (m16 Y) 3 (by omega)).1
theorem l8 (Y : Nat) : Y % 16 &&& 8 < 16 := (lt16 _ (m16 Y) 8 (by omega)).1
theorem l38 (Y : Nat) : (Y % 16 &&& 3) ||| 8 < 16 := (lt16 _ (l3 Y) 8 (by omega)).2

/-- 'readiness or hang-up'. -/
theorem v38 (Y : Nat) (hY : Y < 4294967296) : bits .or .u32 (bits .and .u32 (Y : Int) 3) 8 = (((Y % 16 &&& 3) ||| 8 : Nat) : Int) := by
  rw [v3 Y hY]
  exact u32_or_nat _ 8 (Nat.lt_trans (l3 Y) (by omega)) (by omega)

/-- The second way: an error, told as readiness. -/
theorem way2 (X Y : Nat) (hX : X < 4294967296) (hY : Y < 4294967296) :
    bits .or .u32 (bits .and .u32 (Y : Int) 3) (bits .and .u32 (X : Int) 8) = (((Y % 16 &&& 3) ||| (X % 16 &&& 8) : Nat) : Int) := by
  rw [v3 Y hY, v8 X hX]
  exact u32_or_nat _ _ (Nat.lt_trans (l3 Y) (by omega)) (Nat.lt_trans (l8 X) (by omega))

/-- The third way: a hang-up. -/
theorem way3 (X Y : Nat) (hX : X < 4294967296) (hY : Y < 4294967296) :
    bits .and .u32 (bits .or .u32 (X : Int) 1) (bits .or .u32 (bits .and .u32 (Y : Int) 3) 8) = (((X % 16 ||| 1) &&& ((Y % 16 &&& 3) ||| 8) : Nat) : Int) := by
  have e : bits .or .u32 (X : Int) 1 = ((X ||| 1 : Nat) : Int) := u32_or_nat X 1 hX (by omega)
  have hlt : X ||| 1 < 2 ^ 32 := Nat.or_lt_two_pow (by omega) (by omega)
  rw [v38 Y hY, e, b_and _ _ (by omega) (l38 Y), low_or1]

/-- The fourth way: neither. -/
theorem way4 (X Y : Nat) (hX : X < 4294967296) (hY : Y < 4294967296) :
    bits .and .u32 (X : Int) (bits .or .u32 (bits .and .u32 (Y : Int) 3) 8) = ((X % 16 &&& ((Y % 16 &&& 3) ||| 8) : Nat) : Int) := by
  rw [v38 Y hY, b_and _ _ hX (l38 Y)]

theorem rep_way1 (p q : Nat) (h1 : (p &&& 4 != 0) = true) (h2 : (q &&& 4 != 0) = true) : rep p q = 4 := by
  simp at h1 h2; simp [rep, h1, h2]
theorem rep_way1' (p q : Nat) (h1 : (p &&& 4 != 0) = true) (h2 : (q &&& 3 == 0) = true) : rep p q = 4 := by
  simp at h1 h2; simp [rep, h1, h2]
theorem rep_way2 (p q : Nat) (h1 : (p &&& 4 != 0) = true) (h2 : (q &&& 4 != 0) = false) (h3 : (q &&& 3 == 0) = false) : rep p q = (q &&& 3) ||| (p &&& 8) := by
  simp at h1 h2 h3; simp [rep, h1, h2, h3]
theorem rep_way3 (p q : Nat) (h1 : (p &&& 4 != 0) = false) (h2 : (p &&& 8 != 0) = true) : rep p q = (p ||| 1) &&& ((q &&& 3) ||| 8) := by
  simp at h1 h2; simp [rep, h1, h2]
theorem rep_way4 (p q : Nat) (h1 : (p &&& 4 != 0) = false) (h2 : (p &&& 8 != 0) = false) : rep p q = p &&& ((q &&& 3) ||| 8) := by
  simp at h1 h2; simp [rep, h1, h2]

/-- The per-bit specification, of seven answers. -/
def mdl (fR fW fE fH aR aW aE : Bool) : Nat :=
  if fE && (aE || (!aR && !aW)) then 4
  else (if aR && (fR || fH || fE) then 1 else 0) + (if aW && (fW || fE) then 2 else 0) + (if fH then 8 else 0)

theorem rep_mdl : ∀ p < 16, ∀ q < 16, rep p q = mdl (p &&& 1 != 0) (p &&& 2 != 0) (p &&& 4 != 0) (p &&& 8 != 0) (q &&& 1 != 0) (q &&& 2 != 0) (q &&& 4 != 0) := by
  decide

/-! ### What the bounds ask of the answer -/
theorem bd_hi : ∀ r < 16, r &&& 4294967280 = 0 := by decide
theorem bd_asked : ∀ p < 16, ∀ q < 16, (rep p q &&& 3) &&& (15 - q) = 0 := by decide
theorem bd_err : ∀ p < 16, ∀ q < 16, (rep p q &&& 4 != 0) = true → (rep p q != 4) = false := by decide
theorem bd_lost : ∀ p < 16, ∀ q < 16, (p &&& 12 != 0) = true → (rep p q == 0) = false := by decide
theorem bd_made : ∀ p < 16, ∀ q < 16, (p &&& 15 == 0) = true → (rep p q != 0) = false := by decide

theorem c_hi (r : Nat) (h : r < 16) : (bits .andNot .u32 (r : Int) 15 != 0) = false := by
  rw [show bits .andNot .u32 (r : Int) 15 = ((r &&& 4294967280 : Nat) : Int) from u32_andNot_nat r 15 (by omega) (by omega), bd_hi r h]; rfl

theorem c_asked (X Y : Nat) (hY : Y < 4294967296) :
    (bits .andNot .u32 (bits .and .u32 ((rep (X % 16) (Y % 16) : Nat) : Int) 3) (Y : Int) != 0) = false := by
  have hr := rep_lt _ (m16 X) _ (m16 Y)
  have e1 : bits .and .u32 ((rep (X % 16) (Y % 16) : Nat) : Int) 3 = ((rep (X % 16) (Y % 16) &&& 3 : Nat) : Int) := u32_and_nat _ 3 (by omega) (by omega)
  have hl := (lt16 _ hr 3 (by omega)).1
  rw [e1, u32_andNot_nat _ Y (by omega) hY, Nat.and_comm, low_and _ _ hl, show (4294967295 - Y) % 16 = 15 - Y % 16 by omega, Nat.and_comm, bd_asked _ (m16 X) _ (m16 Y)]
  rfl

theorem c_err (X Y : Nat) : (bits .and .u32 ((rep (X % 16) (Y % 16) : Nat) : Int) 4 != 0) = false ∨
    ((bits .and .u32 ((rep (X % 16) (Y % 16) : Nat) : Int) 4 != 0) = true ∧ (((rep (X % 16) (Y % 16) : Nat) : Int) != 4) = false) := by
  have hr := rep_lt _ (m16 X) _ (m16 Y)
  have e1 : bits .and .u32 ((rep (X % 16) (Y % 16) : Nat) : Int) 4 = ((rep (X % 16) (Y % 16) &&& 4 : Nat) : Int) := u32_and_nat _ 4 (by omega) (by omega)
  rw [e1, ne0]
  rcases h : (rep (X % 16) (Y % 16) &&& 4 != 0) with _ | _
  · exact .inl rfl
  · have := bd_err _ (m16 X) _ (m16 Y) h
    refine .inr ⟨rfl, ?_⟩
    simp at this
    rw [this]; rfl

theorem c_lost (X Y : Nat) (hX : X < 4294967296) : (bits .and .u32 (X : Int) 12 != 0) = false ∨
    ((bits .and .u32 (X : Int) 12 != 0) = true ∧ (((rep (X % 16) (Y % 16) : Nat) : Int) == 0) = false) := by
  rw [show bits .and .u32 (X : Int) 12 = ((X % 16 &&& 12 : Nat) : Int) from b_and X 12 hX (by omega), ne0, eq0]
  rcases h : (X % 16 &&& 12 != 0) with _ | _
  · exact .inl rfl
  · exact .inr ⟨rfl, bd_lost _ (m16 X) _ (m16 Y) h⟩

theorem c_made (X Y : Nat) (hX : X < 4294967296) : (bits .and .u32 (X : Int) 15 == 0) = false ∨
    ((bits .and .u32 (X : Int) 15 == 0) = true ∧ (((rep (X % 16) (Y % 16) : Nat) : Int) != 0) = false) := by
  rw [show bits .and .u32 (X : Int) 15 = ((X % 16 &&& 15 : Nat) : Int) from b_and X 15 hX (by omega), ne0, eq0]
  rcases h : (X % 16 &&& 15 == 0) with _ | _
  · exact .inl rfl
  · exact .inr ⟨rfl, bd_made _ (m16 X) _ (m16 Y) h⟩

end Go.Proofs.Qxb6600622aMods.Low
