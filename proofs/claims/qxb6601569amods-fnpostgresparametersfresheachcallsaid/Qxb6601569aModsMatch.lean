/-
  'zzParametersMatchLibpq' (13) at the list as it is made: it answers true.
-/
import Derived.Test.Qxb6601569aModsSmall
import Derived.Deep.LoopGhost
import Derived.Deep.QuietTactic
import Derived.BigQuiet
namespace Go.Proofs.Qxb6601569aMods.Par
open Go.RowKit

theorem below_drewN {B : Nat} {a w : World} (h : Below B a w) (q : Nat) : Below B a (w.drewN q) := ⟨h.os, h.tape, h.output, h.size, h.block⟩
theorem below_on {w w1 w2 : World} (h : Below w.heap.size w w1) (k : Below w1.heap.size w1 w2) : Below w.heap.size w w2 := h.trans (k.mono h.size)

theorem lib18_k (i : Nat) (h1 : 1 ≤ i) (h2 : i < 6) (w : World) :
    Calls Trym.prog 18 #[.string (nm i)] w fun e w' => e = .returned (.tuple #[.slice none 0 0, .bool true]) ∧ w' = w := by
  obtain rfl | rfl | rfl | rfl | rfl : i = 1 ∨ i = 2 ∨ i = 3 ∨ i = 4 ∨ i = 5 := by omega
  · exact lib18_1 w
  · exact lib18_2 w
  · exact lib18_3 w
  · exact lib18_4 w
  · exact lib18_5 w

theorem nm_ne : ∀ i < 6, ∀ j < i, ((nm j).toList == (nm i).toList) = false := by decide +kernel
theorem vl_ne : ∀ i < 6, ∀ j < 6, ((vl j).toList == (vl i).toList) = decide (j = i) := by decide +kernel

theorem vs_pos (V i : Nat) (h : 1 ≤ i) : vs V i = .slice none 0 0 := by
  match i, h with
  | i + 1, _ => rfl

set_option maxHeartbeats 800000 in
set_option maxRecDepth 100000 in
theorem match13 (b V : Nat) (w : World) (P : Pars w b V) (D : Vals w V) :
    Calls Trym.prog 13 #[.slice (some ⟨b, 0, none⟩) 6 6] w fun e w' => e = .returned (.bool true) ∧ Below w.heap.size w w' := by
  have HP : Hid (Pars w b V) := P
  have HD : Hid (Vals w V) := D
  clear P D
  go_enter Trym.func13, Trym.ntmps13
  go_wp2
  go_loopg [3] 6 (fun gh s wr => ∃ i : Nat, i ≤ 6 ∧ 6 - i ≤ gh ∧ s = .int .i64 i ∧ Aside (Below w.heap.size w wr))
  case atStart => exact ⟨0, by omega, by omega, rfl, Below.refl _ _⟩
  case round =>
    obtain ⟨i, hi, hg, rfl, B⟩ := hrel
    by_cases hlt : i < 6
    · obtain ⟨g0, g1, g2⟩ := (HP.out.below B.out) i hlt
      by_cases hz : 1 ≤ i
      · rw [vs_pos V i hz] at g1
        go_wp2_with fail
        refine (fld17 _ _ _ _).mono ?_
        rintro e w1 ⟨rfl, b1⟩
        have B1 : Aside (Below w.heap.size w w1) := below_on B.out b1
        clear b1 g0 g1 g2 B
        go_wp2_with fail
        refine (lib18_k i hz hlt _).mono ?_
        rintro e w2 ⟨rfl, rfl⟩
        go_wp2_with fail
        go_loopg [7] i (fun gh s wr => ∃ j : Nat, j ≤ i ∧ i - j ≤ gh ∧ s = .int .i64 j ∧ Aside (Below w.heap.size w wr))
        case atStart => exact ⟨0, by omega, by omega, rfl, B1⟩
        case round =>
          clear B1
          obtain ⟨j, hj, hgj, rfl, B⟩ := hrel
          by_cases hjl : j < i
          · obtain ⟨g0, g1, g2⟩ := (HP.out.below B.out) j (by omega)
            have hj6 : j < 6 := by omega
            have hne := nm_ne i hlt j hjl
            generalize vs V j = v at g1
            go_wp2_with fail
            refine (fld17 _ _ _ _).mono ?_
            rintro e w1 ⟨rfl, b1⟩
            have B1 : Aside (Below w.heap.size w w1) := below_on B.out b1
            clear b1 g0 g1 g2 B
            go_wp2
            go_roundg (i - (j + 1))
            case measure => omega
            case rel => exact ⟨j + 1, by omega, by omega, by go_num, B1⟩
          · obtain ⟨g0, g1, g2⟩ := (HP.out.below B.out) i hlt
            rw [vs_pos V i hz] at g1
            go_wp2_with fail
            refine (fld19 _ _ _ _).mono ?_
            rintro e w1 ⟨rfl, b1⟩
            have B1 : Aside (Below w.heap.size w w1) := below_on B.out b1
            clear b1 g0 g1 g2 B
            obtain ⟨g0, g1, g2⟩ := (HP.out.below B1.out) i hlt
            rw [vs_pos V i hz] at g1
            go_wp2_with fail
            refine (fld12 _ _ _ _ _ _).mono ?_
            rintro e w2 ⟨rfl, b1⟩
            have B2 : Aside (Below w.heap.size w w2) := below_on B1.out b1
            clear b1 g0 g1 g2 B1
            go_wp2
            go_loopg [9] 0 (fun gh s wr => s = .int .i64 0 ∧ Aside (Below w.heap.size w wr))
            case atStart => exact ⟨rfl, B2⟩
            case round =>
              obtain ⟨rfl, B⟩ := hrel
              go_wp2
              go_roundg (6 - (i + 1))
              case measure => omega
              case rel => exact ⟨i + 1, by omega, by omega, by go_num, B⟩
      · obtain rfl : i = 0 := by omega
        have e1 : vs V 0 = .slice (some ⟨V, 0, none⟩) 6 6 := rfl
        rw [e1] at g1
        clear e1
        go_wp2_with fail
        refine (fld17 _ _ _ _).mono ?_
        rintro e w1 ⟨rfl, b1⟩
        have B1 : Aside (Below w.heap.size w w1) := below_on B.out b1
        clear b1 g0 g1 g2 B
        go_wp2_with fail
        refine (lib18_0 _).mono ?_
        rintro e w2 ⟨rfl, D2, b2⟩
        have B2 : Aside (Below w.heap.size w w2) := below_on B1.out b2
        have HW : Hid (Vals w2 w1.heap.size) := D2
        clear b2 D2 B1
        generalize w1.heap.size = W at HW
        go_wp2_with fail
        go_loopg [7] 0 (fun gh s wr => s = .int .i64 0 ∧ wr = w2)
        case atStart => exact ⟨rfl, rfl⟩
        case round =>
          obtain ⟨rfl, rfl⟩ := hrel
          obtain ⟨g0, g1, g2⟩ := (HP.out.below B2.out) 0 hlt
          have e1 : vs V 0 = .slice (some ⟨V, 0, none⟩) 6 6 := rfl
          rw [e1] at g1
          clear e1
          go_wp2_with fail
          refine (fld19 _ _ _ _).mono ?_
          rintro e w3 ⟨rfl, b1⟩
          have B3 : Aside (Below w.heap.size w w3) := below_on B2.out b1
          have HW3 : Hid (Vals w3 W) := HW.out.below b1
          clear b1 g0 g1 g2 B2 HW
          obtain ⟨g0, g1, g2⟩ := (HP.out.below B3.out) 0 hlt
          have e1 : vs V 0 = .slice (some ⟨V, 0, none⟩) 6 6 := rfl
          rw [e1] at g1
          clear e1
          go_wp2_with fail
          refine (fld12 _ _ _ _ _ _).mono ?_
          rintro e w4 ⟨rfl, b1⟩
          have B4 : Aside (Below w.heap.size w w4) := below_on B3.out b1
          have HW4 : Hid (Vals w4 W) := HW3.out.below b1
          have HV4 : Hid (Vals w4 V) := HD.out.below B4.out
          clear b1 g0 g1 g2 B3 HW3
          go_wp2
          go_loopg [9] 6 (fun gh s wr => ∃ k q : Nat, k ≤ 6 ∧ 6 - k ≤ gh ∧ s = .int .i64 k ∧ wr = w4.drewN q)
          case atStart => exact ⟨0, 0, by omega, by omega, rfl, rfl⟩
          case round =>
            obtain ⟨k, q, hk, hgk, rfl, rfl⟩ := hrel
            by_cases hk6 : k < 6
            · go_wp2
              go_loopg [10, 11] 6 (fun gh c s wr => ∃ (m q : Nat) (x : Int), m ≤ 6 ∧ 6 - m ≤ gh ∧ s = .int .i64 m ∧ c = .int .i64 x ∧ 0 ≤ x ∧ x ≤ 1 ∧ Aside (x = if k < m then 1 else 0) ∧ wr = w4.drewN q)
              case atStart => exact ⟨0, q, 0, by omega, by omega, rfl, rfl, by omega, by omega, (if_neg (by omega)).symm, rfl⟩
              case round =>
                obtain ⟨m, q2, x, hm, hgm, rfl, rfl, hx0, hx1, X, rfl⟩ := hrel
                by_cases hm6 : m < 6
                · have g1 := HV4.out m hm6
                  have g2 := HW4.out k hk6
                  have hc := vl_ne k hk6 m hm6
                  by_cases hmk : m = k
                  · subst hmk
                    obtain rfl : x = 0 := by
                      have := X.out; rw [if_neg (by omega)] at this; exact this
                    have X' : Aside ((1 : Int) = if m < m + 1 then 1 else 0) := (if_pos (by omega)).symm
                    clear X hc
                    generalize vl m = y1 at g1 g2
                    go_wp2_with fail
                    go_quiet (fail)
                    go_wp2
                    go_roundg (6 - (m + 1))
                    case measure => omega
                    case rel => exact ⟨m + 1, q2 + nq, 1, by omega, by omega, by go_num, by go_num, by omega, by omega, X', by first | rfl | exact World.drewN_drewN _ _ _⟩
                  · have X' : Aside (x = if k < m + 1 then 1 else 0) := by
                      have := X.out
                      by_cases hkm : k < m
                      · rw [if_pos hkm] at this; rw [if_pos (by omega)]; exact this
                      · rw [if_neg hkm] at this; rw [if_neg (by omega)]; exact this
                    rw [decide_eq_false hmk] at hc
                    generalize vl m = y1 at g1 hc
                    generalize vl k = y2 at g2 hc
                    clear X
                    go_wp2_with fail
                    go_quiet (fail)
                    go_wp2
                    go_roundg (6 - (m + 1))
                    case measure => omega
                    case rel => exact ⟨m + 1, q2 + nq, x, by omega, by omega, by go_num, rfl, by omega, by omega, X', by first | rfl | exact World.drewN_drewN _ _ _⟩
                · obtain rfl : x = 1 := by
                    have := X.out; rw [if_pos (by omega)] at this; exact this
                  clear X
                  go_wp2
                  go_roundg (6 - (k + 1))
                  case measure => omega
                  case rel => exact ⟨k + 1, q2, by omega, by omega, by go_num, rfl⟩
            · go_wp2
              go_roundg (6 - 1)
              case measure => omega
              case rel => exact ⟨1, by omega, by omega, by go_num, below_drewN B4.out _⟩
    · go_wp2
      go_ret
      exact ⟨rfl, B.out⟩

end Go.Proofs.Qxb6601569aMods.Par
