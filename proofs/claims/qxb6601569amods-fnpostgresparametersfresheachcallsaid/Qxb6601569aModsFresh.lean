/-
  THE LAW 'FnPostgresParametersFreshEachCall' (5), walked.
-/
import Derived.Test.Qxb6601569aModsMatch
namespace Go.Proofs.Qxb6601569aMods.Par
open Go.RowKit

/-- While the caller writes into the first answer: the list stands at b, its value cells at V are there, whatever they hold; both may be written; nothing old has turned. -/
structure St (w : World) (b V : Nat) (wr : World) : Prop where
  pars : Pars wr b V
  vals : ∀ j, j < 6 → ∃ v, wr.cell? ⟨V, j, none⟩ = some v
  freeb : ∀ o, wr.frozen? ⟨b, o, none⟩ = false
  freeV : ∀ o, wr.frozen? ⟨V, o, none⟩ = false
  old : Below w.heap.size w wr

theorem St.below {w wr w' : World} {b V : Nat} (h : St w b V wr) (hb : Below wr.heap.size wr w') : St w b V w' := by
  have hlb := lt_of_cell (h.pars 0 (by omega)).1
  obtain ⟨v, hv⟩ := h.vals 0 (by omega)
  have hlV := lt_of_cell hv
  refine ⟨h.pars.below hb, fun j hj => ?_, fun o => ?_, fun o => ?_, h.old.trans (hb.mono h.old.size)⟩
  · obtain ⟨u, hu⟩ := h.vals j hj
    exact ⟨u, by rw [hb.cell (by exact hlV)]; exact hu⟩
  · rw [hb.frozen (by exact hlb)]; exact h.freeb o
  · rw [hb.frozen (by exact hlV)]; exact h.freeV o

theorem blk_of_cell {w : World} {b o : Nat} {v : Value} (h : w.cell? ⟨b, o, none⟩ = some v) : ∃ arr t fz, w.heap[b]? = some (.cells arr t fz) := by
  unfold World.cell? at h
  split at h
  · exact ⟨_, _, _, by assumption⟩
  · cases h

theorem heap_setCell_self {w : World} {B : Nat} {arr : Array Value} {t : TypeId} {fz : Nat × Nat} (h : w.heap[B]? = some (.cells arr t fz)) (j : Nat) (v : Value) :
    (w.setCell ⟨B, j, none⟩ v).heap[B]? = some (.cells (arr.setIfInBounds j v) t fz) := by
  simp [World.setCell, Array.getElem?_modify, h]

theorem St.setV {w wr : World} {b V : Nat} (h : St w b V wr) (hbV : ¬ b = V) (hV : w.heap.size ≤ V) (k : Nat) (u : Value) : St w b V (wr.setCell ⟨V, k, none⟩ u) := by
  have hbb : (wr.setCell ⟨V, k, none⟩ u).heap[b]? = wr.heap[b]? := Below.heap_setCell _ _ _ _ hbV
  obtain ⟨v0, hv0⟩ := h.vals 0 (by omega)
  obtain ⟨arr, t, fz, hV0⟩ := blk_of_cell hv0
  have hVV := heap_setCell_self hV0 k u
  refine ⟨fun i hi => ?_, fun j hj => ?_, fun o => ?_, fun o => ?_, h.old.setCell hV _⟩
  · obtain ⟨p0, p1, p2⟩ := h.pars i hi
    exact ⟨(World.cell?_of_block hbb).trans p0, (World.cell?_of_block hbb).trans p1, (World.cell?_of_block hbb).trans p2⟩
  · obtain ⟨v, hv⟩ := h.vals j hj
    rw [cell_blk hV0] at hv
    rw [cell_blk hVV, Array.getElem?_setIfInBounds]
    split
    · split
      · exact ⟨_, rfl⟩
      · rename_i e n
        subst e
        rw [Array.getElem?_eq_none (by omega)] at hv
        cases hv
    · exact ⟨v, hv⟩
  · exact (World.frozen?_of_block hbb).trans (h.freeb o)
  · have := h.freeV o
    simp only [World.frozen?, hV0] at this
    simp only [World.frozen?, hVV]
    exact this

set_option maxHeartbeats 800000 in
set_option maxRecDepth 100000 in
theorem walk5 (w : World) : Calls Trym.prog 5 #[] w fun e w' => e = .returned (.bool true) ∧ Below w.heap.size w w' := by
  go_enter Trym.func5, Trym.ntmps5
  go_wp2_with fail
  refine (par11 _).mono ?_
  rintro e w1 ⟨b, V, rfl, P, D, fb, fV, hb, hV, hbV, B1⟩
  have S1 : Aside (St w b V w1) := ⟨P, fun j hj => ⟨_, D j hj⟩, fb, fV, B1⟩
  clear P D fb fV B1
  go_wp2
  go_loopg [2] 6 (fun gh s wr => ∃ i : Nat, i ≤ 6 ∧ 6 - i ≤ gh ∧ s = .int .i64 i ∧ Aside (St w b V wr))
  case atStart => exact ⟨0, by omega, by omega, rfl, S1⟩
  case round =>
    clear S1
    obtain ⟨i, hi, hg, rfl, S⟩ := hrel
    by_cases hlt : i < 6
    · obtain ⟨g0, g1, g2⟩ := S.out.pars i hlt
      by_cases hz : 1 ≤ i
      · rw [vs_pos V i hz] at g1
        go_wp2_with fail
        refine (fld12 _ _ _ _ _ _).mono ?_
        rintro e w2 ⟨rfl, b1⟩
        have S2 : Aside (St w b V w2) := S.out.below b1
        clear b1 g0 g1 g2 S
        go_wp2
        go_loopg [4] 0 (fun gh s wr => s = .int .i64 0 ∧ wr = w2)
        case atStart => exact ⟨rfl, rfl⟩
        case round =>
          obtain ⟨rfl, rfl⟩ := hrel
          go_wp2
          go_roundg (6 - (i + 1))
          case measure => omega
          case rel => exact ⟨i + 1, by omega, by omega, by go_num, S2⟩
      · obtain rfl : i = 0 := by omega
        have e1 : vs V 0 = .slice (some ⟨V, 0, none⟩) 6 6 := rfl
        rw [e1] at g1
        clear e1
        go_wp2_with fail
        refine (fld12 _ _ _ _ _ _).mono ?_
        rintro e w2 ⟨rfl, b1⟩
        have S2 : Aside (St w b V w2) := S.out.below b1
        clear b1 g0 g1 g2 S
        go_wp2
        go_loopg [4] 6 (fun gh s wr => ∃ k : Nat, k ≤ 6 ∧ 6 - k ≤ gh ∧ s = .int .i64 k ∧ Aside (St w b V wr))
        case atStart => exact ⟨0, by omega, by omega, rfl, S2⟩
        case round =>
          clear S2
          obtain ⟨k, hk, hgk, rfl, S⟩ := hrel
          by_cases hk6 : k < 6
          · obtain ⟨v, g1⟩ := S.out.vals k hk6
            have g2 := S.out.freeV k
            have S3 : Aside (St w b V (wr.setCell ⟨V, k, none⟩ (.string ⟨#[]⟩))) := S.out.setV hbV hV k _
            clear S
            go_wp2
            go_roundg (6 - (k + 1))
            case measure => omega
            case rel => exact ⟨k + 1, by omega, by omega, by go_num, S3⟩
          · go_wp2
            go_roundg (6 - 1)
            case measure => omega
            case rel => exact ⟨1, by omega, by omega, by go_num, S⟩
    · have g0 : wr.cell? ⟨b, 0, none⟩ = some (.string (nm 0)) := (S.out.pars 0 (by omega)).1
      have g1 : wr.cell? ⟨b, 1, none⟩ = some (.slice (some ⟨V, 0, none⟩) 6 6) := (S.out.pars 0 (by omega)).2.1
      have g2 : wr.cell? ⟨b, 2, none⟩ = some (.bool false) := (S.out.pars 0 (by omega)).2.2
      have k0 : wr.cell? ⟨b, 15, none⟩ = some (.string (nm 5)) := (S.out.pars 5 (by omega)).1
      have k1 : wr.cell? ⟨b, 16, none⟩ = some (.slice none 0 0) := (S.out.pars 5 (by omega)).2.1
      have k2 : wr.cell? ⟨b, 17, none⟩ = some (.bool false) := (S.out.pars 5 (by omega)).2.2
      have f0 := S.out.freeb 0
      have f1 := S.out.freeb 1
      have f2 := S.out.freeb 2
      have BW : Hid (Below w.heap.size w (((wr.setCell ⟨b, 0, none⟩ (.string (nm 5))).setCell ⟨b, 1, none⟩ (.slice none 0 0)).setCell ⟨b, 2, none⟩ (.bool false))) :=
        ((S.out.old.setCell hb _).setCell hb _).setCell hb _
      clear S
      go_wp2_with fail
      refine (par11 _).mono ?_
      rintro e w2 ⟨b', V', rfl, P, D, _, _, _, _, _, B2⟩
      have HP : Hid (Pars w2 b' V') := P
      have HD : Hid (Vals w2 V') := D
      have HB : Hid (Below w.heap.size w w2) := BW.out.trans (B2.mono BW.out.size)
      clear P D B2 BW g0 g1 g2 k0 k1 k2 f0 f1 f2
      go_wp2_with fail
      refine (match13 b' V' w2 HP.out HD.out).mono ?_
      rintro e w3 ⟨rfl, B3⟩
      have HB3 : Hid (Below w.heap.size w w3) := below_on HB.out B3
      clear B3
      go_wp2
      go_ret
      exact ⟨rfl, HB3.out⟩

end Go.Proofs.Qxb6601569aMods.Par
