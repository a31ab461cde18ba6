import Derived.Test.Qxb6614923aGroups
namespace Go.Proofs.Qxb6614923a
open Go.RowKit Go.Deep

theorem gcell_four {w : World} {b : Nat} {t : TypeId} {n : Int} {k j : Nat} (h : w.rowIs b t (k * 4) (gcell n k j)) :
    ((((w.setCell ⟨b, j * 4, none⟩ (.int .i32 0)).setCell ⟨b, j * 4 + 1, none⟩ (.int .i32 0)).setCell ⟨b, j * 4 + 2, none⟩ (.int .i64 0)).setCell ⟨b, j * 4 + 3, none⟩ (.int .i64 (room n k j))).rowIs b t (k * 4) (gcell n k (j + 1)) := by
  refine ((((h.set _ _).set _ _).set _ _).set _ _).congr ?_
  intro i _
  have hc : i % 4 = 0 ∨ i % 4 = 1 ∨ i % 4 = 2 ∨ i % 4 = 3 := by omega
  by_cases e3 : i = j * 4 + 3
  · rw [if_pos e3]
    have a1 : i % 4 = 3 := by omega
    have a2 : i / 4 = j := by omega
    simp [gcell, a1, a2]
  · rw [if_neg e3]
    by_cases e2 : i = j * 4 + 2
    · rw [if_pos e2]; have a1 : i % 4 = 2 := by omega
      simp [gcell, a1]
    · rw [if_neg e2]
      by_cases e1 : i = j * 4 + 1
      · rw [if_pos e1]; have a1 : i % 4 = 1 := by omega
        simp [gcell, a1]
      · rw [if_neg e1]
        by_cases e0 : i = j * 4
        · rw [if_pos e0]; have a1 : i % 4 = 0 := by omega
          simp [gcell, a1]
        · rw [if_neg e0]
          rcases hc with e | e | e | e
          · simp [gcell, e]
          · simp [gcell, e]
          · simp [gcell, e]
          · have : (i / 4 < j + 1) = (i / 4 < j) := by apply propext; omega
            simp [gcell, e, this]

set_option maxRecDepth 100000 in
set_option maxHeartbeats 4000000 in
theorem ZZNewGroups_any (n : Int) (h1 : -9223372036854775808 ≤ n) (h2 : n ≤ 9223372036854775807) (w : World) :
    Calls Try.prog 5 #[.int .i64 n] w fun e w' => ∃ b, w.heap.size ≤ b ∧ e = .returned (.slice (some ⟨b, 0, none⟩) (gk n) (gk n)) ∧ Below w.heap.size w w' ∧ w'.rowIs b 26 (gk n * 4) (gcell n (gk n) (gk n)) := by
  obtain ⟨hg1, hg2⟩ := gk_range n
  have HC := hide (newGroups_any n h1 h2 w)
  generalize gk n = k at *
  have hmk := run_make_wide (P := Try.prog) 22 26 _ 4 24 Try.underlying22 info26 .i64 .i64 k (by omega) (by omega)
  go_enter Try.func5, Try.ntmps5
  go_wp2_with fail
  refine HC.out.mono ?_
  rintro e w1 ⟨rfl, hb1, hrow1⟩
  have HB1 := hide hb1
  have HR1 := hide hrow1
  have hlt1 := hrow1.lt
  clear hb1 hrow1
  go_wp2
  clear hmk
  go_loopw [13] (fun i wr => ∃ j : Nat, j ≤ k ∧ i = .int .i64 j ∧ Below w1.heap.size w1 wr ∧ wr.rowIs w1.heap.size 26 (k * 4) (gcell n k j)) (fun i _ => k - (intOf i).toNat)
  case atStart => exact ⟨0, by omega, rfl, (Below.refl _ _).alloc (Nat.le_refl _) _, gcell_start w1 n k 26⟩
  case round =>
    obtain ⟨j, hj, rfl, hb, hrow⟩ := hrel
    by_cases hlt : j < k
    · obtain ⟨c0, c1, c2, c3⟩ := gcell_cells (rowIs_below HR1.out hb) hlt
      rw [if_pos hlt] at c3
      obtain ⟨d0, d1, d2, d3⟩ := gcell_cells hrow hlt
      have ef := fun i => hrow.frozen i
      have HST := hide (gcell_four hrow)
      have hj0 : (j : Int) < (k : Int) := by omega
      have HBB := hide hb
      clear hrow hb
      go_wp2
      go_region
      go_wp2
      go_roundw
      case rel => exact ⟨j + 1, by omega, by go_num, ((((HBB.out.setCell (Nat.le_refl _) _).setCell (Nat.le_refl _) _).setCell (Nat.le_refl _) _).setCell (Nat.le_refl _) _).drew, HST.out⟩
      case measure => simp [intOf]; omega
    · go_wp2
      go_ret
      have : j = k := by omega
      subst this
      exact ⟨_, Nat.le_of_lt hlt1, rfl, HB1.out.trans (hb.mono HB1.out.size), hrow⟩
end Go.Proofs.Qxb6614923a
