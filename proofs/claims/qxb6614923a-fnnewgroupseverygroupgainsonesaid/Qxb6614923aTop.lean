import Derived.Test.Qxb6614923aLaw
namespace Go.Proofs.Qxb6614923a
open Go.RowKit Go.Deep

/-- The rooms by index. -/
theorem room_cell {w : World} {b : Nat} {n : Int} {k : Nat} (h : w.rowIs b 26 (k * 4) (gcell n k k)) {i : Nat} (hi : i < k) : w.cell? ⟨b, i * 4 + 3, none⟩ = some (.int .i64 (room n k i)) := by
  have := (gcell_cells h hi).2.2.2
  rwa [if_pos hi] at this

set_option maxRecDepth 100000 in
set_option maxHeartbeats 4000000 in
theorem gain_walk (n : Int) (h1 : -9223372036854775808 ≤ n) (h2 : n ≤ 9223372036854775807) (w : World) :
    Calls Try.prog 4 #[.int .i64 n] w fun e w' => e = .returned (.bool true) ∧ Below w.heap.size w w' := by
  by_cases hbig : 9223372036854775551 < n
  · go_enter Try.func4, Try.ntmps4
    go_wp2
    go_ret
    exact ⟨rfl, Below.refl _ _⟩
  · obtain ⟨g1, g2⟩ := gk_range n
    obtain ⟨g3, g4⟩ := gk_range (n + (gk n : Int))
    obtain ⟨f1, f2⟩ := gk_gain n
    have ZA := hide (fun w => ZZNewGroups_any n h1 h2 w)
    have SA := hide (fun b w h => share_any n b h1 h2 w h)
    have ZC := hide (fun w => ZZNewGroups_any (n + (gk n : Int)) (by omega) (by omega) w)
    have SC := hide (fun b w h => share_any (n + (gk n : Int)) b (by omega) (by omega) w h)
    have RB := hide (fun i => room_bounds (n + (gk n : Int)) (by omega) (by omega) i)
    have RG := hide (fun i => room_gain n (gk n) i g1)
    generalize gk (n + (gk n : Int)) = k' at *
    generalize gk n = k at *
    go_enter Try.func4, Try.ntmps4
    go_wp2_with fail
    refine (ZA.out w).mono ?_
    rintro e w1 ⟨a, ha, rfl, hb1, hr1⟩
    go_wp2_with fail
    refine (SA.out a w1 hr1).mono ?_
    rintro e w2 ⟨rfl, hb2⟩
    have HB2 := hide (hb1.trans (hb2.mono hb1.size))
    have HA2 := hide (rowIs_below hr1 hb2)
    clear hb1 hb2 hr1
    go_wp2_with fail
    refine (ZC.out w2).mono ?_
    rintro e w3 ⟨c, hc, rfl, hb3, hr3⟩
    go_wp2_with fail
    refine (SC.out c w3 hr3).mono ?_
    rintro e w4 ⟨rfl, hb4⟩
    have HB4 := hide ((HB2.out.trans (hb3.mono HB2.out.size)).trans (hb4.mono (Nat.le_trans HB2.out.size hb3.size)))
    have HA4 := hide (rowIs_below (rowIs_below HA2.out hb3) hb4)
    have HC4 := hide (rowIs_below hr3 hb4)
    clear hb3 hb4 hr3
    have d1 : decide ((k' : Int) < (k : Int)) = false := decide_eq_false (by omega)
    have d2 : decide ((k : Int) + 1 < (k' : Int)) = false := decide_eq_false (by omega)
    by_cases hk : k' = k + 1
    · have q1 : ((k' : Int) == (k : Int) + 1) = true := by rw [beq_iff_eq]; omega
      clear hk
      go_wp2
      go_ret
      exact ⟨rfl, HB4.out⟩
    · have hkk : k' = k := by omega
      subst hkk
      have q1 : ((k' : Int) == (k' : Int) + 1) = false := by rw [beq_eq_false_iff_ne]; omega
      clear hk
      go_wp2
      go_loopw [6] (fun i wr => ∃ j : Nat, j ≤ k' ∧ i = .int .i64 j ∧ ∃ q, wr = w4.drewN q) (fun i _ => k' - (intOf i).toNat)
      case atStart => exact ⟨0, by omega, rfl, 0, rfl⟩
      case round =>
        obtain ⟨j, hj, rfl, q, rfl⟩ := hrel
        by_cases hlt : j < k'
        · have c1 := room_cell HA4.out hlt
          have c2 := room_cell HC4.out hlt
          rw [RG.out j] at c2
          have hbd := RB.out j
          rw [RG.out j] at hbd
          obtain ⟨e1, e2⟩ := hbd
          have hj0 : (j : Int) < (k' : Int) := by omega
          go_wp2
          go_quiet (fail)
          go_wp2
          go_roundw
          case rel => exact ⟨j + 1, by omega, by go_num, _, rfl⟩
          case measure => simp [intOf]; omega
        · go_wp2
          go_ret
          exact ⟨rfl, below_drewN HB4.out _⟩
end Go.Proofs.Qxb6614923a
