import Derived.Test.Qxb6614923aTop
namespace Go.Proofs.Qxb6614923a
open Go.RowKit Go.Deep

set_option maxRecDepth 100000 in
set_option maxHeartbeats 4000000 in
theorem one_walk (n : Int) (h1 : -9223372036854775808 ≤ n) (h2 : n ≤ 9223372036854775807) (w : World) :
    Calls Try.prog 3 #[.int .i64 n] w fun e w' => e = .returned (.bool true) ∧ Below w.heap.size w w' := by
  by_cases hbig : n = 9223372036854775807
  · have q0 : (n == 9223372036854775807) = true := by rw [beq_iff_eq]; exact hbig
    clear hbig
    go_enter Try.func3, Try.ntmps3
    go_wp2
    go_ret
    exact ⟨rfl, Below.refl _ _⟩
  · have q0 : (n == 9223372036854775807) = false := by rw [beq_eq_false_iff_ne]; exact hbig
    have h3 : n < 9223372036854775807 := by omega
    clear hbig
    obtain ⟨g1, g2⟩ := gk_range n
    obtain ⟨g3, g4⟩ := gk_range (n + 1)
    have hnext := gk_next n
    have ZA := hide (fun w => ZZNewGroups_any n h1 h2 w)
    have SA := hide (fun b w h => share_any n b h1 h2 w h)
    have ZB := hide (fun w => ZZNewGroups_any (n + 1) (by omega) (by omega) w)
    have SB := hide (fun b w h => share_any (n + 1) b (by omega) (by omega) w h)
    have RB := hide (fun i => room_bounds (n + 1) (by omega) (by omega) i)
    generalize gk (n + 1) = k' at *
    generalize gk n = k at *
    have HNX := hide hnext
    clear hnext
    go_enter Try.func3, Try.ntmps3
    go_wp2_with fail
    refine (ZA.out w).mono ?_
    rintro e w1 ⟨a, ha, rfl, hb1, hr1⟩
    have HB1 := hide hb1
    have HR1 := hide hr1
    clear hb1 hr1
    go_wp2_with fail
    refine (ZB.out w1).mono ?_
    rintro e w2 ⟨b, hb, rfl, hb2, hr2⟩
    have HB2 := hide (HB1.out.trans (hb2.mono HB1.out.size))
    have HA2 := hide (rowIs_below HR1.out hb2)
    have HR2 := hide hr2
    clear hb2 hr2
    go_wp2_with fail
    refine (SA.out a w2 HA2.out).mono ?_
    rintro e w3 ⟨rfl, hb3⟩
    have HB3 := hide (HB2.out.trans (hb3.mono HB2.out.size))
    have HA3 := hide (rowIs_below HA2.out hb3)
    have HR3 := hide (rowIs_below HR2.out hb3)
    clear hb3
    go_wp2_with fail
    refine (SB.out b w3 HR3.out).mono ?_
    rintro e w4 ⟨rfl, hb4⟩
    have HB4 := hide (HB3.out.trans (hb4.mono HB3.out.size))
    have HA4 := hide (rowIs_below HA3.out hb4)
    have HR4 := hide (rowIs_below HR3.out hb4)
    clear hb4
    by_cases hk : k' = k
    · subst hk
      have hJ := fewer_le n k' g1
      have HAL := hide (fun i h hi => alike n k' i g1 h hi)
      have HNA := hide (not_alike n k' g1)
      have HAA := hide (all_alike n k' g1)
      have HRN := hide (fun i hi => room_next n k' i g1 hi)
      generalize fewer n k' = J at *
      generalize gains n k' = G at *
      have c0 := room_cell HA4.out (show 0 < k' by omega)
      simp only [Nat.zero_mul, Nat.zero_add] at c0
      have hk0 : (0 : Int) < (k' : Int) := by omega
      go_wp2
      go_loopw [5] (fun i wr => ∃ j : Nat, j ≤ J ∧ i = .int .i64 j ∧ ∃ q, wr = w4.drewN q) (fun i _ => J - (intOf i).toNat)
      case atStart => exact ⟨0, by omega, rfl, 0, rfl⟩
      case round =>
        obtain ⟨j, hj, rfl, q, rfl⟩ := hrel
        by_cases hlt : j < J
        · have hjk : (j : Int) < (k' : Int) := by omega
          have c1 := room_cell HA4.out (show j < k' by omega)
          rw [HAL.out j hlt (by omega)] at c1
          go_wp2
          go_quiet (fail)
          go_wp2
          go_roundw
          case rel => exact ⟨j + 1, by omega, by go_num, _, rfl⟩
          case measure => simp [intOf]; omega
        · have hjJ : j = J := by omega
          subst hjJ
          by_cases hjk : j < k'
          · obtain ⟨hne, hG⟩ := HNA.out hjk
            have HG : Hid (G = j) := hG
            have c1 := room_cell HA4.out hjk
            have qn : (room n k' j == room n k' 0) = false := by rw [beq_eq_false_iff_ne]; exact hne
            have hjk' : (j : Int) < (k' : Int) := by omega
            have ql : ((j : Int) == (k' : Int)) = false := by rw [beq_eq_false_iff_ne]; omega
            clear hne hG
            go_wp2
            go_quiet (fail)
            go_wp2
            go_loop [6] (fun i => ∃ m : Nat, m ≤ k' ∧ i = .int .i64 m) (fun i => k' - (intOf i).toNat)
            case atStart => exact ⟨0, by omega, rfl⟩
            case round =>
              obtain ⟨m, hm, rfl⟩ := hrel
              by_cases hml : m < k'
              · have c1 := room_cell HA4.out hml
                have c2 := room_cell HR4.out hml
                have hbd := RB.out m
                rw [HRN.out m hml] at c2 hbd
                by_cases hmG : m = G
                · rw [if_pos hmG] at c2 hbd
                  obtain ⟨e1, e2⟩ := hbd
                  have qm : ((m : Int) == (j : Int)) = true := by rw [beq_iff_eq]; have := HG.out; omega
                  clear hmG
                  go_wp2
                  go_round
                  case rel => exact ⟨m + 1, by omega, by go_num⟩
                  case measure => simp [intOf]; omega
                · rw [if_neg hmG, Int.add_zero] at c2 hbd
                  have qm : ((m : Int) == (j : Int)) = false := by rw [beq_eq_false_iff_ne]; have := HG.out; omega
                  clear hmG
                  go_wp2
                  go_round
                  case rel => exact ⟨m + 1, by omega, by go_num⟩
                  case measure => simp [intOf]; omega
              · go_wp2
                go_ret
                exact ⟨rfl, below_drewN HB4.out _⟩
          · have hjk2 : j = k' := by omega
            have HG : Hid (G = 0) := HAA.out hjk2
            have qd : decide ((j : Int) < (k' : Int)) = false := decide_eq_false (by omega)
            have ql : ((j : Int) == (k' : Int)) = true := by rw [beq_iff_eq]; omega
            clear hjk2
            go_wp2
            go_quiet (fail)
            go_wp2
            go_loop [6] (fun i => ∃ m : Nat, m ≤ k' ∧ i = .int .i64 m) (fun i => k' - (intOf i).toNat)
            case atStart => exact ⟨0, by omega, rfl⟩
            case round =>
              obtain ⟨m, hm, rfl⟩ := hrel
              by_cases hml : m < k'
              · have c1 := room_cell HA4.out hml
                have c2 := room_cell HR4.out hml
                have hbd := RB.out m
                rw [HRN.out m hml] at c2 hbd
                by_cases hmG : m = G
                · rw [if_pos hmG] at c2 hbd
                  obtain ⟨e1, e2⟩ := hbd
                  have qm : ((m : Int) == 0) = true := by rw [beq_iff_eq]; have := HG.out; omega
                  clear hmG
                  go_wp2
                  go_round
                  case rel => exact ⟨m + 1, by omega, by go_num⟩
                  case measure => simp [intOf]; omega
                · rw [if_neg hmG, Int.add_zero] at c2 hbd
                  have qm : ((m : Int) == 0) = false := by rw [beq_eq_false_iff_ne]; have := HG.out; omega
                  clear hmG
                  go_wp2
                  go_round
                  case rel => exact ⟨m + 1, by omega, by go_num⟩
                  case measure => simp [intOf]; omega
              · go_wp2
                go_ret
                exact ⟨rfl, below_drewN HB4.out _⟩
    · have hk2 : k' = k + 1 ∧ n + 1 = ((k : Int) + 1) * 1024 := HNX.out.resolve_left hk
      obtain ⟨hk3, hk4⟩ := hk2
      have HRF := hide (fun i => room_full (n + 1) k' i g3 (by rw [hk3]; omega))
      have qk : ((k' : Int) == (k : Int)) = false := by rw [beq_eq_false_iff_ne]; omega
      have qk2 : ((k' : Int) == (k : Int) + 1) = true := by rw [beq_iff_eq]; omega
      clear hk hk3 hk4
      go_wp2
      go_loop [8] (fun i => ∃ m : Nat, m ≤ k' ∧ i = .int .i64 m) (fun i => k' - (intOf i).toNat)
      case atStart => exact ⟨0, by omega, rfl⟩
      case round =>
        obtain ⟨m, hm, rfl⟩ := hrel
        by_cases hml : m < k'
        · have c2 := room_cell HR4.out hml
          rw [HRF.out m] at c2
          go_wp2
          go_round
          case rel => exact ⟨m + 1, by omega, by go_num⟩
          case measure => simp [intOf]; omega
        · go_wp2
          go_ret
          exact ⟨rfl, HB4.out⟩
end Go.Proofs.Qxb6614923a
