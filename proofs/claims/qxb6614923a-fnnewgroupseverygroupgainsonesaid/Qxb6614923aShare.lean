import Derived.Test.Qxb6614923aZZ
namespace Go.Proofs.Qxb6614923a
open Go.RowKit Go.Deep

/-- The rooms of the first j groups together. -/
def psum (n : Int) (k : Nat) : Nat → Int
  | 0 => 0
  | j + 1 => psum n k j + room n k j
theorem psum_eq (n : Int) (k : Nat) (hk : 1 ≤ k) (j : Nat) : psum n k j = (j : Int) * (n / (k : Int)) + (if (j : Int) < n % (k : Int) then (j : Int) else n % (k : Int)) := by
  have hm : 0 ≤ n % (k : Int) := Int.emod_nonneg n (by omega)
  induction j with
  | zero => simp [psum]; omega
  | succ j ih =>
    rw [psum, ih, room]
    have e : ((j + 1 : Nat) : Int) * (n / (k : Int)) = (j : Int) * (n / (k : Int)) + n / (k : Int) := by
      rw [Int.natCast_add, Int.add_mul]; simp
    rw [e]
    generalize (j : Int) * (n / (k : Int)) = x
    generalize n / (k : Int) = y
    generalize n % (k : Int) = m at *
    by_cases h1 : (j : Int) < m
    · by_cases h2 : ((j + 1 : Nat) : Int) < m
      · rw [if_pos h1, if_pos h1, if_pos h2]; omega
      · rw [if_pos h1, if_pos h1, if_neg h2]; omega
    · rw [if_neg h1, if_neg h1, if_neg (by omega)]; omega
theorem psum_all (n : Int) (k : Nat) (hk : 1 ≤ k) : psum n k k = n := by
  rw [psum_eq n k hk, if_neg (by have := Int.emod_lt_of_pos n (show (0 : Int) < (k : Int) by omega); omega)]
  exact Int.mul_ediv_add_emod n (k : Int)
theorem room_nonneg (n : Int) (k i : Nat) (hn : 0 ≤ n) : 0 ≤ room n k i := by
  have : 0 ≤ n / (k : Int) := Int.ediv_nonneg hn (by omega)
  unfold room; split <;> omega
theorem psum_mono (n : Int) (k : Nat) (hn : 0 ≤ n) (j d : Nat) : psum n k j ≤ psum n k (j + d) := by
  induction d with
  | zero => exact Int.le_refl _
  | succ d ih =>
    have := room_nonneg n k (j + d) hn
    show psum n k j ≤ psum n k (j + d) + room n k (j + d)
    omega
theorem psum_bounds (n : Int) (h1 : -9223372036854775808 ≤ n) (h2 : n ≤ 9223372036854775807) (j : Nat) (hj : j ≤ gk n) : -9223372036854775808 ≤ psum n (gk n) j ∧ psum n (gk n) j ≤ 9223372036854775807 := by
  have hg := gk_range n
  by_cases hn : 0 ≤ n
  · have a := psum_mono n (gk n) hn 0 j
    have b := psum_mono n (gk n) hn j (gk n - j)
    rw [show j + (gk n - j) = gk n by omega, psum_all n (gk n) hg.1] at b
    rw [Nat.zero_add] at a
    have : psum n (gk n) 0 = 0 := rfl
    omega
  · have hk : gk n = 1 := by
      by_cases h : 1 < gk n
      · have := (gk_lo n h).1; omega
      · omega
    have : j = 0 ∨ j = gk n := by omega
    rcases this with rfl | rfl
    · exact ⟨by show _ ≤ (0 : Int); omega, by show (0 : Int) ≤ _; omega⟩
    · rw [psum_all n (gk n) hg.1]; omega
theorem room_fall (n : Int) (k i : Nat) : room n k (i + 1) ≤ room n k i ∧ room n k i ≤ room n k (i + 1) + 1 := by
  unfold room
  generalize n / (k : Int) = y
  generalize n % (k : Int) = m
  by_cases h1 : (i : Int) < m <;> by_cases h2 : ((i + 1 : Nat) : Int) < m <;> simp only [h1, h2, if_true, if_false] <;> omega
theorem room_two (n : Int) (k i j : Nat) : room n k i - room n k j ≤ 1 ∧ -1 ≤ room n k i - room n k j := by
  unfold room; split <;> split <;> omega
theorem room_bounds (n : Int) (h1 : -9223372036854775808 ≤ n) (h2 : n ≤ 9223372036854775807) (i : Nat) : -9223372036854775808 ≤ room n (gk n) i ∧ room n (gk n) i ≤ 9223372036854775807 := by
  obtain ⟨a, b, c⟩ := quo_bounds n h1 h2
  unfold room
  split
  · have := c (by omega); omega
  · omega

set_option maxRecDepth 100000 in
set_option maxHeartbeats 4000000 in
theorem share_any (n : Int) (b : Nat) (h1 : -9223372036854775808 ≤ n) (h2 : n ≤ 9223372036854775807) (w : World) (hrow : w.rowIs b 26 (gk n * 4) (gcell n (gk n) (gk n))) :
    Calls Try.prog 6 #[.slice (some ⟨b, 0, none⟩) (gk n) (gk n), .int .i64 n] w fun e w' => e = .returned (.bool true) ∧ Below w.heap.size w w' := by
  obtain ⟨hg1, hg2⟩ := gk_range n
  have hlo := gk_lo n
  have hhi := gk_hi n
  have HPS := hide (psum_bounds n h1 h2)
  have HPA := hide (psum_all n (gk n) hg1)
  have HRB := hide (room_bounds n h1 h2)
  generalize gk n = k at *
  have d1 : decide ((k : Int) < 1) = false := decide_eq_false (by omega)
  have d2 : decide ((256 : Int) < (k : Int)) = false := decide_eq_false (by omega)
  have hcase : (∃ _ : (1 : Int) < (k : Int), (k : Int) * 1024 ≤ n) ∨ decide ((1 : Int) < (k : Int)) = false := by
    by_cases h : 1 < k
    · exact .inl ⟨by omega, (hlo h).2⟩
    · exact .inr (decide_eq_false (by omega))
  have hcase2 : (∃ _ : (k : Int) < 256, n < ((k : Int) + 1) * 1024) ∨ decide ((k : Int) < 256) = false := by
    by_cases h : k < 256
    · exact .inl ⟨by omega, hhi h⟩
    · exact .inr (decide_eq_false (by omega))
  clear hlo hhi
  have HROW := hide hrow
  have hbw := hrow.lt
  clear hrow
  rcases hcase with ⟨ha, hb⟩ | ha <;> rcases hcase2 with ⟨hc, hd⟩ | hc
  all_goals
    go_enter Try.func6, Try.ntmps6
    go_wp2
    go_loopw [6, 7] (fun s i wr => ∃ j : Nat, j ≤ k ∧ i = .int .i64 j ∧ s = .int .i64 (psum n k j) ∧ Below w.heap.size w wr) (fun _ i _ => k - (intOf i).toNat)
    case atStart => exact ⟨0, by omega, rfl, rfl, Below.refl _ _⟩
    case round =>
      obtain ⟨j, hj, rfl, rfl, hbe⟩ := hrel
      have hsz := hbe.size
      by_cases hlt : j < k
      · obtain ⟨c0, c1, c2, c3⟩ := gcell_cells (rowIs_below HROW.out hbe) hlt
        rw [if_pos hlt] at c3
        obtain ⟨p1, p2⟩ := HPS.out (j + 1) (by omega)
        have PS : Hid (psum n k (j + 1) = psum n k j + room n k j) := rfl
        rw [PS.out] at p1 p2
        obtain ⟨q1, q2⟩ := HRB.out j
        have hbw' : b < wr.heap.size := by omega
        have hcs : j = 0 ∨ ∃ j', j = j' + 1 := by
          cases j with
          | zero => exact .inl rfl
          | succ j' => exact .inr ⟨j', rfl⟩
        rcases hcs with rfl | ⟨j', rfl⟩
        · go_wp2
          go_quiet (fail)
          go_wp2
          go_roundw
          case rel => exact ⟨1, by omega, rfl, rfl, below_drewN (hbe.alloc hsz _) _⟩
          case measure => simp [intOf]; omega
        · obtain ⟨_, _, _, e3⟩ := gcell_cells (rowIs_below HROW.out hbe) (show j' < k by omega)
          rw [if_pos (show j' < k by omega)] at e3
          have hf := (room_fall n k j').1
          have hjk : (j' : Int) + 1 < (k : Int) := by omega
          have hjk' : (j' : Int) < (k : Int) := by omega
          go_wp2
          go_quiet (fail)
          go_wp2
          go_roundw
          case rel => exact ⟨j' + 1 + 1, by omega, by go_num, rfl, below_drewN (hbe.alloc hsz _) _⟩
          case measure => simp [intOf]; omega
      · have hjk : j = k := by omega
        subst hjk
        obtain ⟨j', rfl⟩ : ∃ j', j = j' + 1 := ⟨j - 1, by omega⟩
        obtain ⟨_, _, _, e0⟩ := gcell_cells (rowIs_below HROW.out hbe) (show 0 < j' + 1 by omega)
        obtain ⟨_, _, _, e3⟩ := gcell_cells (rowIs_below HROW.out hbe) (show j' < j' + 1 by omega)
        rw [if_pos (by omega)] at e0 e3
        simp only [Nat.zero_mul, Nat.zero_add] at e0
        obtain ⟨t1, t2⟩ := room_two n (j' + 1) 0 j'
        have hpe : (psum n (j' + 1) (j' + 1) == n) = true := by rw [beq_iff_eq]; exact HPA.out
        have hjk' : (j' : Int) < (j' : Int) + 1 := by omega
        have hjk0 : (0 : Int) < (j' : Int) + 1 := by omega
        go_wp2
        go_quiet (fail)
        go_wp2
        go_ret
        exact ⟨rfl, below_drewN hbe _⟩
end Go.Proofs.Qxb6614923a
