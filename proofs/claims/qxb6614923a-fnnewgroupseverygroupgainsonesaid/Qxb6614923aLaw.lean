import Derived.Test.Qxb6614923aShare
namespace Go.Proofs.Qxb6614923a

theorem div_mod_of {n q r : Int} {k : Int} (hk : 0 < k) (e : r + k * q = n) (h0 : 0 ≤ r) (h1 : r < k) : n / k = q ∧ n % k = r := (Int.ediv_emod_unique hk).2 ⟨e, h0, h1⟩

/-! ### n and n + k -/
theorem gk_gain (n : Int) : gk n ≤ gk (n + (gk n : Int)) ∧ gk (n + (gk n : Int)) ≤ gk n + 1 := by
  obtain ⟨k, hk⟩ : ∃ k, k = gk n := ⟨_, rfl⟩
  rw [← hk]
  unfold gk at *
  split at hk
  · subst hk; split <;> (try split) <;> omega
  · split at hk
    · subst hk; split <;> (try split) <;> omega
    · split <;> (try split) <;> omega
theorem room_gain (n : Int) (k i : Nat) (hk : 1 ≤ k) : room (n + (k : Int)) k i = room n k i + 1 := by
  have hm := Int.emod_lt_of_pos n (show (0 : Int) < (k : Int) by omega)
  have h0 := Int.emod_nonneg n (show (k : Int) ≠ 0 by omega)
  have e := Int.mul_ediv_add_emod n (k : Int)
  obtain ⟨a, b⟩ := div_mod_of (n := n + (k : Int)) (q := n / (k : Int) + 1) (r := n % (k : Int)) (k := (k : Int)) (by omega) (by rw [Int.mul_add]; omega) h0 hm
  unfold room
  rw [a, b]; omega

/-! ### n and n + 1 -/
theorem gk_next (n : Int) : gk (n + 1) = gk n ∨ gk (n + 1) = gk n + 1 ∧ n + 1 = ((gk n : Int) + 1) * 1024 := by
  obtain ⟨k, hk⟩ : ∃ k, k = gk n := ⟨_, rfl⟩
  rw [← hk]
  unfold gk at *
  split at hk
  · subst hk; split <;> (try split) <;> omega
  · split at hk
    · subst hk; split <;> (try split) <;> omega
    · split <;> (try split) <;> omega
theorem room_full (n : Int) (k i : Nat) (hk : 1 ≤ k) (h : n = (k : Int) * 1024) : room n k i = 1024 := by
  obtain ⟨a, b⟩ := div_mod_of (n := n) (q := 1024) (r := 0) (k := (k : Int)) (by omega) (by omega) (by omega) (by omega)
  unfold room
  rw [a, b, if_neg (by omega)]; rfl

/-- The first group that holds fewer than the first; the number of groups where all hold alike. -/
def fewer (n : Int) (k : Nat) : Nat := if n % (k : Int) = 0 then k else (n % (k : Int)).toNat
/-- The group that gains. -/
def gains (n : Int) (k : Nat) : Nat := (n % (k : Int)).toNat
theorem fewer_le (n : Int) (k : Nat) (hk : 1 ≤ k) : fewer n k ≤ k := by
  have hm := Int.emod_lt_of_pos n (show (0 : Int) < (k : Int) by omega)
  unfold fewer; split <;> omega
theorem alike (n : Int) (k i : Nat) (_hk : 1 ≤ k) (h : i < fewer n k) (_hi : i < k) : room n k i = room n k 0 := by
  have h0 := Int.emod_nonneg n (show (k : Int) ≠ 0 by omega)
  unfold fewer at h
  unfold room
  split at h
  · rename_i e; rw [e, if_neg (by omega), if_neg (by omega)]
  · rw [if_pos (by omega), if_pos (by omega)]
theorem not_alike (n : Int) (k : Nat) (hk : 1 ≤ k) (h : fewer n k < k) : room n k (fewer n k) ≠ room n k 0 ∧ gains n k = fewer n k := by
  have h0 := Int.emod_nonneg n (show (k : Int) ≠ 0 by omega)
  unfold fewer gains at *
  split at h
  · omega
  · rename_i e
    rw [if_neg e]
    unfold room
    rw [if_neg (by omega), if_pos (by omega)]
    exact ⟨by omega, rfl⟩
theorem all_alike (n : Int) (k : Nat) (hk : 1 ≤ k) (h : fewer n k = k) : gains n k = 0 := by
  have hm := Int.emod_lt_of_pos n (show (0 : Int) < (k : Int) by omega)
  have h0 := Int.emod_nonneg n (show (k : Int) ≠ 0 by omega)
  unfold fewer gains at *
  split at h <;> omega
theorem room_next (n : Int) (k i : Nat) (hk : 1 ≤ k) (hi : i < k) : room (n + 1) k i = room n k i + (if i = gains n k then 1 else 0) := by
  have hm := Int.emod_lt_of_pos n (show (0 : Int) < (k : Int) by omega)
  have h0 := Int.emod_nonneg n (show (k : Int) ≠ 0 by omega)
  have e := Int.mul_ediv_add_emod n (k : Int)
  by_cases h : n % (k : Int) + 1 < (k : Int)
  · obtain ⟨a, b⟩ := div_mod_of (n := n + 1) (q := n / (k : Int)) (r := n % (k : Int) + 1) (k := (k : Int)) (by omega) (by omega) (by omega) h
    unfold room gains
    rw [a, b]
    generalize n / (k : Int) = y at *
    generalize n % (k : Int) = r at *
    split <;> split <;> split <;> omega
  · obtain ⟨a, b⟩ := div_mod_of (n := n + 1) (q := n / (k : Int) + 1) (r := 0) (k := (k : Int)) (by omega) (by rw [Int.mul_add]; omega) (by omega) (by omega)
    unfold room gains
    rw [a, b]
    generalize n / (k : Int) = y at *
    generalize n % (k : Int) = r at *
    split <;> split <;> split <;> omega
end Go.Proofs.Qxb6614923a
