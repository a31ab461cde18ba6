import Derived.Test.Qxb6614883aRows
import Derived.WalkKit
import Derived.ProofKit
namespace Go.Proofs.Qxb6614883a
open Go.RowKit

theorem ret_int {k : IntKind} {a b : Int} (h : a = b) : Ending.returned (.int k a) = .returned (.int k b) := by rw [h]

/-- What remains of the quota. -/
def left (q u : Int) : Int := if u < q then q - u else 0

set_option maxHeartbeats 400000 in
theorem remaining_any (q a l : Int) (b : Nat) (u : Int) (hq : 0 ≤ q) (hq' : q ≤ 9223372036854775807) (hu : 0 ≤ u) (hu' : u ≤ 9223372036854775807) (w : World)
    (hc : w.cell? ⟨b, 1, none⟩ = some (.int .i64 u)) (hb : b < w.heap.size) :
    Calls Try.prog 16 #[.agg #[.int .i64 q, .int .i64 a, .int .i64 l], .pointer (some ⟨b, 0, none⟩)] w fun e w' => e = .returned (.int .i64 (left q u)) ∧ Below w.heap.size w w' := by
  by_cases h : u < q
  · have hl : left q u = q - u := by simp [left, h]
    rw [hl]
    clear hl
    go_enter Try.func16, Try.ntmps16
    go_wp2
    go_region
    all_goals go_wp2
    all_goals (go_ret; exact ⟨ret_int (by omega), ((Below.refl _ _).alloc (Nat.le_refl _) _).drew⟩)
  · have hl : left q u = 0 := by simp [left, h]
    rw [hl]
    clear hl
    go_enter Try.func16, Try.ntmps16
    go_wp2
    go_region
    all_goals go_wp2
    all_goals (go_ret; exact ⟨ret_int (by omega), ((Below.refl _ _).alloc (Nat.le_refl _) _).drew⟩)

set_option maxHeartbeats 400000 in
theorem fixed_any (q a l s u : Int) (hq : 0 ≤ q) (hq' : q ≤ 9223372036854775807) (hu : 0 ≤ u) (hu' : u ≤ 9223372036854775807) (w : World) :
    Calls Try.prog 13 #[.int .i64 q, .int .i64 a, .int .i64 l, .int .i64 s, .int .i64 u] w fun e w' => e = .returned (.int .i64 (left q u)) ∧ Below w.heap.size w w' := by
  go_enter Try.func13, Try.ntmps13
  go_wp2_with fail
  refine (remaining_any q a l w.heap.size u hq hq' hu hu' _ (by simp [go_sem]) (by simp)).mono ?_
  rintro e w' ⟨rfl, hg⟩
  have hg' : Below w.heap.size w w' := ((Below.refl w.heap.size w).alloc (Nat.le_refl _) _).trans (hg.mono (by simp))
  clear hg
  go_wp2
  go_ret
  exact ⟨rfl, hg'⟩

set_option maxHeartbeats 1000000 in
theorem countsDown_walk (q a l s u : Int) (bq : -9223372036854775808 ≤ q ∧ q ≤ 9223372036854775807) (ba : -9223372036854775808 ≤ a ∧ a ≤ 9223372036854775807) (bu : -9223372036854775808 ≤ u ∧ u ≤ 9223372036854775807) (w : World) :
    Calls Try.prog 5 #[.int .i64 q, .int .i64 a, .int .i64 l, .int .i64 s, .int .i64 u] w fun e w' => e = .returned (.bool true) ∧ Below w.heap.size w w' := by
  obtain ⟨bq1, bq2⟩ := bq
  obtain ⟨ba1, ba2⟩ := ba
  obtain ⟨bu1, bu2⟩ := bu
  by_cases c1 : q < 0
  · go_enter Try.func5, Try.ntmps5
    go_wp2
    go_ret
    exact ⟨rfl, Below.refl _ _⟩
  have d1 : decide (q < 0) = false := decide_eq_false c1
  by_cases c2 : a < q
  · go_enter Try.func5, Try.ntmps5
    go_wp2
    go_ret
    exact ⟨rfl, Below.refl _ _⟩
  have d2 : decide (a < q) = false := decide_eq_false c2
  by_cases c3 : l < 1
  · go_enter Try.func5, Try.ntmps5
    go_wp2
    go_ret
    exact ⟨rfl, Below.refl _ _⟩
  have d3 : decide (l < 1) = false := decide_eq_false c3
  by_cases c4 : u < 0
  · go_enter Try.func5, Try.ntmps5
    go_wp2
    go_ret
    exact ⟨rfl, Below.refl _ _⟩
  have d4 : decide (u < 0) = false := decide_eq_false c4
  by_cases c5 : a ≤ u
  · go_enter Try.func5, Try.ntmps5
    go_wp2
    go_ret
    exact ⟨rfl, Below.refl _ _⟩
  have d5 : decide (a ≤ u) = false := decide_eq_false c5
  by_cases c6 : u < q
  · have e1 : left q u = q - u := by simp [left, c6]
    have e2 : left q (u + 1) = q - u - 1 := by
      unfold left; split <;> omega
    have E1 : Hid (left q u = q - u) := e1
    have E2 : Hid (left q (u + 1) = q - u - 1) := e2
    clear e1 e2
    go_enter Try.func5, Try.ntmps5
    go_wp2_with fail
    refine (fixed_any q a l s u (by omega) (by omega) (by omega) (by omega) _).mono ?_
    rintro e w1 ⟨rfl, hb1⟩
    rw [E1.out]
    go_wp2_with fail
    refine (fixed_any q a l s (u + 1) (by omega) (by omega) (by omega) (by omega) _).mono ?_
    rintro e w2 ⟨rfl, hb2⟩
    rw [E2.out]
    have hb3 : Below w.heap.size w w2 := hb1.trans (hb2.mono hb1.size)
    clear hb1 hb2
    have f1 : (q - u - (q - u - 1) == 1) = true := by rw [beq_iff_eq]; omega
    have f2 : (q - u + u == q) = true := by rw [beq_iff_eq]; omega
    go_wp2
    go_ret
    exact ⟨rfl, hb3⟩
  · have E1 : Hid (left q u = 0) := by show _ = _; unfold left; split <;> omega
    have E2 : Hid (left q (u + 1) = 0) := by show _ = _; unfold left; split <;> omega
    go_enter Try.func5, Try.ntmps5
    go_wp2_with fail
    refine (fixed_any q a l s u (by omega) (by omega) (by omega) (by omega) _).mono ?_
    rintro e w1 ⟨rfl, hb1⟩
    rw [E1.out]
    go_wp2_with fail
    refine (fixed_any q a l s (u + 1) (by omega) (by omega) (by omega) (by omega) _).mono ?_
    rintro e w2 ⟨rfl, hb2⟩
    rw [E2.out]
    have hb3 : Below w.heap.size w w2 := hb1.trans (hb2.mono hb1.size)
    clear hb1 hb2
    by_cases c7 : q < u
    · go_wp2
      go_ret
      exact ⟨rfl, hb3⟩
    · have hq : q = u := by omega
      subst hq
      go_wp2
      go_ret
      exact ⟨rfl, hb3⟩

set_option maxHeartbeats 1000000 in
theorem readsOnly_walk (q a l s u a2 l2 s2 : Int) (bq : -9223372036854775808 ≤ q ∧ q ≤ 9223372036854775807) (bu : -9223372036854775808 ≤ u ∧ u ≤ 9223372036854775807) (w : World) :
    Calls Try.prog 6 #[.int .i64 q, .int .i64 a, .int .i64 l, .int .i64 s, .int .i64 u, .int .i64 a2, .int .i64 l2, .int .i64 s2] w fun e w' => e = .returned (.bool true) ∧ Below w.heap.size w w' := by
  obtain ⟨bq1, bq2⟩ := bq
  obtain ⟨bu1, bu2⟩ := bu
  by_cases c1 : q < 0
  · go_enter Try.func6, Try.ntmps6
    go_wp2
    go_ret
    exact ⟨rfl, Below.refl _ _⟩
  have d1 : decide (q < 0) = false := decide_eq_false c1
  by_cases c2 : a < q
  · go_enter Try.func6, Try.ntmps6
    go_wp2
    go_ret
    exact ⟨rfl, Below.refl _ _⟩
  have d2 : decide (a < q) = false := decide_eq_false c2
  by_cases c3 : l < 1
  · go_enter Try.func6, Try.ntmps6
    go_wp2
    go_ret
    exact ⟨rfl, Below.refl _ _⟩
  have d3 : decide (l < 1) = false := decide_eq_false c3
  by_cases c4 : a2 < q
  · go_enter Try.func6, Try.ntmps6
    go_wp2
    go_ret
    exact ⟨rfl, Below.refl _ _⟩
  have d4 : decide (a2 < q) = false := decide_eq_false c4
  by_cases c5 : l2 < 1
  · go_enter Try.func6, Try.ntmps6
    go_wp2
    go_ret
    exact ⟨rfl, Below.refl _ _⟩
  have d5 : decide (l2 < 1) = false := decide_eq_false c5
  by_cases c6 : u < 0
  · go_enter Try.func6, Try.ntmps6
    go_wp2
    go_ret
    exact ⟨rfl, Below.refl _ _⟩
  have d6 : decide (u < 0) = false := decide_eq_false c6
  by_cases c7 : a < u
  · go_enter Try.func6, Try.ntmps6
    go_wp2
    go_ret
    exact ⟨rfl, Below.refl _ _⟩
  have d7 : decide (a < u) = false := decide_eq_false c7
  by_cases c8 : a2 < u
  · go_enter Try.func6, Try.ntmps6
    go_wp2
    go_ret
    exact ⟨rfl, Below.refl _ _⟩
  have d8 : decide (a2 < u) = false := decide_eq_false c8
  have E0 : Hid (left q 0 = q) := by show _ = _; unfold left; split <;> omega
  have hl : 0 ≤ left q u ∧ left q u ≤ q := by unfold left; split <;> omega
  obtain ⟨hl1, hl2⟩ := hl
  go_enter Try.func6, Try.ntmps6
  go_wp2_with fail
  refine (fixed_any q a l s u (by omega) (by omega) (by omega) (by omega) _).mono ?_
  rintro e w1 ⟨rfl, hb1⟩
  go_wp2_with fail
  refine (fixed_any q a2 l2 s2 u (by omega) (by omega) (by omega) (by omega) _).mono ?_
  rintro e w2 ⟨rfl, hb2⟩
  go_wp2_with fail
  refine (fixed_any q a l s 0 (by omega) (by omega) (by omega) (by omega) _).mono ?_
  rintro e w3 ⟨rfl, hb3⟩
  rw [E0.out]
  generalize left q u = r at *
  have hb4 : Below w.heap.size w w3 := (hb1.trans (hb2.mono hb1.size)).trans (hb3.mono (Nat.le_trans hb1.size hb2.size))
  clear hb1 hb2 hb3
  go_wp2
  go_ret
  exact ⟨rfl, hb4⟩
end Go.Proofs.Qxb6614883a
