import Derived.Test.Qxb6614883aTop
namespace Go.Proofs.Qxb6614883a
open Go.RowKit Go.Deep

set_option maxRecDepth 100000 in
set_option maxHeartbeats 4000000 in
theorem two_walk (a0 : Int) (a1 : Option Addr) (len cap : Nat) (z1 : List Int) (a2 a3 : Int) (w : World) (w0 : (Lit.int .i64 a0).wf = true) (w1 : IsRow .u64 w a1 len cap z1) (w2 : (Lit.int .u32 a2).wf = true) (w3 : (Lit.int .u32 a3).wf = true) :
    Calls Try.prog 4 #[.int .i64 a0, .slice a1 len cap, .int .u32 a2, .int .u32 a3] w fun e w' => e = .returned (.bool true) ∧ Below w.heap.size w w' := by
  obtain ⟨b1, b2⟩ := bounds_i64 w0
  obtain ⟨b3, b4⟩ := bounds_u32 w2
  obtain ⟨b5, b6⟩ := bounds_u32 w3
  obtain ⟨hlen, hcells, hrng⟩ := row_cells w1
  clear w0 w1 w2 w3
  have hml := hlen
  unfold maxLen at hml
  obtain ⟨c, rfl⟩ := Int.eq_ofNat_of_zero_le b3
  obtain ⟨d, rfl⟩ := Int.eq_ofNat_of_zero_le b5
  generalize hzd : (fun i => z1.getD i 0) = hz
  have hcells' : ∀ i, i < len → ∃ b o, a1 = some (⟨b, o, none⟩ : Addr) ∧ w.cell? ⟨b, o + i, none⟩ = some (.int .u64 (hz i)) := by subst hzd; exact hcells
  have hr : ∀ i, 0 ≤ hz i ∧ hz i < 18446744073709551616 := by subst hzd; exact hrng
  clear hcells hrng hzd
  have HCE := hide hcells'
  have HR := hide hr
  clear hcells' hr
  go_enter Try.func4, Try.ntmps4
  go_wp2_with fail
  refine (bytes2_any _ _ _ _ _ _ w hlen).mono ?_
  rintro e w' ⟨⟨b, rfl⟩, hw⟩
  have hw := hw.symm
  subst hw
  cases b with
  | false =>
    go_wp2
    go_ret
    exact ⟨rfl, Below.refl _ _⟩
  | true =>
    by_cases k1 : (4096 : Int) < (len : Int)
    · go_wp2
      go_ret
      exact ⟨rfl, Below.refl _ _⟩
    by_cases k2 : a0 < 1
    · go_wp2
      go_ret
      exact ⟨rfl, Below.refl _ _⟩
    have k2' : decide (a0 < 1) = false := decide_eq_false k2
    by_cases k3 : 16 < a0
    · go_wp2
      go_ret
      exact ⟨rfl, Below.refl _ _⟩
    have k3' : decide (16 < a0) = false := decide_eq_false k3
    obtain ⟨L, rfl⟩ := Int.eq_ofNat_of_zero_le (by omega : 0 ≤ a0)
    obtain ⟨n, hn⟩ : ∃ n, n = 2 ^ L := ⟨_, rfl⟩
    have hp : (2 : Int) ^ L = (n : Int) := by rw [hn]; simp
    have hn31 : n ≤ 65536 := by rw [hn]; exact Nat.pow_le_pow_right (n := 2) (by omega) (by omega : L ≤ 16)
    have hn0 : 1 ≤ n := by rw [hn]; exact Nat.one_le_two_pow
    have HN := hide hn
    clear hn
    by_cases k4 : 3 * (n : Int) < 4 * (len : Int)
    · go_wp2
      go_ret
      exact ⟨rfl, Below.refl _ _⟩
    by_cases k5 : len ≤ c
    · have k5' : (len : Int) ≤ (c : Int) := by omega
      go_wp2
      go_ret
      exact ⟨rfl, Below.refl _ _⟩
    have k5' : decide ((len : Int) ≤ (c : Int)) = false := decide_eq_false (by omega)
    by_cases k6 : len ≤ d
    · have k6' : (len : Int) ≤ (d : Int) := by omega
      go_wp2
      go_ret
      exact ⟨rfl, Below.refl _ _⟩
    have k6' : decide ((len : Int) ≤ (d : Int)) = false := decide_eq_false (by omega)
    by_cases k7 : c = d
    · have k7' : ((c : Int) == (d : Int)) = true := by simp [k7]
      clear k7
      go_wp2
      go_ret
      exact ⟨rfl, Below.refl _ _⟩
    have k7' : ((c : Int) == (d : Int)) = false := by rw [beq_eq_false_iff_ne]; omega
    have hcl : c < len := by omega
    have hdl : d < len := by omega
    go_wp2_with fail
    refine (clone_any a1 len cap hz w HCE.out (by omega)).mono ?_
    rintro e w1 ⟨rfl, hb1, hh1⟩
    have HB1 := hide hb1
    have HH1 := hide hh1
    have hz1 := hh1.lt
    clear hb1 hh1
    go_wp2_with fail
    refine (buildIndex_any L n w.heap.size len hz c d w1 (by omega) (by omega) HN.out (by omega) (by omega) HH1.out HR.out).mono ?_
    rintro e w2 ⟨hb2, ub, T2, hub, rfl, hS2, hI2, hf2⟩
    have HB2 := hide hb2
    have HS2 := hide hS2
    have HI2 := hide hI2
    have hz2 := hS2.lt
    clear hb2 hS2 hI2 hf2
    go_wp2_with fail
    refine (buildIndex_any L n w.heap.size len hz (-1) (-1) w2 (by omega) (by omega) HN.out (by omega) (by omega) (rowIs_below HH1.out HB2.out) HR.out).mono ?_
    rintro e w3 ⟨hb3, tb, T1, htb, rfl, hS1, hI1, hf1⟩
    have HB3 := hide hb3
    have HS1 := hide hS1
    have HI1 := hide hI1
    have HF1 := hide hf1
    have hz3 := hS1.lt
    have hh3 : HashAt w3 w.heap.size len hz := rowIs_below (rowIs_below HH1.out HB2.out) hb3
    have HH3 := hide hh3
    have hcell := hh3.cell hcl
    have HU3 := hide (rowIs_below HS2.out hb3)
    clear hb3 hS1 hI1 hf1 hh3
    go_wp2_with fail
    refine (ZZremove_any tb n L w.heap.size len len hz T1 (fun c' => c' < len ∧ (c' : Int) ≠ -1 ∧ (c' : Int) ≠ -1) c w3 (by omega) HN.out (by omega) HH3.out HR.out (by omega) HS1.out HI1.out (fun c' h => h.1) ⟨hcl, by omega, by omega⟩ HF1.out (by omega)).mono ?_
    rintro e w4 ⟨rfl, hO4, T3, hS3, hI3, hf3⟩
    have HO4 := hide hO4
    have HS3 := hide hS3
    have HI3 := hide hI3
    have HF3 := hide hf3
    have HU4 := hide (hO4.row HU3.out (by omega))
    have hh4 : HashAt w4 w.heap.size len hz := hO4.row HH3.out (by omega)
    have HH4 := hide hh4
    have hcell4 := hh4.cell hdl
    have hz4 := hO4.size
    clear hO4 hS3 hI3 hf3 hh4 hcell
    go_wp2_with fail
    refine (ZZremove_any tb n L w.heap.size len ((len : Int) - 1) hz T3 _ d w4 (by omega) HN.out (by omega) HH4.out HR.out (by omega) HS3.out HI3.out (fun c' h => h.1.1) ⟨⟨hdl, by omega, by omega⟩, by omega⟩ HF3.out (by omega)).mono ?_
    rintro e w5 ⟨rfl, hO5, T4, hS4, hI4, hf4⟩
    have HO5 := hide hO5
    have HS4 := hide hS4
    have HI4 := hide hI4
    have HU5 := hide (hO5.row HU4.out (by omega))
    have hh5 : HashAt w5 w.heap.size len hz := hO5.row HH4.out (by omega)
    have HH5 := hide hh5
    have hz5 := hO5.size
    clear hO5 hS4 hI4 hf4 hh5 hcell4
    go_wp2_with fail
    refine (buildIndex_any L n w.heap.size len hz (-1) (-1) w5 (by omega) (by omega) HN.out (by omega) (by omega) HH5.out HR.out).mono ?_
    rintro e w6 ⟨hb6, vb, T5, hvb, rfl, hS5, hI5, hf5⟩
    have HB6 := hide hb6
    have HS5 := hide hS5
    have HI5 := hide hI5
    have HF5 := hide hf5
    have hz6 := hS5.lt
    have hh6 : HashAt w6 w.heap.size len hz := rowIs_below HH5.out hb6
    have HH6 := hide hh6
    have hcell6 := hh6.cell hdl
    have HU6 := hide (rowIs_below HU5.out hb6)
    have HT6 := hide (rowIs_below HS4.out hb6)
    have hz6' := hb6.size
    clear hb6 hS5 hI5 hf5 hh6
    go_wp2_with fail
    refine (ZZremove_any vb n L w.heap.size len len hz T5 (fun c' => c' < len ∧ (c' : Int) ≠ -1 ∧ (c' : Int) ≠ -1) d w6 (by omega) HN.out (by omega) HH6.out HR.out (by omega) HS5.out HI5.out (fun c' h => h.1) ⟨hdl, by omega, by omega⟩ HF5.out (by omega)).mono ?_
    rintro e w7 ⟨rfl, hO7, T6, hS6, hI6, hf6⟩
    have HO7 := hide hO7
    have HS6 := hide hS6
    have HI6 := hide hI6
    have HF6 := hide hf6
    have HU7 := hide (hO7.row HU6.out (by omega))
    have HT7 := hide (hO7.row HT6.out (by omega))
    have hh7 : HashAt w7 w.heap.size len hz := hO7.row HH6.out (by omega)
    have HH7 := hide hh7
    have hcell7 := hh7.cell hcl
    have hz7 := hO7.size
    clear hO7 hS6 hI6 hf6 hh7 hcell6
    go_wp2_with fail
    refine (ZZremove_any vb n L w.heap.size len ((len : Int) - 1) hz T6 _ c w7 (by omega) HN.out (by omega) HH7.out HR.out (by omega) HS6.out HI6.out (fun c' h => h.1.1) ⟨⟨hcl, by omega, by omega⟩, by omega⟩ HF6.out (by omega)).mono ?_
    rintro e w8 ⟨rfl, hO8, T7, hS7, hI7, hf7⟩
    have HU8 := hide (hO8.row HU7.out (by omega))
    have HT8 := hide (hO8.row HT7.out (by omega))
    have HS7 := hide hS7
    have hbel : Below w.heap.size w w8 := (((((((HB1.out.trans (HB2.out.mono (by omega))).trans (HB3.out.mono (by omega))).trans (HO4.out.below (by omega) (by omega))).trans (HO5.out.below (by omega) (by omega))).trans (HB6.out.mono (by omega))).trans (HO7.out.below (by omega) (by omega))).trans (hO8.below (by omega) (by omega)))
    have HBE := hide hbel
    have heq1 := inv_unique hn0 HI4.out (inv_congr HI2.out (Q := fun c' => ((c' < len ∧ (c' : Int) ≠ -1 ∧ (c' : Int) ≠ -1) ∧ c' ≠ c) ∧ c' ≠ d) (fun c' => by constructor <;> (intro h; omega)))
    have heq2 := inv_unique hn0 hI7 (inv_congr HI2.out (Q := fun c' => ((c' < len ∧ (c' : Int) ≠ -1 ∧ (c' : Int) ≠ -1) ∧ c' ≠ d) ∧ c' ≠ c) (fun c' => by constructor <;> (intro h; omega)))
    have HC1 := hide (fun w' h1 h2 => sameSlots_any tb ub n T4 T2 w' h1 h2 hn31 heq1)
    have HC2 := hide (fun w' h1 h2 => sameSlots_any vb ub n T7 T2 w' h1 h2 hn31 heq2)
    have hcnt : ((len : Int) - 1 - 1 == (len : Int) - 2) = true := by rw [beq_iff_eq]; omega
    clear hO8 hS7 hI7 hf7 hbel heq1 heq2 hcell7
    go_wp2_with fail
    refine (HC1.out w8 HT8.out HU8.out).mono ?_
    rintro e w9 ⟨rfl, q, rfl⟩
    go_wp2_with fail
    refine (HC2.out (w8.drewN q) HS7.out HU8.out).mono ?_
    rintro e w10 ⟨rfl, q', rfl⟩
    go_wp2
    go_ret
    exact ⟨rfl, below_drewN HBE.out _⟩
end Go.Proofs.Qxb6614883a
