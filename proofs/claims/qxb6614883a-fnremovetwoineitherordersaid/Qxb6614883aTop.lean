import Derived.Test.Qxb6614883aShim
import Derived.OpenShut
namespace Go.Proofs.Qxb6614883a
open Go.RowKit Go.Deep

def SomeBool (e : Ending) : Prop := ∃ b, e = .returned (.bool b)

theorem bytes_any (L n : Int) (a : Option Addr) (len cap : Nat) (w : World) (hl : len ≤ maxLen) : Calls Try.prog 7 #[.int .i64 L, .slice a len cap, .int .u32 n] w fun e w' => SomeBool e ∧ w' = w := by
  unfold maxLen at hl
  by_cases h : (1048576 : Int) < (len : Int)
  · go_enter Try.func7, Try.ntmps7
    go_wp2
    go_ret
    exact ⟨⟨_, rfl⟩, rfl⟩
  · go_enter Try.func7, Try.ntmps7
    go_wp2
    go_ret
    exact ⟨⟨_, rfl⟩, rfl⟩

theorem bytes2_any (L n m : Int) (a : Option Addr) (len cap : Nat) (w : World) (hl : len ≤ maxLen) : Calls Try.prog 12 #[.int .i64 L, .slice a len cap, .int .u32 n, .int .u32 m] w fun e w' => SomeBool e ∧ w' = w := by
  unfold maxLen at hl
  by_cases h : (1048576 : Int) < (len : Int)
  · go_enter Try.func12, Try.ntmps12
    go_wp2
    go_ret
    exact ⟨⟨_, rfl⟩, rfl⟩
  · go_enter Try.func12, Try.ntmps12
    go_wp2
    go_ret
    exact ⟨⟨_, rfl⟩, rfl⟩

/-- The hashes by index. -/
theorem row_cells {w : World} {a : Option Addr} {len cap : Nat} {zs : List Int} (h : IsRow .u64 w a len cap zs) :
    len ≤ maxLen ∧ (∀ i, i < len → ∃ b o, a = some (⟨b, o, none⟩ : Addr) ∧ w.cell? ⟨b, o + i, none⟩ = some (.int .u64 (zs.getD i 0))) ∧ ∀ i, 0 ≤ zs.getD i 0 ∧ zs.getD i 0 < 18446744073709551616 := by
  rcases h with ⟨rfl, rfl, rfl, rfl⟩ | ⟨x, rfl, h1, h2, h3, h4, h5⟩
  · exact ⟨Nat.zero_le _, fun i hi => absurd hi (by omega), fun i => by simp⟩
  · refine ⟨by omega, fun i hi => ?_, fun i => ?_⟩
    · have hc := h4 i (by omega)
      have hc0 := h4 0 (by omega)
      obtain ⟨b, off, spot⟩ := x
      have hspot : spot = none := by simpa [Addr.add] using World.cell?_spot hc0
      subst hspot
      rw [Go.WideShapes.add_plain] at hc
      exact ⟨b, off, rfl, hc⟩
    · by_cases hi : i < zs.length
      · have := bounds_u64 (h5 _ (List.getElem_mem hi))
        rw [List.getD_eq_getElem?_getD, List.getElem?_eq_getElem hi]
        simp only [Option.getD_some]; omega
      · rw [List.getD_eq_getElem?_getD, List.getElem?_eq_none (by omega)]; simp

set_option maxRecDepth 100000 in
set_option maxHeartbeats 4000000 in
theorem leaves_walk (a0 : Int) (a1 : Option Addr) (len cap : Nat) (z1 : List Int) (a2 : Int) (w : World) (w0 : (Lit.int .i64 a0).wf = true) (w1 : IsRow .u64 w a1 len cap z1) (w2 : (Lit.int .u32 a2).wf = true) :
    Calls Try.prog 3 #[.int .i64 a0, .slice a1 len cap, .int .u32 a2] w fun e w' => e = .returned (.bool true) ∧ Below w.heap.size w w' := by
  obtain ⟨b1, b2⟩ := bounds_i64 w0
  obtain ⟨b3, b4⟩ := bounds_u32 w2
  obtain ⟨hlen, hcells, hrng⟩ := row_cells w1
  clear w0 w1 w2
  have hml := hlen
  unfold maxLen at hml
  obtain ⟨c, rfl⟩ := Int.eq_ofNat_of_zero_le b3
  generalize hzd : (fun i => z1.getD i 0) = hz
  have hcells' : ∀ i, i < len → ∃ b o, a1 = some (⟨b, o, none⟩ : Addr) ∧ w.cell? ⟨b, o + i, none⟩ = some (.int .u64 (hz i)) := by subst hzd; exact hcells
  have hr : ∀ i, 0 ≤ hz i ∧ hz i < 18446744073709551616 := by subst hzd; exact hrng
  clear hcells hrng hzd
  have HCE := hide hcells'
  have HR := hide hr
  clear hcells' hr
  go_enter Try.func3, Try.ntmps3
  go_wp2_with fail
  refine (bytes_any _ _ _ _ _ w hlen).mono ?_
  rintro e w' ⟨⟨b, rfl⟩, hw⟩
  have hw := hw.symm
  subst hw
  cases b with
  | false =>
    go_wp2
    go_ret
    exact ⟨rfl, Below.refl _ _⟩
  | true =>
    by_cases k1 : (4096 : Int) < (len : Int)
    · go_wp2
      go_ret
      exact ⟨rfl, Below.refl _ _⟩
    by_cases k2 : a0 < 1
    · go_wp2
      go_ret
      exact ⟨rfl, Below.refl _ _⟩
    have k2' : decide (a0 < 1) = false := decide_eq_false k2
    by_cases k3 : 16 < a0
    · go_wp2
      go_ret
      exact ⟨rfl, Below.refl _ _⟩
    have k3' : decide (16 < a0) = false := decide_eq_false k3
    obtain ⟨L, rfl⟩ := Int.eq_ofNat_of_zero_le (by omega : 0 ≤ a0)
    obtain ⟨n, hn⟩ : ∃ n, n = 2 ^ L := ⟨_, rfl⟩
    have hp : (2 : Int) ^ L = (n : Int) := by rw [hn]; simp
    have hn31 : n ≤ 65536 := by rw [hn]; exact Nat.pow_le_pow_right (n := 2) (by omega) (by omega : L ≤ 16)
    have hn0 : 1 ≤ n := by rw [hn]; exact Nat.one_le_two_pow
    have HN := hide hn
    clear hn
    by_cases k4 : 3 * (n : Int) < 4 * (len : Int)
    · go_wp2
      go_ret
      exact ⟨rfl, Below.refl _ _⟩
    by_cases k5 : len ≤ c
    · have k5' : (len : Int) ≤ (c : Int) := by omega
      go_wp2
      go_ret
      exact ⟨rfl, Below.refl _ _⟩
    go_wp2_with fail
    refine (clone_any a1 len cap hz w HCE.out (by omega)).mono ?_
    rintro e w1 ⟨rfl, hb1, hh1⟩
    have HB1 := hide hb1
    have HH1 := hide hh1
    have hz1 := hh1.lt
    clear hb1 hh1
    go_wp2_with fail
    refine (buildIndex_any L n w.heap.size len hz (-1) (-1) w1 (by omega) (by omega) HN.out (by omega) (by omega) HH1.out HR.out).mono ?_
    rintro e w2 ⟨hb2, tb, T1, htb, rfl, hS1, hI1, hf1⟩
    have HB2 := hide hb2
    have HS1 := hide hS1
    have HI1 := hide hI1
    have HF1 := hide hf1
    have hz2 := hS1.lt
    clear hb2 hS1 hI1 hf1
    go_wp2_with fail
    refine (buildIndex_any L n w.heap.size len hz c (-1) w2 (by omega) (by omega) HN.out (by omega) (by omega) (rowIs_below HH1.out HB2.out) HR.out).mono ?_
    rintro e w3 ⟨hb3, ub, T2, hub, rfl, hS2, hI2, hf2⟩
    have HB3 := hide hb3
    have HS2 := hide hS2
    have HI2 := hide hI2
    have hz3 := hS2.lt
    have hh3 : HashAt w3 w.heap.size len hz := rowIs_below (rowIs_below HH1.out HB2.out) hb3
    have HH3 := hide hh3
    have hcl : c < len := by omega
    have hcell := hh3.cell hcl
    clear hb3 hS2 hI2 hf2 hh3
    go_wp2_with fail
    refine (ZZremove_any tb n L w.heap.size len len hz T1 (fun c' => c' < len ∧ (c' : Int) ≠ -1 ∧ (c' : Int) ≠ -1) c w3 (by omega) HN.out (by omega) HH3.out HR.out (by omega) (rowIs_below HS1.out HB3.out) HI1.out (fun c' h => h.1) ⟨hcl, by omega, by omega⟩ HF1.out (by omega)).mono ?_
    rintro e w4 ⟨rfl, hO, T3, hS3, hI3, hf3⟩
    have hbel : Below w.heap.size w w4 := ((HB1.out.trans (HB2.out.mono (by omega))).trans (HB3.out.mono (by omega))).trans (hO.below (by omega) (by omega))
    have HBE := hide hbel
    have hS2' := hO.row HS2.out (by omega)
    have heq := inv_unique hn0 hI3 (inv_congr HI2.out (Q := fun c' => (c' < len ∧ (c' : Int) ≠ -1 ∧ (c' : Int) ≠ -1) ∧ c' ≠ c) (fun c' => by constructor <;> (intro h; omega)))
    have HCALL := hide (fun w' h1 h2 => sameSlots_any tb ub n T3 T2 w' h1 h2 hn31 heq)
    have HS3 := hide hS3
    have HS4 := hide hS2'
    have hcnt : ((len : Int) - 1 == (len : Int) - 1) = true := by simp
    clear hO hS3 hI3 hf3 hbel hS2' heq
    go_wp2_with fail
    refine (HCALL.out w4 HS3.out HS4.out).mono ?_
    rintro e w5 ⟨rfl, q, rfl⟩
    go_wp2
    go_ret
    exact ⟨rfl, below_drewN HBE.out _⟩
end Go.Proofs.Qxb6614883a
