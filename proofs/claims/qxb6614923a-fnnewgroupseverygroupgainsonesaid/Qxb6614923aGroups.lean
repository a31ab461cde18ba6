import Derived.Test.Qxb6614923aRows
import Derived.WalkKit
import Derived.ProofKit
import Derived.OpenShut
import Derived.Deep.LoopGhost
import Derived.Deep.OwnRows
import Derived.Deep.QuietTactic
import Derived.BigQuiet
import Derived.WalkSmall
namespace Go.Proofs.Qxb6614923a
open Go.RowKit Go.Deep

theorem hide {p : Prop} (h : p) : Hid p := h
theorem unhide {p : Prop} (h : Hid p) : p := h
theorem ret_int {k : IntKind} {a b : Int} (h : a = b) : Ending.returned (.int k a) = .returned (.int k b) := by rw [h]
theorem ret_bool {a b : Bool} (h : a = b) : Ending.returned (.bool a) = .returned (.bool b) := by rw [h]

/-- The number of groups. -/
def gk (n : Int) : Nat := if n < 2048 then 1 else if 262144 ≤ n then 256 else (n / 1024).toNat
theorem gk_range (n : Int) : 1 ≤ gk n ∧ gk n ≤ 256 := by unfold gk; split <;> (try split) <;> omega
theorem gk_lo (n : Int) (h : 1 < gk n) : 0 ≤ n ∧ (gk n : Int) * 1024 ≤ n := by
  unfold gk at *
  split at h
  · omega
  · split at h
    · rename_i h1 h2; rw [if_neg h1, if_pos h2]; omega
    · rename_i h1 h2; rw [if_neg h1, if_neg h2]; omega
theorem gk_hi (n : Int) (h : gk n < 256) : n < ((gk n : Int) + 1) * 1024 := by
  unfold gk at *
  split at h
  · rename_i h1; rw [if_pos h1]; omega
  · split at h
    · omega
    · rename_i h1 h2; rw [if_neg h1, if_neg h2]; omega

theorem tdiv_1024 (n : Int) : (0 ≤ n → n.tdiv 1024 = n / 1024) ∧ (n < 0 → n.tdiv 1024 ≤ 0) := by
  refine ⟨fun h => Int.tdiv_eq_ediv_of_nonneg h, fun h => ?_⟩
  have : (-n).tdiv 1024 = (-n) / 1024 := Int.tdiv_eq_ediv_of_nonneg (by omega)
  rw [Int.neg_tdiv] at this
  omega
theorem gk_big (n : Int) (h : 256 < n.tdiv 1024) : (256 : Int) = (gk n : Int) := by
  obtain ⟨a, b⟩ := tdiv_1024 n
  by_cases hn : 0 ≤ n
  · have := a hn
    unfold gk; rw [if_neg (by omega), if_pos (by omega)]; rfl
  · have := b (by omega); omega
theorem gk_one (n : Int) (h : n.tdiv 1024 < 1) : (1 : Int) = (gk n : Int) := by
  obtain ⟨a, b⟩ := tdiv_1024 n
  by_cases hn : 0 ≤ n
  · have := a hn
    unfold gk; rw [if_pos (by omega)]; rfl
  · unfold gk; rw [if_pos (by omega)]; rfl
theorem gk_mid (n : Int) (h : 1 ≤ n.tdiv 1024) (h' : n.tdiv 1024 ≤ 256) : n.tdiv 1024 = (gk n : Int) := by
  obtain ⟨a, b⟩ := tdiv_1024 n
  by_cases hn : 0 ≤ n
  · have := a hn
    unfold gk; split
    · omega
    · split <;> omega
  · have := b (by omega); omega

set_option maxHeartbeats 400000 in
theorem groupsFor_any (n : Int) (h1 : -9223372036854775808 ≤ n) (h2 : n ≤ 9223372036854775807) (w : World) :
    Calls Try.prog 8 #[.int .i64 n] w fun e w' => e = .returned (.int .i64 (gk n : Int)) ∧ w' = w := by
  go_enter Try.func8, Try.ntmps8
  go_wp2
  all_goals go_ret
  · refine ⟨ret_int (gk_big n ?_), rfl⟩
    have h : 256 < (if n.tdiv 1024 < 1 then 1 else n.tdiv 1024) := by assumption
    split at h <;> omega
  · refine ⟨ret_int (gk_one n ?_), rfl⟩
    assumption
  · refine ⟨ret_int (gk_mid n ?_ ?_), rfl⟩
    · omega
    · have h : (if n.tdiv 1024 < 1 then 1 else n.tdiv 1024) ≤ 256 := by assumption
      split at h <;> omega

/-- The room of group i. -/
def room (n : Int) (k i : Nat) : Int := n / (k : Int) + (if (i : Int) < n % (k : Int) then 1 else 0)

/-- What cell c of the groups holds, of which j are laid. -/
def gcell (n : Int) (k j c : Nat) : Value :=
  if c % 4 = 3 then .int .i64 (if c / 4 < j then room n k (c / 4) else 0) else if c % 4 = 2 then .int .i64 0 else .int .i32 0

/-- 'make([]T, n)', T of whatever cells. -/
theorem run_make_wide {P : Program} (t e : TypeId) (z : Value) (size bytes : Nat) (ht : P.underlying t = some (.slice e)) (hinfo : (P.info? e).map (fun i => (i.zero, i.size, i.bytes)) = some (some z, size, bytes))
    (kl kc : IntKind) (n : Nat) (hbytes : bytes * n ≤ 281474976710656) (h63 : n ≤ 9223372036854775807) (w : World) :
    (Instr.makeSlice t (.int kl (n : Int)) (.int kc (n : Int))).run P w = .ok (.slice (some ⟨w.heap.size, 0, none⟩) n n) (w.alloc (.cells (madeCells z.cells (n * size)) e)) := by
  obtain ⟨i, hi, hzz⟩ := Option.map_eq_some_iff.1 hinfo
  simp only [Prod.mk.injEq] at hzz
  obtain ⟨hz, hs, hb⟩ := hzz
  have hb' : (i.bytes : Int) * (n : Int) ≤ 281474976710656 := by
    rw [hb]
    have h : ((bytes * n : Nat) : Int) ≤ 281474976710656 := by omega
    rwa [Int.natCast_mul] at h
  have hr := run_make (P := P) w t e i z ht hi hz kl kc n n (by omega) (Int.le_refl _) hb' (by omega)
  simp only [Int.toNat_natCast, hs] at hr
  exact hr
theorem rowIs_made_wide (w : World) (z : Array Value) (k : Nat) (t : TypeId) : (w.alloc (.cells (madeCells z k) t)).rowIs w.heap.size t k (fun i => z[i % z.size]!) :=
  ⟨_, blk_alloc_new _ _, size_madeCells _ _, fun i hi => by simp [madeCells, hi]⟩
theorem info31 : (Try.prog.info? 31).map (fun i => (i.zero, i.size, i.bytes)) = some (some (.agg #[.int .i32 0, .int .i32 0, .int .i64 0, .int .i64 0]), 4, 24) := by kernel_rfl
theorem info26 : (Try.prog.info? 26).map (fun i => (i.zero, i.size, i.bytes)) = some (some (.agg #[.int .i32 0, .int .i32 0, .int .i64 0, .int .i64 0]), 4, 24) := by kernel_rfl
theorem cell_below {w w' : World} {a : Addr} {v : Value} (hb : Below w.heap.size w w') (h : w.cell? a = some v) : w'.cell? a = some v := (hb.cell (block_lt_of_cell h)).trans h
theorem rowIs_below {w w' : World} {b : Nat} {t : TypeId} {n : Nat} {f : Nat → Value} (h : w.rowIs b t n f) (hb : Below w.heap.size w w') : w'.rowIs b t n f := h.of_block (hb.block b h.lt)

theorem gcell_start (w : World) (n : Int) (k : Nat) (t : TypeId) : (w.alloc (.cells (madeCells #[.int .i32 0, .int .i32 0, .int .i64 0, .int .i64 0] (k * 4)) t)).rowIs w.heap.size t (k * 4) (gcell n k 0) := by
  refine (rowIs_made_wide _ _ _ _).congr ?_
  intro i _
  have : i % 4 = 0 ∨ i % 4 = 1 ∨ i % 4 = 2 ∨ i % 4 = 3 := by omega
  rcases this with e | e | e | e <;> simp [gcell, e]

/-- One room more is laid, in its own cell alone. -/
theorem gcell_room {w : World} {b : Nat} {t : TypeId} {n : Int} {k j : Nat} (h : w.rowIs b t (k * 4) (gcell n k j)) : (w.setCell ⟨b, j * 4 + 3, none⟩ (.int .i64 (room n k j))).rowIs b t (k * 4) (gcell n k (j + 1)) := by
  refine (h.set _ _).congr ?_
  intro i _
  by_cases e : i = j * 4 + 3
  · rw [if_pos e]
    have a1 : i % 4 = 3 := by omega
    have a2 : i / 4 = j := by omega
    simp [gcell, a1, a2]
  · rw [if_neg e]
    by_cases e3 : i % 4 = 3
    · have : (i / 4 < j + 1) = (i / 4 < j) := by apply propext; omega
      simp [gcell, e3, this]
    · simp [gcell, e3]

theorem gcell_room2 {w : World} {b : Nat} {t : TypeId} {n : Int} {k j : Nat} (x : Value) (h : w.rowIs b t (k * 4) (gcell n k j)) : ((w.setCell ⟨b, j * 4 + 3, none⟩ x).setCell ⟨b, j * 4 + 3, none⟩ (.int .i64 (room n k j))).rowIs b t (k * 4) (gcell n k (j + 1)) := by
  have h1 := h.set (j * 4 + 3) (.int .i64 (room n k j))
  have h2 := (h.set (j * 4 + 3) x).set (j * 4 + 3) (.int .i64 (room n k j))
  have h3 := gcell_room h
  refine h2.congr (fun i hi => ?_)
  have e1 := h1.cell hi
  have e3 := h3.cell hi
  rw [e1] at e3
  by_cases e : i = j * 4 + 3
  · rw [if_pos e] at e3 ⊢; exact Option.some.inj e3
  · rw [if_neg e] at e3
    rw [if_neg e, if_neg e]; exact Option.some.inj e3

theorem quo_bounds (n : Int) (h1 : -9223372036854775808 ≤ n) (h2 : n ≤ 9223372036854775807) : -9223372036854775808 ≤ n / (gk n : Int) ∧ n / (gk n : Int) ≤ 9223372036854775807 ∧ (0 < n % (gk n : Int) → n / (gk n : Int) + 1 ≤ 9223372036854775807) := by
  by_cases h : 1 < gk n
  · have hn := (gk_lo n h).1
    have hle := Int.ediv_le_self (gk n : Int) hn
    have hge : 0 ≤ n / (gk n : Int) := Int.ediv_nonneg hn (by omega)
    refine ⟨by omega, by omega, fun hm => ?_⟩
    have e := Int.mul_ediv_add_emod n (gk n : Int)
    have hk2 : 2 * (n / (gk n : Int)) ≤ (gk n : Int) * (n / (gk n : Int)) := Int.mul_le_mul_of_nonneg_right (by omega) hge
    omega
  · have := (gk_range n).1
    have e : gk n = 1 := by omega
    rw [e]; simp; omega

theorem gcell_cells {w : World} {b : Nat} {t : TypeId} {n : Int} {k j : Nat} (h : w.rowIs b t (k * 4) (gcell n k j)) {i : Nat} (hi : i < k) :
    w.cell? ⟨b, i * 4, none⟩ = some (.int .i32 0) ∧ w.cell? ⟨b, i * 4 + 1, none⟩ = some (.int .i32 0) ∧ w.cell? ⟨b, i * 4 + 2, none⟩ = some (.int .i64 0) ∧ w.cell? ⟨b, i * 4 + 3, none⟩ = some (.int .i64 (if i < j then room n k i else 0)) := by
  have h0 := h.cell (i := i * 4) (by omega)
  have h1 := h.cell (i := i * 4 + 1) (by omega)
  have h2 := h.cell (i := i * 4 + 2) (by omega)
  have h3 := h.cell (i := i * 4 + 3) (by omega)
  have e0 : i * 4 % 4 = 0 := by omega
  have e1 : (i * 4 + 1) % 4 = 1 := by omega
  have e2 : (i * 4 + 2) % 4 = 2 := by omega
  have e3 : (i * 4 + 3) % 4 = 3 := by omega
  have d3 : (i * 4 + 3) / 4 = i := by omega
  simp only [gcell, e0, e1, e2, e3, d3] at h0 h1 h2 h3
  exact ⟨by simpa using h0, by simpa using h1, by simpa using h2, by simpa using h3⟩

/-- Go's quotient and remainder by the number of groups are the floor's. -/
theorem quo_gk (n : Int) : n.tdiv (gk n : Int) = n / (gk n : Int) ∧ n.tmod (gk n : Int) = n % (gk n : Int) := by
  by_cases h : 1 < gk n
  · have := (gk_lo n h).1
    exact ⟨Int.tdiv_eq_ediv_of_nonneg this, Int.tmod_eq_emod_of_nonneg this⟩
  · have := (gk_range n).1
    have e : gk n = 1 := by omega
    rw [e]; simp

set_option maxHeartbeats 2000000 in
theorem newGroups_any (n : Int) (h1 : -9223372036854775808 ≤ n) (h2 : n ≤ 9223372036854775807) (w : World) :
    Calls Try.prog 7 #[.int .i64 n] w fun e w' => e = .returned (.slice (some ⟨w.heap.size, 0, none⟩) (gk n) (gk n)) ∧ Below w.heap.size w w' ∧ w'.rowIs w.heap.size 31 (gk n * 4) (gcell n (gk n) (gk n)) := by
  have hg := gk_range n
  obtain ⟨hq1, hq2⟩ := quo_gk n
  obtain ⟨hb1, hb2, hb3⟩ := quo_bounds n h1 h2
  obtain ⟨k, hk⟩ : ∃ k, k = gk n := ⟨_, rfl⟩
  rw [← hk] at hg hq1 hq2 hb1 hb2 hb3
  obtain ⟨hg1, hg2⟩ := hg
  have HK := hide hk
  have hmk := run_make_wide (P := Try.prog) 28 31 _ 4 24 Try.underlying28 info31 .i64 .i64 k (by omega) (by omega)
  have hcall := groupsFor_any n h1 h2 w
  rw [← hk] at hcall
  rw [← hk]
  have HC := hide hcall
  clear hk hcall
  go_enter Try.func7, Try.ntmps7
  go_wp2_with fail
  refine HC.out.mono ?_
  rintro e w' ⟨rfl, hw⟩
  have hw := hw.symm
  subst hw
  go_wp2
  clear hmk
  go_loopw [10] (fun i wr => ∃ j : Nat, j ≤ k ∧ i = .int .i64 j ∧ Below w.heap.size w wr ∧ wr.rowIs w.heap.size 31 (k * 4) (gcell n k j)) (fun i _ => k - (intOf i).toNat)
  case atStart => exact ⟨0, by omega, rfl, (Below.refl _ _).alloc (Nat.le_refl _) _, gcell_start w n k 31⟩
  case round =>
    obtain ⟨j, hj, rfl, hb, hrow⟩ := hrel
    by_cases hlt : j < k
    · obtain ⟨c0, c1, c2, c3⟩ := gcell_cells hrow hlt
      have ef := fun i => hrow.frozen i
      have HST := hide (gcell_room hrow)
      have HST2 := hide (gcell_room2 (.int .i64 (n / (k : Int))) hrow)
      have hj0 : ((k : Int) == 0) = false := beq_eq_false_iff_ne.2 (by omega)
      clear hrow c0 c1 c2
      by_cases hjm : (j : Int) < n % (k : Int)
      · have hb4 := hb3 (by omega)
        have hroom : room n k j = n / (k : Int) + 1 := by simp [room, hjm]
        rw [hroom] at HST2
        clear HST hroom hb3
        go_wp2
        go_roundw
        case rel => exact ⟨j + 1, by omega, by go_num, (hb.setCell (Nat.le_refl _) _).setCell (Nat.le_refl _) _, HST2.out⟩
        case measure => simp [intOf]; omega
      · have hroom : room n k j = n / (k : Int) := by simp [room, hjm]
        rw [hroom] at HST
        clear HST2 hroom hb3
        go_wp2
        go_roundw
        case rel => exact ⟨j + 1, by omega, by go_num, hb.setCell (Nat.le_refl _) _, HST.out⟩
        case measure => simp [intOf]; omega
    · go_wp2
      go_ret
      have : j = k := by omega
      subst this
      exact ⟨rfl, hb, hrow⟩
end Go.Proofs.Qxb6614923a
