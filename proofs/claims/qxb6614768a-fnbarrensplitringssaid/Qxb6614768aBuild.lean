import Derived.Test.Qxb6614768aBarren
namespace Go.Proofs.Qxb6614768a
open Go.RowKit Go.Deep

set_option maxHeartbeats 400000 in
theorem newSearch_any (leaver : ByteArray) (rv dv tv : Value) (depth : Int) (w : World) (h1 : ∃ a n c, rv = .slice a n c) (h2 : ∃ a n c, dv = .slice a n c) (h3 : ∃ a n c, tv = .slice a n c) :
    Calls Try.prog 16 #[.string leaver, rv, dv, .int .i64 depth, tv] w fun e w' => e = .returned (.pointer (some ⟨w.heap.size, 0, none⟩)) ∧
      ∃ c, w' = w.alloc (.cells c 65) ∧ c[0]? = some tv ∧ c[4]? = some (.string leaver) ∧ c[6]? = some rv ∧ c[8]? = some dv ∧ c[9]? = some (.int .i64 depth) := by
  obtain ⟨a1, n1, c1, rfl⟩ := h1
  obtain ⟨a2, n2, c2, rfl⟩ := h2
  obtain ⟨a3, n3, c3, rfl⟩ := h3
  go_enter Try.func16, Try.ntmps16
  go_wp2
  go_ret
  exact ⟨rfl, _, rfl, rfl, rfl, rfl, rfl, rfl⟩

/-- One ring as it came in: five cells. -/
def RingAt (w : World) (b o : Nat) (r : RingD) : Prop :=
  ∃ na nc ka kc, w.cell? ⟨b, o, none⟩ = some (.slice na r.names.length nc) ∧ w.cell? ⟨b, o + 1, none⟩ = some (.string r.gw) ∧ w.cell? ⟨b, o + 2, none⟩ = some (.string r.cl) ∧
    w.cell? ⟨b, o + 3, none⟩ = some (.slice ka r.kids.length kc) ∧ w.cell? ⟨b, o + 4, none⟩ = some (.int .i64 r.depth) ∧ StrsAt w na r.names ∧ StrsAt w ka r.kids
def RingsAt (w : World) (a : Option Addr) (rs : List RingD) : Prop :=
  ∀ k, (h : k < rs.length) → ∃ b o, a = some ⟨b, o, none⟩ ∧ RingAt w b (o + k * 5) rs[k]
theorem RingAt.below {w w' : World} {b o : Nat} {r : RingD} (h : RingAt w b o r) (hb : Below w.heap.size w w') : RingAt w' b o r := by
  obtain ⟨na, nc, ka, kc, h0, h1, h2, h3, h4, h5, h6⟩ := h
  exact ⟨na, nc, ka, kc, cell_below hb h0, cell_below hb h1, cell_below hb h2, cell_below hb h3, cell_below hb h4, h5.below hb, h6.below hb⟩
theorem RingsAt.below {w w' : World} {a : Option Addr} {rs : List RingD} (h : RingsAt w a rs) (hb : Below w.heap.size w w') : RingsAt w' a rs := by
  intro k hk
  obtain ⟨b, o, e, hr⟩ := h k hk
  exact ⟨b, o, e, hr.below hb⟩

theorem info54 : (Try.prog.info? 54).map (fun i => (i.zero, i.size, i.bytes)) = some (some (.agg #[.string ByteArray.empty, .int .i64 0, .int .u64 0, .string ByteArray.empty, .string ByteArray.empty, .string ByteArray.empty, .string ByteArray.empty, .string ByteArray.empty, .slice none 0 0, .slice none 0 0]), 10, 160) := by kernel_rfl
theorem info3 : (Try.prog.info? 3).map (fun i => (i.zero, i.size, i.bytes)) = some (some (.int .i64 0), 1, 8) := by kernel_rfl
theorem info43 : (Try.prog.info? 43).map (fun i => (i.zero, i.size, i.bytes)) = some (some (.agg #[.string ByteArray.empty, .int .i64 0]), 2, 24) := by kernel_rfl
theorem info47 : (Try.prog.info? 47).map (fun i => (i.zero, i.size, i.bytes)) = some (some (.agg #[.string ByteArray.empty, .string ByteArray.empty, .string ByteArray.empty, .int .i64 0]), 4, 56) := by kernel_rfl

/-- The entries of which j are laid. -/
def entCell (ns : List ByteArray) (j i : Nat) : Value := if i % 2 = 0 then .string (if i / 2 < j then ns.getD (i / 2) ByteArray.empty else ByteArray.empty) else .int .i64 0
def kidCell (cs : List ByteArray) (j i : Nat) : Value := if i % 4 = 1 then .string (if i / 4 < j then cs.getD (i / 4) ByteArray.empty else ByteArray.empty) else if i % 4 = 3 then .int .i64 0 else .string ByteArray.empty

theorem ents_of_row {w : World} {b : Nat} {ns : List ByteArray} (h : w.rowIs b 43 (ns.length * 2) (entCell ns ns.length)) : EntsAt w b ns := by
  intro k hk
  have h0 := h.cell (i := k * 2) (by omega)
  have h1 := h.cell (i := k * 2 + 1) (by omega)
  have e0 : k * 2 % 2 = 0 := by omega
  have e1 : (k * 2 + 1) % 2 = 1 := by omega
  have d0 : k * 2 / 2 = k := by omega
  simp only [entCell, e0, e1, d0, hk, if_true] at h0 h1
  refine ⟨by rw [h0]; simp [hk], by simpa using h1⟩

theorem kids_of_row {w : World} {b : Nat} {cs : List ByteArray} (h : w.rowIs b 47 (cs.length * 4) (kidCell cs cs.length)) : KidsAt w b cs := by
  intro k hk
  have h0 := h.cell (i := k * 4) (by omega)
  have h1 := h.cell (i := k * 4 + 1) (by omega)
  have h2 := h.cell (i := k * 4 + 2) (by omega)
  have h3 := h.cell (i := k * 4 + 3) (by omega)
  have e0 : k * 4 % 4 = 0 := by omega
  have e1 : (k * 4 + 1) % 4 = 1 := by omega
  have e2 : (k * 4 + 2) % 4 = 2 := by omega
  have e3 : (k * 4 + 3) % 4 = 3 := by omega
  have d0 : (k * 4 + 1) / 4 = k := by omega
  simp only [kidCell, e0, e1, e2, e3, d0, hk, if_true] at h0 h1 h2 h3
  exact ⟨by simpa using h0, by rw [h1]; simp [hk], by simpa using h2, by simpa using h3⟩

theorem ents_start (w : World) (ns : List ByteArray) (m : Nat) : (w.alloc (.cells (madeCells #[.string ByteArray.empty, .int .i64 0] (m * 2)) 43)).rowIs w.heap.size 43 (m * 2) (entCell ns 0) := by
  refine (rowIs_made_wide _ _ _ _).congr ?_
  intro i _
  have : i % 2 = 0 ∨ i % 2 = 1 := by omega
  rcases this with e | e <;> simp [entCell, e]

theorem kids_start (w : World) (cs : List ByteArray) (m : Nat) : (w.alloc (.cells (madeCells #[.string ByteArray.empty, .string ByteArray.empty, .string ByteArray.empty, .int .i64 0] (m * 4)) 47)).rowIs w.heap.size 47 (m * 4) (kidCell cs 0) := by
  refine (rowIs_made_wide _ _ _ _).congr ?_
  intro i _
  have : i % 4 = 0 ∨ i % 4 = 1 ∨ i % 4 = 2 ∨ i % 4 = 3 := by omega
  rcases this with e | e | e | e <;> simp [kidCell, e]

theorem ents_step {w : World} {b m : Nat} {ns : List ByteArray} {j : Nat} (h : w.rowIs b 43 (m * 2) (entCell ns j)) (hj : j < ns.length) :
    ((w.setCell ⟨b, j * 2, none⟩ (.string ns[j])).setCell ⟨b, j * 2 + 1, none⟩ (.int .i64 0)).rowIs b 43 (m * 2) (entCell ns (j + 1)) := by
  refine ((h.set _ _).set _ _).congr ?_
  intro i _
  have hc : i % 2 = 0 ∨ i % 2 = 1 := by omega
  by_cases e1 : i = j * 2 + 1
  · rw [if_pos e1]; have : i % 2 = 1 := by omega
    simp [entCell, this]
  · rw [if_neg e1]
    by_cases e2 : i = j * 2
    · rw [if_pos e2]
      have a1 : i % 2 = 0 := by omega
      have a2 : i / 2 = j := by omega
      simp [entCell, a1, a2, hj]
    · rw [if_neg e2]
      rcases hc with e | e
      · have : (i / 2 < j + 1) = (i / 2 < j) := by apply propext; omega
        simp [entCell, e, this]
      · simp [entCell, e]

theorem kids_step {w : World} {b m : Nat} {cs : List ByteArray} {j : Nat} (h : w.rowIs b 47 (m * 4) (kidCell cs j)) (hj : j < cs.length) :
    ((((w.setCell ⟨b, j * 4, none⟩ (.string ByteArray.empty)).setCell ⟨b, j * 4 + 1, none⟩ (.string cs[j])).setCell ⟨b, j * 4 + 2, none⟩ (.string ByteArray.empty)).setCell ⟨b, j * 4 + 3, none⟩ (.int .i64 0)).rowIs b 47 (m * 4) (kidCell cs (j + 1)) := by
  refine ((((h.set _ _).set _ _).set _ _).set _ _).congr ?_
  intro i _
  have hc : i % 4 = 0 ∨ i % 4 = 1 ∨ i % 4 = 2 ∨ i % 4 = 3 := by omega
  by_cases e1 : i = j * 4 + 3
  · rw [if_pos e1]; have : i % 4 = 3 := by omega
    simp [kidCell, this]
  · rw [if_neg e1]
    by_cases e2 : i = j * 4 + 2
    · rw [if_pos e2]
      have a1 : i % 4 = 2 := by omega
      simp [kidCell, a1]
    · rw [if_neg e2]
      by_cases e3 : i = j * 4 + 1
      · rw [if_pos e3]
        have a1 : i % 4 = 1 := by omega
        have a2 : i / 4 = j := by omega
        simp [kidCell, a1, a2, hj]
      · rw [if_neg e3]
        by_cases e4 : i = j * 4
        · rw [if_pos e4]
          have a1 : i % 4 = 0 := by omega
          simp [kidCell, a1]
        · rw [if_neg e4]
          rcases hc with e | e | e | e
          · simp [kidCell, e]
          · have : (i / 4 < j + 1) = (i / 4 < j) := by apply propext; omega
            simp [kidCell, e, this]
          · simp [kidCell, e]
          · simp [kidCell, e]
end Go.Proofs.Qxb6614768a
