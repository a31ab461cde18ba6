import Derived.Test.Qxb6614768aSlot
namespace Go.Proofs.Qxb6614768a
open Go.RowKit

/-- What the table's cell i holds. -/
def probeCell (S : Nat → ByteArray) (U L : Nat → Bool) (i : Nat) : Value :=
  if i % 6 = 0 then .string (S (i / 6)) else if i % 6 = 1 then .int .i64 0 else if i % 6 = 2 then .bool (U (i / 6)) else if i % 6 = 4 then .bool (L (i / 6)) else .bool false

theorem tab_of_row {w : World} {b n : Nat} {S : Nat → ByteArray} {U L : Nat → Bool} (h : w.rowIs b 68 (n * 6) (probeCell S U L)) : TabAt w b n S U L := by
  intro j hj
  have h0 := h.cell (i := j * 6) (by omega)
  have h2 := h.cell (i := j * 6 + 2) (by omega)
  have h4 := h.cell (i := j * 6 + 4) (by omega)
  have e1 : j * 6 % 6 = 0 := by omega
  have e2 : (j * 6 + 2) % 6 = 2 := by omega
  have e4 : (j * 6 + 4) % 6 = 4 := by omega
  have d1 : j * 6 / 6 = j := by omega
  have d2 : (j * 6 + 2) / 6 = j := by omega
  have d4 : (j * 6 + 4) / 6 = j := by omega
  simp only [probeCell, e1, e2, e4, d1, d2, d4] at h0 h2 h4
  exact ⟨h0, h2, h4⟩

/-- A table in a later world that has not turned the old blocks. -/
theorem TabAt.below {w w' : World} {b n : Nat} {S : Nat → ByteArray} {U L : Nat → Bool} (h : TabAt w b n S U L) (hb : Below w.heap.size w w') : TabAt w' b n S U L := by
  intro j hj
  obtain ⟨h0, h1, h2⟩ := h j hj
  exact ⟨(hb.cell (block_lt_of_cell h0)).trans h0, (hb.cell (block_lt_of_cell h1)).trans h1, (hb.cell (block_lt_of_cell h2)).trans h2⟩

theorem cell_below {w w' : World} {a : Addr} {v : Value} (hb : Below w.heap.size w w') (h : w.cell? a = some v) : w'.cell? a = some v := (hb.cell (block_lt_of_cell h)).trans h

theorem StrsAt.below {w w' : World} {a : Option Addr} {ss : List ByteArray} (h : StrsAt w a ss) (hb : Below w.heap.size w w') : StrsAt w' a ss := by
  intro k hk
  obtain ⟨b, o, e, hc⟩ := h k hk
  exact ⟨b, o, e, cell_below hb hc⟩

set_option maxHeartbeats 400000 in
theorem ZZslot_any (b n : Nat) (m : Nat) (cap : Nat) (x : ByteArray) (S : Nat → ByteArray) (U L : Nat → Bool) (w : World) (hm : m ≤ 30) (hn : n = 2 ^ m)
    (ht : TabAt w b n S U L) (hx : x.size ≤ maxLen) (hfree : ∃ j, j < n ∧ U j = false) :
    Calls Try.prog 20 #[.slice (some ⟨b, 0, none⟩) n cap, .string x] w fun e w' =>
      Below w.heap.size w w' ∧ ∃ h : Nat, e = .returned (.int .i64 h) ∧ h < n ∧ SlotIs (fun j => (S j).toList) U n (hashN x.toList) x.toList h := by
  have HM : Hid (n = 2 ^ m) := hn
  clear hn
  go_enter Try.func20, Try.ntmps20
  go_wp2_with fail
  refine (slot_any w.heap.size 0 b n m cap x S U L _ hm HM.out (ht.below ((Below.refl _ _).alloc (Nat.le_refl _) _)) (by simp [go_sem]) hx hfree).mono ?_
  rintro e w' ⟨rfl, h, rfl, hh, hs⟩
  go_wp2
  go_ret
  exact ⟨(Below.refl _ _).alloc (Nat.le_refl _) _, h, rfl, hh, hs⟩

set_option maxHeartbeats 400000 in
theorem newProbe_any (x : ByteArray) (l : Bool) (w : World) :
    Calls Try.prog 21 #[.string x, .bool l] w fun e w' =>
      Below w.heap.size w w' ∧ e = .returned (.agg #[.string x, .int .i64 0, .bool true, .bool false, .bool l, .bool false]) := by
  go_enter Try.func21, Try.ntmps21
  go_wp2
  refine bodyPost_ret (v := .agg #[.string x, .int .i64 0, .bool true, .bool false, .bool l, .bool false]) (by simp [results, Try.results21, go_sem]) rfl ⟨?_, rfl⟩
  exact (Below.refl _ _).alloc (Nat.le_refl _) _
end Go.Proofs.Qxb6614768a
