import Derived.Test.Qxb6614768aSearch
namespace Go.Proofs.Qxb6614768a
open Go.RowKit Go.Deep

theorem info9 : (Try.prog.info? 9).map (fun i => (i.zero, i.size, i.bytes)) = some (some (.string ByteArray.empty), 1, 16) := by kernel_rfl

/-- All names of the rings, one ring behind the other. -/
def flatNames (rs : List RingD) : List ByteArray := (rs.map (fun r => r.names)).flatten
def allNames (rs : List RingD) (ls : List ByteArray) : List ByteArray := ls ++ flatNames rs
theorem flat_succ (rs : List RingD) (k : Nat) (h : k < rs.length) : flatNames (rs.take (k + 1)) = flatNames (rs.take k) ++ rs[k].names := by
  simp only [flatNames]
  rw [List.take_succ_eq_append_getElem h, List.map_append, List.flatten_append]; simp
theorem flat_le (rs : List RingD) (k : Nat) : (flatNames (rs.take k)).length ≤ (flatNames rs).length := by
  have : flatNames rs = flatNames (rs.take k) ++ flatNames (rs.drop k) := by
    simp only [flatNames]; rw [← List.flatten_append, ← List.map_append, List.take_append_drop]
  rw [this, List.length_append]; omega

/-- The row of names of which xs are laid. -/
def strCell (xs : List ByteArray) (i : Nat) : Value := .string (xs.getD i ByteArray.empty)
theorem str_start (w : World) (n : Nat) : (w.alloc (.cells (madeCells #[.string ByteArray.empty] n) 9)).rowIs w.heap.size 9 n (strCell []) :=
  (World.rowIs_made _ _ _ _).congr (fun i _ => by simp [strCell])
theorem str_step {w : World} {b n : Nat} {xs : List ByteArray} (h : w.rowIs b 9 n (strCell xs)) (x : ByteArray) :
    (w.setCell ⟨b, xs.length, none⟩ (.string x)).rowIs b 9 n (strCell (xs ++ [x])) := by
  refine (h.set _ _).congr ?_
  intro i _
  simp only [strCell]
  by_cases e : i = xs.length
  · rw [if_pos e, e]; simp
  · rw [if_neg e]
    by_cases h2 : i < xs.length
    · rw [List.getD_eq_getElem?_getD, List.getD_eq_getElem?_getD, List.getElem?_append_left h2]
    · rw [List.getD_eq_getElem?_getD, List.getD_eq_getElem?_getD, List.getElem?_eq_none (by omega), List.getElem?_eq_none (by simp; omega)]

theorem ret_slice {a : Option Addr} {n m : Nat} (h : n = m) : Ending.returned (.slice a n n) = .returned (.slice a m m) := by rw [h]

set_option maxRecDepth 100000 in
set_option maxHeartbeats 4000000 in
theorem allNames_any (ra : Option Addr) (rc : Nat) (rs : List RingD) (la : Option Addr) (lc : Nat) (ls : List ByteArray) (w : World)
    (hR : RingsAt w ra rs) (hl : StrsAt w la ls) (hr : rs.length ≤ 1048576) (hsum : (allNames rs ls).length ≤ 1048576) :
    Calls Try.prog 12 #[.slice ra rs.length rc, .slice la ls.length lc] w fun e w' => Below w.heap.size w w' ∧ ∃ b, e = .returned (.slice (some ⟨b, 0, none⟩) (allNames rs ls).length (allNames rs ls).length) ∧ StrsAt w' (some ⟨b, 0, none⟩) (allNames rs ls) := by
  have hA : (allNames rs ls).length = ls.length + (flatNames rs).length := by simp [allNames]
  have HA := hide hA
  have hfl := fun k => flat_le rs k
  have HFL := hide hfl
  have hs' : ls.length + (flatNames rs).length ≤ 1048576 := by omega
  clear hA hsum hfl
  go_enter Try.func12, Try.ntmps12
  go_wp2
  go_loop [5, 6] (fun t i => ∃ k : Nat, k ≤ rs.length ∧ i = .int .i64 k ∧ t = .int .i64 ((ls.length + (flatNames (rs.take k)).length : Nat) : Int)) (fun _ i => rs.length - (intOf i).toNat)
  case atStart => exact ⟨0, by omega, rfl, by simp [flatNames]⟩
  case round =>
    obtain ⟨k, hk, rfl, rfl⟩ := hrel
    have hle := unhide HFL k
    by_cases hlt : k < rs.length
    · obtain ⟨rb, ro, rfl, na, nc, ka, kc, g0, g1, g2, g3, g4, gn, gk⟩ := hR k hlt
      have HF := hide (congrArg List.length (flat_succ rs k hlt))
      have hle2 := unhide HFL (k + 1)
      have hbd : (flatNames (rs.take k)).length + rs[k].names.length ≤ (flatNames rs).length := by
        have := HF.out; rw [List.length_append] at this; omega
      go_wp2
      go_round
      case rel => exact ⟨k + 1, by omega, by go_num, by rw [HF.out, List.length_append]; go_num⟩
      case measure => simp [intOf]; omega
    · have htk : rs.take k = rs := List.take_of_length_le (by omega)
      rw [htk]
      clear htk hle
      have hmk := run_make_row' (P := Try.prog) 23 9 _ 16 Try.underlying23 info9 rfl .i64 .i64 (ls.length + (flatNames rs).length) (by omega) (by omega)
      have ec : ((ls.length + (flatNames rs).length : Nat) : Int) = (ls.length : Int) + ((flatNames rs).length : Int) := by omega
      rw [ec] at hmk
      go_wp2
      clear hmk ec
      go_loopw [8, 9] (fun t i wr => ∃ k : Nat, k ≤ ls.length ∧ i = .int .i64 k ∧ t = .int .i64 k ∧ Below w.heap.size w wr ∧ w.heap.size < wr.heap.size ∧ wr.rowIs w.heap.size 9 (ls.length + (flatNames rs).length) (strCell (ls.take k))) (fun _ i _ => ls.length - (intOf i).toNat)
      case atStart => exact ⟨0, by omega, rfl, rfl, (Below.refl _ _).alloc (Nat.le_refl _) _, by simp, str_start w _⟩
      case round =>
        clear hk hlt
        obtain ⟨k, hk, rfl, rfl, hb, hsz, hrow⟩ := hrel
        by_cases hlt : k < ls.length
        · obtain ⟨lb, lo, rfl, hc⟩ := hl.below hb k hlt
          have hlk : (ls.take k).length = k := by rw [List.length_take]; omega
          have hst := str_step hrow ls[k]
          rw [hlk, ← List.take_succ_eq_append_getElem hlt] at hst
          have HST := hide hst
          have hbw : w.heap.size < wr.heap.size := hsz
          have e0 := hrow.cell (i := k) (by omega)
          have ef := hrow.frozen k
          clear hrow hst hlk
          go_wp2
          go_roundw
          case rel => exact ⟨k + 1, by omega, by go_num, by go_num, hb.setCell (Nat.le_refl _) _, by simpa using hsz, HST.out⟩
          case measure => simp [intOf]; omega
        · have hkn : k = ls.length := by omega
          subst hkn
          rw [List.take_length] at hrow
          go_wp2
          go_loopw [8, 10] (fun t i wr => ∃ k : Nat, k ≤ rs.length ∧ i = .int .i64 k ∧ t = .int .i64 ((ls.length + (flatNames (rs.take k)).length : Nat) : Int) ∧ Below w.heap.size w wr ∧ w.heap.size < wr.heap.size ∧ wr.rowIs w.heap.size 9 (ls.length + (flatNames rs).length) (strCell (ls ++ flatNames (rs.take k)))) (fun _ i _ => rs.length - (intOf i).toNat)
          case atStart => exact ⟨0, by omega, rfl, by simp [flatNames], hb, hsz, by simpa [flatNames] using hrow⟩
          case round =>
            clear hb hsz hrow hlt hk
            obtain ⟨k, hk, rfl, rfl, hb, hsz, hrow⟩ := hrel
            by_cases hlt : k < rs.length
            · obtain ⟨rb, ro, rfl, na, nc, ka, kc, g0, g1, g2, g3, g4, gn, gk⟩ := hR k hlt
              have HF := hide (flat_succ rs k hlt)
              have hbd : (flatNames (rs.take k)).length + rs[k].names.length ≤ (flatNames rs).length := by
                have := congrArg List.length HF.out; rw [List.length_append] at this; have := unhide HFL (k + 1); omega
              go_wp2
              go_loopw [8, 11] (fun t i wr => ∃ j : Nat, j ≤ rs[k].names.length ∧ i = .int .i64 j ∧ t = .int .i64 ((ls.length + (flatNames (rs.take k)).length + j : Nat) : Int) ∧ Below w.heap.size w wr ∧ w.heap.size < wr.heap.size ∧ wr.rowIs w.heap.size 9 (ls.length + (flatNames rs).length) (strCell (ls ++ flatNames (rs.take k) ++ rs[k].names.take j))) (fun _ i _ => rs[k].names.length - (intOf i).toNat)
              case atStart => exact ⟨0, by omega, rfl, by go_num, hb, hsz, by simpa using hrow⟩
              case round =>
                clear hb hsz hrow
                obtain ⟨j, hj, rfl, rfl, hb, hsz, hrow⟩ := hrel
                have h0 := cell_below hb g0
                by_cases hjl : j < rs[k].names.length
                · obtain ⟨nb, no, rfl, hc⟩ := gn.below hb j hjl
                  have hlk : (ls ++ flatNames (rs.take k) ++ rs[k].names.take j).length = ls.length + (flatNames (rs.take k)).length + j := by
                    rw [List.length_append, List.length_append, List.length_take]; omega
                  have hst := str_step hrow rs[k].names[j]
                  rw [hlk, List.append_assoc (ls ++ flatNames (rs.take k)), ← List.take_succ_eq_append_getElem hjl] at hst
                  have HST := hide hst
                  have e0 := hrow.cell (i := ls.length + (flatNames (rs.take k)).length + j) (by omega)
                  have ef := hrow.frozen (ls.length + (flatNames (rs.take k)).length + j)
                  clear hrow hst hlk
                  generalize hfk : (flatNames (rs.take k)).length = fk at *
                  have hq : ((ls.length : Int) + (fk : Int) + (j : Int)).toNat = ls.length + fk + j := by omega
                  go_wp2
                  go_roundw
                  case rel => exact ⟨j + 1, by omega, by go_num, by go_num, hb.setCell (Nat.le_refl _) _, by simpa using hsz, HST.out⟩
                  case measure => simp [intOf]; omega
                · go_wp2
                  go_roundw
                  case rel =>
                    have hjn : j = rs[k].names.length := by omega
                    subst hjn
                    rw [List.take_length, List.append_assoc] at hrow
                    exact ⟨k + 1, by omega, by go_num, by rw [HF.out, List.length_append, Nat.add_assoc], hb, hsz, by rw [HF.out]; exact hrow⟩
                  case measure => simp [intOf]; omega
            · have htk : rs.take k = rs := List.take_of_length_le (by omega)
              rw [htk] at hrow
              go_wp2
              go_ret
              refine ⟨hb, w.heap.size, ret_slice HA.out.symm, ?_⟩
              intro i hi
              refine ⟨_, _, rfl, ?_⟩
              have hil : i < ls.length + (flatNames rs).length := by rw [← HA.out]; exact hi
              have := hrow.cell hil
              rw [Nat.zero_add, this, strCell]
              simp only [allNames] at hi ⊢
              rw [List.getD_eq_getElem?_getD, List.getElem?_eq_getElem hi]; rfl
end Go.Proofs.Qxb6614768a
