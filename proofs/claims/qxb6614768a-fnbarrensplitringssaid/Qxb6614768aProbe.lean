import Derived.Test.Qxb6614768aTable
namespace Go.Proofs.Qxb6614768a
open Go.RowKit Go.Deep

/-- 'make([]T, n)', T of whatever cells. -/
theorem run_make_wide {P : Program} (t e : TypeId) (z : Value) (size bytes : Nat) (ht : P.underlying t = some (.slice e)) (hinfo : (P.info? e).map (fun i => (i.zero, i.size, i.bytes)) = some (some z, size, bytes))
    (kl kc : IntKind) (n : Nat) (hbytes : bytes * n ≤ 281474976710656) (h63 : n ≤ 9223372036854775807) (w : World) :
    (Instr.makeSlice t (.int kl (n : Int)) (.int kc (n : Int))).run P w = .ok (.slice (some ⟨w.heap.size, 0, none⟩) n n) (w.alloc (.cells (madeCells z.cells (n * size)) e)) := by
  obtain ⟨i, hi, hzz⟩ := Option.map_eq_some_iff.1 hinfo
  simp only [Prod.mk.injEq] at hzz
  obtain ⟨hz, hs, hb⟩ := hzz
  have hb' : (i.bytes : Int) * (n : Int) ≤ 281474976710656 := by
    rw [hb]
    have h : ((bytes * n : Nat) : Int) ≤ 281474976710656 := by omega
    rwa [Int.natCast_mul] at h
  have hr := run_make (P := P) w t e i z ht hi hz kl kc n n (by omega) (Int.le_refl _) hb' (by omega)
  simp only [Int.toNat_natCast, hs] at hr
  exact hr

theorem rowIs_made_wide (w : World) (z : Array Value) (k : Nat) (t : TypeId) : (w.alloc (.cells (madeCells z k) t)).rowIs w.heap.size t k (fun i => z[i % z.size]!) :=
  ⟨_, blk_alloc_new _ _, size_madeCells _ _, fun i hi => by simp [madeCells, hi]⟩

theorem rowIs_below {w w' : World} {b : Nat} {t : TypeId} {n : Nat} {f : Nat → Value} (h : w.rowIs b t n f) (hb : Below w.heap.size w w') : w'.rowIs b t n f := h.of_block (hb.block b h.lt)

theorem info68 : (Try.prog.info? 68).map (fun i => (i.zero, i.size, i.bytes)) = some (some (.agg #[.string ByteArray.empty, .int .i64 0, .bool false, .bool false, .bool false, .bool false]), 6, 32) := by kernel_rfl

/-- The table behind the laying of a probe. -/
theorem put_row {w : World} {b n : Nat} {S : Nat → ByteArray} {U L : Nat → Bool} (h : w.rowIs b 68 (n * 6) (probeCell S U L)) (j : Nat) (x : ByteArray) (l : Bool) :
    ((((((w.setCell ⟨b, j * 6, none⟩ (.string x)).setCell ⟨b, j * 6 + 1, none⟩ (.int .i64 0)).setCell ⟨b, j * 6 + 2, none⟩ (.bool true)).setCell ⟨b, j * 6 + 3, none⟩ (.bool false)).setCell ⟨b, j * 6 + 4, none⟩ (.bool l)).setCell ⟨b, j * 6 + 5, none⟩ (.bool false)).rowIs
      b 68 (n * 6) (probeCell (fun i => if i = j then x else S i) (fun i => if i = j then true else U i) (fun i => if i = j then l else L i)) := by
  refine ((((((h.set _ _).set _ _).set _ _).set _ _).set _ _).set _ _).congr ?_
  intro i hi
  simp only [probeCell]
  by_cases e : i / 6 = j
  · subst e
    have : i % 6 = 0 ∨ i % 6 = 1 ∨ i % 6 = 2 ∨ i % 6 = 3 ∨ i % 6 = 4 ∨ i % 6 = 5 := by omega
    rcases this with e | e | e | e | e | e
    · rw [if_neg (by omega), if_neg (by omega), if_neg (by omega), if_neg (by omega), if_neg (by omega), if_pos (by omega)]; simp [e]
    · rw [if_neg (by omega), if_neg (by omega), if_neg (by omega), if_neg (by omega), if_pos (by omega)]; simp [e]
    · rw [if_neg (by omega), if_neg (by omega), if_neg (by omega), if_pos (by omega)]; simp [e]
    · rw [if_neg (by omega), if_neg (by omega), if_pos (by omega)]; simp [e]
    · rw [if_neg (by omega), if_pos (by omega)]; simp [e]
    · rw [if_pos (by omega)]; simp [e]
  · simp only [e, if_false]
    rw [if_neg (by omega), if_neg (by omega), if_neg (by omega), if_neg (by omega), if_neg (by omega), if_neg (by omega)]

/-- The probe table v of which 'silent' says B. -/
def ProbesAt (w : World) (v : Value) (B : List UInt8 → Bool) : Prop :=
  (v = .slice none 0 0 ∧ ∀ x, B x = false) ∨
  ∃ b n m cap S U L, v = .slice (some ⟨b, 0, none⟩) n cap ∧ m ≤ 30 ∧ n = 2 ^ m ∧ TabAt w b n S U L ∧ Good hashN (fun j => (S j).toList) U n ∧ (∃ j, j < n ∧ U j = false) ∧ ∀ x, Has (fun j => (S j).toList) U L n x true ↔ B x = true

/-- The table that is being filled: block b, n places, of which at most k are in use; 'silent' says B of it. -/
def Filling (w : World) (b n k : Nat) (B : List UInt8 → Prop) : Prop :=
  ∃ S U L, w.rowIs b 68 (n * 6) (probeCell S U L) ∧ Good hashN (fun j => (S j).toList) U n ∧ usedN U n ≤ k ∧ ∀ x, Has (fun j => (S j).toList) U L n x true ↔ B x

theorem filling_start (w : World) (n k : Nat) :
    Filling (w.alloc (.cells (madeCells #[.string ByteArray.empty, .int .i64 0, .bool false, .bool false, .bool false, .bool false] (n * 6)) 68)) w.heap.size n k (fun _ => False) := by
  refine ⟨fun _ => ByteArray.empty, fun _ => false, fun _ => false, (rowIs_made_wide _ _ _ _).congr ?_, ?_, ?_, ?_⟩
  · intro i _
    simp only [probeCell]
    have : i % 6 = 0 ∨ i % 6 = 1 ∨ i % 6 = 2 ∨ i % 6 = 3 ∨ i % 6 = 4 ∨ i % 6 = 5 := by omega
    rcases this with e | e | e | e | e | e <;> simp [e]
  · intro j _ h; simp at h
  · rw [usedN_none _ _ (fun _ _ => rfl)]; omega
  · intro x; simp [Has]

theorem Filling.below {w w' : World} {b n k : Nat} {B : List UInt8 → Prop} (h : Filling w b n k B) (hb : Below w.heap.size w w') : Filling w' b n k B := by
  obtain ⟨S, U, L, h1, h2, h3, h4⟩ := h
  exact ⟨S, U, L, rowIs_below h1 hb, h2, h3, h4⟩

theorem filling_put {w : World} {b n k : Nat} {B : List UInt8 → Prop} {S : Nat → ByteArray} {U L : Nat → Bool} (h1 : w.rowIs b 68 (n * 6) (probeCell S U L)) (h2 : Good hashN (fun j => (S j).toList) U n) (h3 : usedN U n ≤ k)
    (h4 : ∀ x, Has (fun j => (S j).toList) U L n x true ↔ B x) (j : Nat) (hj : j < n) (x : ByteArray) (hs : SlotIs (fun j => (S j).toList) U n (hashN x.toList) x.toList j) (l : Bool) :
    Filling ((((((w.setCell ⟨b, j * 6, none⟩ (.string x)).setCell ⟨b, j * 6 + 1, none⟩ (.int .i64 0)).setCell ⟨b, j * 6 + 2, none⟩ (.bool true)).setCell ⟨b, j * 6 + 3, none⟩ (.bool false)).setCell ⟨b, j * 6 + 4, none⟩ (.bool l)).setCell ⟨b, j * 6 + 5, none⟩ (.bool false))
      b n (k + 1) (fun y => (y = x.toList ∧ l = true) ∨ (y ≠ x.toList ∧ B y)) := by
  refine ⟨_, _, _, put_row h1 j x l, ?_, ?_, ?_⟩
  · have := good_put h2 hj hs
    have e : (fun i => (if i = j then x else S i).toList) = (fun i => if i = j then x.toList else (S i).toList) := by funext i; split <;> rfl
    rw [e]; exact this
  · have := usedN_put U j n
    simp only [hj, if_true] at this
    omega
  · intro y
    have := has_put (L := L) h2 hj hs l true y
    have e : (fun i => (if i = j then x else S i).toList) = (fun i => if i = j then x.toList else (S i).toList) := by funext i; split <;> rfl
    rw [e, this, h4]
    simp [eq_comm]

/-- The six cells of place j, and that none is frozen: what a store there asks. -/
theorem six_cells {w : World} {b n : Nat} {f : Nat → Value} (h : w.rowIs b 68 (n * 6) f) {j : Nat} (hj : j < n) :
    (w.cell? ⟨b, j * 6, none⟩ = some (f (j * 6)) ∧ w.cell? ⟨b, j * 6 + 1, none⟩ = some (f (j * 6 + 1)) ∧ w.cell? ⟨b, j * 6 + 2, none⟩ = some (f (j * 6 + 2)) ∧ w.cell? ⟨b, j * 6 + 3, none⟩ = some (f (j * 6 + 3)) ∧ w.cell? ⟨b, j * 6 + 4, none⟩ = some (f (j * 6 + 4)) ∧ w.cell? ⟨b, j * 6 + 5, none⟩ = some (f (j * 6 + 5))) ∧
    ∀ i, w.frozen? ⟨b, i, none⟩ = false :=
  ⟨⟨h.cell (by omega), h.cell (by omega), h.cell (by omega), h.cell (by omega), h.cell (by omega), h.cell (by omega)⟩, fun i => h.frozen i⟩

theorem Below.six {B : Nat} {a w : World} (h : Below B a w) {b : Nat} (hb : B ≤ b) (o0 o1 o2 o3 o4 o5 : Nat) (v0 v1 v2 v3 v4 v5 : Value) :
    Below B a ((((((w.setCell ⟨b, o0, none⟩ v0).setCell ⟨b, o1, none⟩ v1).setCell ⟨b, o2, none⟩ v2).setCell ⟨b, o3, none⟩ v3).setCell ⟨b, o4, none⟩ v4).setCell ⟨b, o5, none⟩ v5) :=
  (((((h.setCell hb _).setCell hb _).setCell hb _).setCell hb _).setCell hb _).setCell hb _

theorem Filling.congr {w : World} {b n k k' : Nat} {B B' : List UInt8 → Prop} (h : Filling w b n k B) (hk : k ≤ k') (hB : ∀ x, B x ↔ B' x) : Filling w b n k' B' := by
  obtain ⟨S, U, L, h1, h2, h3, h4⟩ := h
  exact ⟨S, U, L, h1, h2, by omega, fun x => (h4 x).trans (hB x)⟩

theorem pow_le_of {s j : Nat} (h : s = 2 ^ j) (hs : s < 1073741824) : j ≤ 30 := by
  have : 2 ^ j < 2 ^ 30 := by rw [← h]; exact hs
  have := (Nat.pow_lt_pow_iff_right (by omega)).1 this
  omega

theorem mem_take_step (ls : List ByteArray) (k : Nat) (h : k < ls.length) (x : List UInt8) :
    (x = ls[k].toList ∧ true = true) ∨ (x ≠ ls[k].toList ∧ x ∈ (nms ls).take k) ↔ x ∈ (nms ls).take (k + 1) := by
  rw [List.take_succ_eq_append_getElem (by rw [nms_length]; exact h), nms_get ls k h]
  simp only [List.mem_append, List.mem_singleton]
  by_cases e : x = ls[k].toList <;> simp [e]

set_option maxHeartbeats 1000000 in
theorem probeTable_any (al : Option Addr) (cl : Nat) (ls : List ByteArray) (ah : Option Addr) (ch : Nat) (hs : List ByteArray) (w : World)
    (hl : StrsAt w al ls) (hh : StrsAt w ah hs) (bl : ls.length ≤ 1048576) (bh : hs.length ≤ 1048576) (sl : ∀ s ∈ ls, s.size ≤ maxLen) (sh : ∀ s ∈ hs, s.size ≤ maxLen) :
    Calls Try.prog 17 #[.slice al ls.length cl, .slice ah hs.length ch] w fun e w' =>
      Below w.heap.size w w' ∧ ∃ v, e = .returned v ∧ ProbesAt w' v (fun x => decide (x ∈ nms ls)) := by
  by_cases hk : ls.length + hs.length = 0
  · have h1 : ls.length = 0 := by omega
    have h2 : hs.length = 0 := by omega
    obtain rfl := List.length_eq_zero_iff.1 h1
    obtain rfl := List.length_eq_zero_iff.1 h2
    go_enter Try.func17, Try.ntmps17
    go_wp2
    go_ret
    exact ⟨Below.refl _ _, _, rfl, .inl ⟨rfl, by simp [nms]⟩⟩
  · have hz : (((ls.length : Int) + (hs.length : Int)) == 0) = false := beq_eq_false_iff_ne.2 (by omega)
    go_enter Try.func17, Try.ntmps17
    go_wp2
    go_loop [6] (fun t => ∃ s j : Nat, t = .int .i64 s ∧ Hid (s = 2 ^ j) ∧ 1 ≤ s ∧ s < 4 * (ls.length + hs.length)) (fun t => 2 * (ls.length + hs.length) - (intOf t).toNat)
    case atStart => exact ⟨1, 0, rfl, rfl, by omega, by omega⟩
    case round =>
      obtain ⟨s, j, rfl, HJ, h1, h2⟩ := hrel
      by_cases hlt : s < 2 * (ls.length + hs.length)
      · go_wp2
        go_round
        case rel => exact ⟨2 * s, j + 1, by go_num, by show 2 * s = 2 ^ (j + 1); rw [Nat.pow_succ, ← HJ.out]; omega, by omega, by omega⟩
        case measure => simp [intOf]; omega
      · have hmk := run_make_wide (P := Try.prog) 56 68 _ 6 32 Try.underlying56 info68 .i64 .i64 s (by omega) (by omega)
        have hfs := filling_start w s 0
        have hbs : Below w.heap.size w (w.alloc (.cells (madeCells #[.string ByteArray.empty, .int .i64 0, .bool false, .bool false, .bool false, .bool false] (s * 6)) 68)) := (Below.refl _ _).alloc (Nat.le_refl _) _
        go_wp2
        clear hmk
        go_loopw [8] (fun i wr => ∃ k : Nat, k ≤ hs.length ∧ i = .int .i64 k ∧ Below w.heap.size w wr ∧ w.heap.size < wr.heap.size ∧ Filling wr w.heap.size s k (fun _ => False)) (fun i _ => hs.length - (intOf i).toNat)
        case atStart => exact ⟨0, by omega, rfl, hbs, by simp, hfs⟩
        case round =>
          obtain ⟨k, hkl, rfl, hb, hsz, hf⟩ := hrel
          clear hfs hbs
          by_cases hlt : k < hs.length
          · obtain ⟨hb1, ho1, rfl, hcell⟩ := (hh.below hb) k hlt
            obtain ⟨S, U, L, r1, r2, r3, r4⟩ := hf
            have hsize := sh _ (List.getElem_mem hlt)
            go_wp2_with fail
            refine (ZZslot_any w.heap.size s j s hs[k] S U L wr (by have := HJ.out; exact pow_le_of this (by omega)) HJ.out (tab_of_row r1) hsize (usedN_free U s (by omega))).mono ?_
            rintro e w1 ⟨hb2, h, rfl, hh1, hslot⟩
            have hcell1 := cell_below hb2 hcell
            go_wp2_with fail
            refine (newProbe_any hs[k] false w1).mono ?_
            rintro e w2 ⟨hb3, rfl⟩
            have r1' := rowIs_below (rowIs_below r1 hb2) hb3
            obtain ⟨⟨c0, c1, c2, c3, c4, c5⟩, hfz⟩ := six_cells r1' hh1
            have hput := filling_put r1' r2 r3 r4 h hh1 hs[k] hslot false
            have hbel := Below.six (((hb.trans (hb2.mono (by omega))).trans (hb3.mono (by have := hb2.size; omega)))) (Nat.le_refl w.heap.size) (h * 6) (h * 6 + 1) (h * 6 + 2) (h * 6 + 3) (h * 6 + 4) (h * 6 + 5) (.string hs[k]) (.int .i64 0) (.bool true) (.bool false) (.bool false) (.bool false)
            have hsz' := hb2.size
            have hsz'' := hb3.size
            clear hb hb2 hb3 r1 r1' r2 r3 r4 hcell
            go_wp2
            go_roundw
            case rel => exact ⟨k + 1, by omega, by go_num, hbel, by simp; omega, hput.congr (Nat.le_refl _) (by simp)⟩
            case measure => simp [intOf]; omega
          · go_wp2
            go_loopw [10] (fun i wr => ∃ k : Nat, k ≤ ls.length ∧ i = .int .i64 k ∧ Below w.heap.size w wr ∧ w.heap.size < wr.heap.size ∧ Filling wr w.heap.size s (hs.length + k) (fun x => x ∈ (nms ls).take k)) (fun i _ => ls.length - (intOf i).toNat)
            case atStart => exact ⟨0, by omega, rfl, hb, hsz, hf.congr (by omega) (by simp)⟩
            case round =>
              clear hf hb hsz hlt hkl
              obtain ⟨k, hkl, rfl, hb, hsz, hf⟩ := hrel
              by_cases hlt : k < ls.length
              · obtain ⟨hb1, ho1, rfl, hcell⟩ := (hl.below hb) k hlt
                obtain ⟨S, U, L, r1, r2, r3, r4⟩ := hf
                have hsize := sl _ (List.getElem_mem hlt)
                go_wp2_with fail
                refine (ZZslot_any w.heap.size s j s ls[k] S U L wr (by have := HJ.out; exact pow_le_of this (by omega)) HJ.out (tab_of_row r1) hsize (usedN_free U s (by omega))).mono ?_
                rintro e w1 ⟨hb2, h, rfl, hh1, hslot⟩
                have hcell1 := cell_below hb2 hcell
                go_wp2_with fail
                refine (newProbe_any ls[k] true w1).mono ?_
                rintro e w2 ⟨hb3, rfl⟩
                have r1' := rowIs_below (rowIs_below r1 hb2) hb3
                obtain ⟨⟨c0, c1, c2, c3, c4, c5⟩, hfz⟩ := six_cells r1' hh1
                have hput := filling_put r1' r2 r3 r4 h hh1 ls[k] hslot true
                have hbel := Below.six (((hb.trans (hb2.mono (by omega))).trans (hb3.mono (by have := hb2.size; omega)))) (Nat.le_refl w.heap.size) (h * 6) (h * 6 + 1) (h * 6 + 2) (h * 6 + 3) (h * 6 + 4) (h * 6 + 5) (.string ls[k]) (.int .i64 0) (.bool true) (.bool false) (.bool true) (.bool false)
                have hsz' := hb2.size
                have hsz'' := hb3.size
                clear hb hb2 hb3 r1 r1' r2 r3 r4 hcell
                go_wp2
                go_roundw
                case rel => exact ⟨k + 1, by omega, by go_num, hbel, by simp; omega, hput.congr (by omega) (fun x => by have := mem_take_step ls k hlt x; simpa using this)⟩
                case measure => simp [intOf]; omega
              · go_wp2
                go_ret
                refine ⟨hb, _, rfl, .inr ?_⟩
                obtain ⟨S, U, L, r1, r2, r3, r4⟩ := hf
                have htk : (nms ls).take k = nms ls := List.take_of_length_le (by rw [nms_length]; omega)
                exact ⟨w.heap.size, s, j, s, S, U, L, rfl, pow_le_of HJ.out (by omega), HJ.out, tab_of_row r1, r2, usedN_free U s (by omega), fun x => by rw [r4, htk]; simp⟩
end Go.Proofs.Qxb6614768a
