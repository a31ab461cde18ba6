import Derived.Test.Qxb6614768aSilent
namespace Go.Proofs.Qxb6614768a
open Go.RowKit Go.Deep

/-- A ring's entries in block b: two cells each: the name, the RTT 0. -/
def EntsAt (w : World) (b : Nat) (ns : List ByteArray) : Prop :=
  ∀ k, (h : k < ns.length) → w.cell? ⟨b, k * 2, none⟩ = some (.string ns[k]) ∧ w.cell? ⟨b, k * 2 + 1, none⟩ = some (.int .i64 0)

theorem EntsAt.below {w w' : World} {b : Nat} {ns : List ByteArray} (h : EntsAt w b ns) (hb : Below w.heap.size w w') : EntsAt w' b ns :=
  fun k hk => ⟨cell_below hb (h k hk).1, cell_below hb (h k hk).2⟩

/-- The ring's value: nine cells. -/
def ringV (i0 : ByteArray) (lv ct : Int) (og pa gw cl kp : ByteArray) (eb n : Nat) : Array Value :=
  #[.string i0, .int .i64 lv, .int .u64 ct, .string og, .string pa, .string gw, .string cl, .string kp, .slice (some ⟨eb, 0, none⟩) n n]

def idxI (l : List (List UInt8)) (x : List UInt8) : Int := if x ∈ l then (l.idxOf x : Int) else -1

theorem idxI_hit (l : List (List UInt8)) (x : List UInt8) (k : Nat) (h : k < l.length) (h1 : x ∉ l.take k) (h2 : l[k] = x) : idxI l x = k := by
  have hm : x ∈ l := by rw [← h2]; exact List.getElem_mem h
  have : l.idxOf x = k := by
    have e : l = l.take k ++ x :: l.drop (k + 1) := by
      rw [← h2, ← List.drop_eq_getElem_cons h, List.take_append_drop]
    rw [e, List.idxOf_append, if_neg h1, List.idxOf_cons_self, List.length_take]
    omega
  rw [idxI, if_pos hm, this]

theorem idxI_miss (l : List (List UInt8)) (x : List UInt8) (h : x ∉ l) : idxI l x = -1 := by rw [idxI, if_neg h]

set_option maxHeartbeats 1000000 in
theorem index_any (i0 : ByteArray) (lv ct : Int) (og pa gw cl kp : ByteArray) (eb : Nat) (ns : List ByteArray) (x : ByteArray) (w : World) (he : EntsAt w eb ns) (hl : ns.length ≤ 1048576) :
    Calls Try.prog 25 #[.agg #[.string i0, .int .i64 lv, .int .u64 ct, .string og, .string pa, .string gw, .string cl, .string kp, .slice (some ⟨eb, 0, none⟩) ns.length ns.length], .string x] w fun e w' =>
      e = .returned (.int .i64 (idxI (nms ns) x.toList)) ∧ Below w.heap.size w w' := by
  go_enter Try.func25, Try.ntmps25
  go_wp2
  go_loopw [10] (fun i wr => ∃ k : Nat, k ≤ ns.length ∧ i = .int .i64 k ∧ x.toList ∉ (nms ns).take k ∧ Below w.heap.size w wr) (fun i _ => ns.length - (intOf i).toNat)
  case atStart => exact ⟨0, by omega, rfl, by simp, (Below.refl _ _).alloc (Nat.le_refl _) _⟩
  case round =>
    obtain ⟨k, hk, rfl, hnot, hb⟩ := hrel
    by_cases hlt : k < ns.length
    · obtain ⟨c0, c1⟩ := he.below hb k hlt
      have HG : Hid ((nms ns)[k]'(by rw [nms_length]; exact hlt) = ns[k].toList) := nms_get ns k hlt
      have hsz := hb.size
      go_wp2
      · go_ret
        have heq : (ns[k].toList == x.toList) = true := by assumption
        refine ⟨ret_int ?_, hb.alloc hsz _⟩
        exact (idxI_hit _ _ k (by rw [nms_length]; exact hlt) hnot (by rw [HG.out]; exact beq_iff_eq.1 heq)).symm
      · go_roundw
        case rel =>
          have heq : (ns[k].toList == x.toList) = false := by assumption
          exact ⟨k + 1, by omega, by go_num, take_mem_succ _ _ _ (by rw [nms_length]; exact hlt) hnot (by rw [HG.out]; exact beq_eq_false_iff_ne.1 heq), hb.alloc hsz _⟩
        case measure => simp [intOf]; omega
    · go_wp2
      go_ret
      refine ⟨ret_int ?_, hb⟩
      rw [List.take_of_length_le (by rw [nms_length]; omega)] at hnot
      exact (idxI_miss _ _ hnot).symm

set_option maxHeartbeats 1000000 in
theorem prev_any (i0 : ByteArray) (lv ct : Int) (og pa gw cl kp : ByteArray) (eb n : Nat) (i : Nat) (w : World) (hi : i < n) (hl : n ≤ 1048576) :
    Calls Try.prog 26 #[.agg #[.string i0, .int .i64 lv, .int .u64 ct, .string og, .string pa, .string gw, .string cl, .string kp, .slice (some ⟨eb, 0, none⟩) n n], .int .i64 i] w fun e w' =>
      e = .returned (.int .i64 (((i + n - 1) % n : Nat) : Int)) ∧ Below w.heap.size w w' := by
  have hz : ((n : Int) == 0) = false := beq_eq_false_iff_ne.2 (by omega)
  go_enter Try.func26, Try.ntmps26
  go_wp2
  go_ret
  refine ⟨ret_int ?_, (Below.refl _ _).alloc (Nat.le_refl _) _⟩
  have e : ((i + n - 1 : Nat) : Int) = (i : Int) + n - 1 := by omega
  rw [Int.natCast_emod, e]

/-- One name marked in the list of members. -/
def mark (ns : List (List UInt8)) (F : Nat → Bool) (x : List UInt8) : Nat → Bool :=
  if x ∈ ns then fun j => if j = ns.idxOf x then true else F j else F
/-- A child ring's gateway and its PREV marked. -/
def mark2 (ns : List (List UInt8)) (F : Nat → Bool) (x : List UInt8) : Nat → Bool :=
  if x ∈ ns then fun j => if j = (ns.idxOf x + ns.length - 1) % ns.length then true else if j = ns.idxOf x then true else F j else F
def linkedF (ns : List (List UInt8)) (gw cl : List UInt8) (cs : List (List UInt8)) : Nat → Bool :=
  cs.foldl (mark2 ns) (mark ns (mark ns (fun _ => false) gw) cl)

theorem idxI_mem (l : List (List UInt8)) (x : List UInt8) (h : x ∈ l) : idxI l x = (l.idxOf x : Int) := by rw [idxI, if_pos h]

/-- The records of the child rings in block b: four cells each: the ring, the gateway, the first member, the subtree. -/
def KidsAt (w : World) (b : Nat) (cs : List ByteArray) : Prop :=
  ∀ k, (h : k < cs.length) → w.cell? ⟨b, k * 4, none⟩ = some (.string ByteArray.empty) ∧ w.cell? ⟨b, k * 4 + 1, none⟩ = some (.string cs[k]) ∧ w.cell? ⟨b, k * 4 + 2, none⟩ = some (.string ByteArray.empty) ∧ w.cell? ⟨b, k * 4 + 3, none⟩ = some (.int .i64 0)

theorem KidsAt.below {w w' : World} {b : Nat} {cs : List ByteArray} (h : KidsAt w b cs) (hb : Below w.heap.size w w') : KidsAt w' b cs :=
  fun k hk => ⟨cell_below hb (h k hk).1, cell_below hb (h k hk).2.1, cell_below hb (h k hk).2.2.1, cell_below hb (h k hk).2.2.2⟩

theorem info4 : (Try.prog.info? 4).map (fun i => (i.zero, i.size, i.bytes)) = some (some (.bool false), 1, 1) := by kernel_rfl

/-- The state of subLinked: its boxes and the row of marks F. -/
structure SL (w wr : World) (n : Nat) (A1 A2 A3 : Array Value) (F : Nat → Bool) : Prop where
  bel : Below w.heap.size w wr
  sz : w.heap.size + 4 ≤ wr.heap.size
  s0 : wr.heap[w.heap.size]? = some (.cells A1 54 (0, 0))
  s1 : wr.heap[w.heap.size + 1]? = some (.cells A2 52 (0, 0))
  row : wr.rowIs (w.heap.size + 2) 4 n (fun j => .bool (F j))
  s3 : wr.heap[w.heap.size + 3]? = some (.cells A3 9 (0, 0))

section
variable {w wr w1 : World} {n : Nat} {A1 A2 A3 : Array Value} {F : Nat → Bool}
theorem SL.next (h : SL w wr n A1 A2 A3 F) (hb : Below wr.heap.size wr w1) : SL w w1 n A1 A2 A3 F :=
  ⟨h.bel.trans (hb.mono (by have := h.sz; omega)), by have := h.sz; have := hb.size; omega, by rw [hb.block _ (by have := h.sz; omega)]; exact h.s0, by rw [hb.block _ (by have := h.sz; omega)]; exact h.s1, rowIs_below h.row hb, by rw [hb.block _ (by have := h.sz; omega)]; exact h.s3⟩
theorem SL.alloc (h : SL w wr n A1 A2 A3 F) (o : Obj) : SL w (wr.alloc o) n A1 A2 A3 F := h.next ((Below.refl _ _).alloc (Nat.le_refl _) _)
theorem SL.set (h : SL w wr n A1 A2 A3 F) (i : Nat) (v : Bool) : SL w (wr.setCell ⟨w.heap.size + 2, i, none⟩ (.bool v)) n A1 A2 A3 (fun j => if j = i then v else F j) := by
  refine ⟨h.bel.setCell (by show w.heap.size ≤ w.heap.size + 2; omega) _, by have := h.sz; simpa using this, ?_, ?_, ?_, ?_⟩
  · rw [blk_setCell_other _ _ _ _ (by show w.heap.size ≠ w.heap.size + 2; omega)]; exact h.s0
  · rw [blk_setCell_other _ _ _ _ (by show w.heap.size + 1 ≠ w.heap.size + 2; omega)]; exact h.s1
  · refine (h.row.set i _).congr ?_
    intro j _
    by_cases e : j = i <;> simp [e]
  · rw [blk_setCell_other _ _ _ _ (by show w.heap.size + 3 ≠ w.heap.size + 2; omega)]; exact h.s3
theorem SL.congr {G : Nat → Bool} (h : SL w wr n A1 A2 A3 F) (e : F = G) : SL w wr n A1 A2 A3 G := e ▸ h
end

theorem SL_start (w : World) (n : Nat) (A1 A2 A3 : Array Value) :
    SL w ((((w.alloc (.cells A1 54)).alloc (.cells A2 52)).alloc (.cells (madeCells #[.bool false] n) 4)).alloc (.cells A3 9)) n A1 A2 A3 (fun _ => false) := by
  have e1 : (w.alloc (.cells A1 54)).heap.size = w.heap.size + 1 := by simp
  have e2 : ((w.alloc (.cells A1 54)).alloc (.cells A2 52)).heap.size = w.heap.size + 2 := by simp
  have e3 : (((w.alloc (.cells A1 54)).alloc (.cells A2 52)).alloc (.cells (madeCells #[.bool false] n) 4)).heap.size = w.heap.size + 3 := by simp
  refine ⟨?_, by simp, ?_, ?_, ?_, ?_⟩
  · exact ((((Below.refl _ _).alloc (Nat.le_refl _) _).alloc (by omega) _).alloc (by omega) _).alloc (by omega) _
  · rw [blk_alloc_lt _ _ _ (by omega), blk_alloc_lt _ _ _ (by omega), blk_alloc_lt _ _ _ (by omega), blk_alloc_new]
  · rw [blk_alloc_lt _ _ _ (by omega), blk_alloc_lt _ _ _ (by omega), ← e1, blk_alloc_new]
  · refine World.rowIs.alloc ?_ _
    rw [← e2]
    exact World.rowIs_made _ _ _ _
  · rw [← e3, blk_alloc_new]

theorem mark_in (ns : List (List UInt8)) (F : Nat → Bool) (x : List UInt8) (h : x ∈ ns) : mark ns F x = fun j => if j = ns.idxOf x then true else F j := by rw [mark, if_pos h]
theorem mark_out (ns : List (List UInt8)) (F : Nat → Bool) (x : List UInt8) (h : x ∉ ns) : mark ns F x = F := by rw [mark, if_neg h]
theorem mark2_in (ns : List (List UInt8)) (F : Nat → Bool) (x : List UInt8) (h : x ∈ ns) : mark2 ns F x = fun j => if j = (ns.idxOf x + ns.length - 1) % ns.length then true else if j = ns.idxOf x then true else F j := by rw [mark2, if_pos h]
theorem mark2_out (ns : List (List UInt8)) (F : Nat → Bool) (x : List UInt8) (h : x ∉ ns) : mark2 ns F x = F := by rw [mark2, if_neg h]

def marks (ns : List (List UInt8)) (gw cl : List UInt8) (k : Nat) : Nat → Bool := ([gw, cl].take k).foldl (mark ns) (fun _ => false)

theorem foldl_take_succ {α β : Type} (f : β → α → β) (z : β) (l : List α) (k : Nat) (h : k < l.length) : (l.take (k + 1)).foldl f z = f ((l.take k).foldl f z) l[k] := by
  rw [List.take_succ_eq_append_getElem h, List.foldl_append]; rfl

set_option maxHeartbeats 2000000 in
theorem subLinked_any (gw cl : ByteArray) (eb kb : Nat) (ns cs : List ByteArray) (w : World) (he : EntsAt w eb ns) (hc : KidsAt w kb cs) (hl : ns.length ≤ 1048576) (hlc : cs.length ≤ 1048576) :
    Calls Try.prog 22 #[.agg #[.string ByteArray.empty, .int .i64 0, .int .u64 0, .string ByteArray.empty, .string ByteArray.empty, .string gw, .string cl, .string ByteArray.empty, .slice (some ⟨eb, 0, none⟩) ns.length ns.length, .slice (some ⟨kb, 0, none⟩) cs.length cs.length]] w fun e w' =>
      ∃ lb, e = .returned (.slice (some ⟨lb, 0, none⟩) ns.length ns.length) ∧ Below w.heap.size w w' ∧ w'.rowIs lb 4 ns.length (fun j => .bool (linkedF (nms ns) gw.toList cl.toList (nms cs) j)) := by
  have hmk := run_make_row' (P := Try.prog) 70 4 _ 1 Try.underlying70 info4 rfl .i64 .i64 ns.length (by omega) (by omega)
  go_enter Try.func22, Try.ntmps22
  go_wp2
  clear hmk
  go_loopw [23] (fun i wr => ∃ k : Nat, k ≤ 2 ∧ i = .int .i64 k ∧ SL w wr ns.length #[.string ByteArray.empty, .int .i64 0, .int .u64 0, .string ByteArray.empty, .string ByteArray.empty, .string gw, .string cl, .string ByteArray.empty, .slice (some ⟨eb, 0, none⟩) ns.length ns.length, .slice (some ⟨kb, 0, none⟩) cs.length cs.length]
      #[.string ByteArray.empty, .int .i64 0, .int .u64 0, .string ByteArray.empty, .string ByteArray.empty, .string gw, .string cl, .string ByteArray.empty, .slice (some ⟨eb, 0, none⟩) ns.length ns.length] #[.string gw, .string cl] (marks (nms ns) gw.toList cl.toList k)) (fun i _ => 2 - (intOf i).toNat)
  case atStart =>
    exact ⟨0, by omega, rfl, SL_start w ns.length _ _ _⟩
  case round =>
    obtain ⟨k, hk, rfl, hS⟩ := hrel
    by_cases hlt : k < 2
    · obtain ⟨x, hx, hm⟩ : ∃ x : ByteArray, wr.cell? ⟨w.heap.size + 3, k, none⟩ = some (.string x) ∧ marks (nms ns) gw.toList cl.toList (k + 1) = mark (nms ns) (marks (nms ns) gw.toList cl.toList k) x.toList := by
        have hcr := cell_of_row wr (w.heap.size + 3) k _ _ _ hS.s3
        have : k = 0 ∨ k = 1 := by omega
        rcases this with rfl | rfl
        · exact ⟨gw, by rw [hcr]; rfl, rfl⟩
        · exact ⟨cl, by rw [hcr]; rfl, rfl⟩
      have HM := hide hm
      clear hm
      have hrc := fun j => cell_of_row wr (w.heap.size + 1) j _ _ _ hS.s1
      go_wp2_with fail
      refine (index_any _ _ _ _ _ _ _ _ eb ns x wr (he.below hS.bel) hl).mono ?_
      rintro e w1 ⟨rfl, hb1⟩
      have hS1 := hS.next hb1
      have HS1 := hide hS1
      clear hS hrc hb1
      by_cases hin : x.toList ∈ nms ns
      · have hix := idxI_mem _ _ hin
        have hil : (nms ns).idxOf x.toList < ns.length := by have := List.idxOf_lt_length_iff.2 hin; rwa [nms_length] at this
        have HMI := hide ((unhide HM).trans (mark_in _ _ _ hin))
        generalize (nms ns).idxOf x.toList = ix at *
        rw [hix]
        clear hin hix HM
        have hcw := hS1.row.cell hil
        have hfw := hS1.row.frozen ix
        clear hS1
        go_wp2
        go_roundw
        case rel => exact ⟨k + 1, by omega, by go_num, ((unhide HS1).set ix true).congr (unhide HMI).symm⟩
        case measure => simp [intOf]; omega
      · have hix := idxI_miss _ _ hin
        rw [hix]
        have HMI := hide ((unhide HM).trans (mark_out _ _ _ hin))
        clear hin hix HM hS1
        go_wp2
        go_roundw
        case rel => exact ⟨k + 1, by omega, by go_num, (unhide HS1).congr (unhide HMI).symm⟩
        case measure => simp [intOf]; omega
    · have hk2 : k = 2 := by omega
      subst hk2
      have hrc := fun j => cell_of_row wr w.heap.size j _ _ _ hS.s0
      go_wp2
      clear hrc
      go_loopw [39] (fun i wr => ∃ k : Nat, k ≤ cs.length ∧ i = .int .i64 k ∧ SL w wr ns.length #[.string ByteArray.empty, .int .i64 0, .int .u64 0, .string ByteArray.empty, .string ByteArray.empty, .string gw, .string cl, .string ByteArray.empty, .slice (some ⟨eb, 0, none⟩) ns.length ns.length, .slice (some ⟨kb, 0, none⟩) cs.length cs.length]
          #[.string ByteArray.empty, .int .i64 0, .int .u64 0, .string ByteArray.empty, .string ByteArray.empty, .string gw, .string cl, .string ByteArray.empty, .slice (some ⟨eb, 0, none⟩) ns.length ns.length] #[.string gw, .string cl]
          (((nms cs).take k).foldl (mark2 (nms ns)) (marks (nms ns) gw.toList cl.toList 2))) (fun i _ => cs.length - (intOf i).toNat)
      case atStart => exact ⟨0, by omega, rfl, hS⟩
      case round =>
        clear hS hlt hk
        obtain ⟨k, hk, rfl, hS⟩ := hrel
        by_cases hlt : k < cs.length
        · obtain ⟨d0, d1, d2, d3⟩ := hc.below hS.bel k hlt
          have hm : ((nms cs).take (k + 1)).foldl (mark2 (nms ns)) (marks (nms ns) gw.toList cl.toList 2) = mark2 (nms ns) (((nms cs).take k).foldl (mark2 (nms ns)) (marks (nms ns) gw.toList cl.toList 2)) cs[k].toList := by
            rw [foldl_take_succ _ _ _ _ (by rw [nms_length]; exact hlt), nms_get cs k hlt]
          have HM := hide hm
          clear hm
          have hrc := fun j => cell_of_row wr (w.heap.size + 1) j _ _ _ hS.s1
          have hlt1 : w.heap.size + 1 < wr.heap.size := by have := hS.sz; omega
          go_wp2_with fail
          refine (index_any _ _ _ _ _ _ _ _ eb ns cs[k] _ ((he.below hS.bel).below ((Below.refl _ _).alloc (Nat.le_refl _) _)) hl).mono ?_
          rintro e w1 ⟨rfl, hb1⟩
          have hS1 := (hS.alloc _).next hb1
          have HS1 := hide hS1
          clear hS hrc hb1 d0 d1 d2 d3 hlt1
          by_cases hin : cs[k].toList ∈ nms ns
          · have hix := idxI_mem _ _ hin
            have hil : (nms ns).idxOf cs[k].toList < ns.length := by have := List.idxOf_lt_length_iff.2 hin; rwa [nms_length] at this
            have HMI := hide ((unhide HM).trans (mark2_in _ _ _ hin))
            rw [nms_length] at HMI
            generalize (nms ns).idxOf cs[k].toList = ix at *
            rw [hix]
            clear hin hix HM
            have hrc := fun j => cell_of_row w1 (w.heap.size + 1) j _ _ _ hS1.s1
            go_wp2_with fail
            refine (prev_any _ _ _ _ _ _ _ _ eb ns.length ix w1 hil hl).mono ?_
            rintro e w2 ⟨rfl, hb2⟩
            have hS2 := hS1.next hb2
            have HS2 := hide hS2
            have hpl : (ix + ns.length - 1) % ns.length < ns.length := Nat.mod_lt _ (by omega)
            generalize (ix + ns.length - 1) % ns.length = px at *
            have hcw := hS2.row.cell hil
            have hfw := fun j => hS2.row.frozen j
            have hcw2 := (hS2.set ix true).row.cell hpl
            clear hS1 hS2 hrc hb2 HS1
            go_wp2
            go_roundw
            case rel => (repeat apply Exists.intro); exact ⟨⟨k + 1, by omega, by go_num, (((unhide HS2).set ix true).set px true).congr (unhide HMI).symm⟩, rfl⟩
            case measure => simp [intOf]; omega
          · have hix := idxI_miss _ _ hin
            rw [hix]
            have HMI := hide ((unhide HM).trans (mark2_out _ _ _ hin))
            clear hin hix HM hS1
            go_wp2
            go_roundw
            case rel => (repeat apply Exists.intro); exact ⟨⟨k + 1, by omega, by go_num, (unhide HS1).congr (unhide HMI).symm⟩, rfl⟩
            case measure => simp [intOf]; omega
        · go_wp2
          go_ret
          refine ⟨w.heap.size + 2, rfl, hS.bel, ?_⟩
          rw [List.take_of_length_le (by rw [nms_length]; omega)] at hS
          exact hS.row
end Go.Proofs.Qxb6614768a
