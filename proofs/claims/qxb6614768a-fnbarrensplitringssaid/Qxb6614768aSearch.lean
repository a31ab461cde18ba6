import Derived.Test.Qxb6614768aBuild
namespace Go.Proofs.Qxb6614768a
open Go.RowKit Go.Deep

def StateIn (w : World) (rb i : Nat) (r : RingD) (eb kb : Nat) : Prop :=
  w.cell? ⟨rb, i * 10, none⟩ = some (.string ByteArray.empty) ∧ w.cell? ⟨rb, i * 10 + 1, none⟩ = some (.int .i64 0) ∧ w.cell? ⟨rb, i * 10 + 2, none⟩ = some (.int .u64 0) ∧
    w.cell? ⟨rb, i * 10 + 3, none⟩ = some (.string ByteArray.empty) ∧ w.cell? ⟨rb, i * 10 + 4, none⟩ = some (.string ByteArray.empty) ∧ w.cell? ⟨rb, i * 10 + 5, none⟩ = some (.string r.gw) ∧
    w.cell? ⟨rb, i * 10 + 6, none⟩ = some (.string r.cl) ∧ w.cell? ⟨rb, i * 10 + 7, none⟩ = some (.string ByteArray.empty) ∧ w.cell? ⟨rb, i * 10 + 8, none⟩ = some (.slice (some ⟨eb, 0, none⟩) r.names.length r.names.length) ∧
    w.cell? ⟨rb, i * 10 + 9, none⟩ = some (.slice (some ⟨kb, 0, none⟩) r.kids.length r.kids.length) ∧ EntsAt w eb r.names ∧ KidsAt w kb r.kids

/-- What is laid of the search when k rings are through. -/
structure BS (w wr : World) (rs : List RingD) (k : Nat) : Prop where
  bel : Below w.heap.size w wr
  sz : w.heap.size + 2 ≤ wr.heap.size
  rows : ∃ f, wr.rowIs w.heap.size 54 (rs.length * 10) f
  deps : ∃ g, wr.rowIs (w.heap.size + 1) 3 rs.length g
  each : ∀ i, (h : i < rs.length) → i < k → (∃ eb kb, w.heap.size + 2 ≤ eb ∧ w.heap.size + 2 ≤ kb ∧ StateIn wr w.heap.size i rs[i] eb kb) ∧ wr.cell? ⟨w.heap.size + 1, i, none⟩ = some (.int .i64 rs[i].depth)

theorem BS_start (w : World) (rs : List RingD) (z : Array Value) :
    BS w ((w.alloc (.cells (madeCells z (rs.length * 10)) 54)).alloc (.cells (madeCells #[.int .i64 0] rs.length) 3)) rs 0 := by
  have e1 : (w.alloc (.cells (madeCells z (rs.length * 10)) 54)).heap.size = w.heap.size + 1 := by simp
  refine ⟨((Below.refl _ _).alloc (Nat.le_refl _) _).alloc (by omega) _, by simp, ⟨_, (rowIs_made_wide _ _ _ _).alloc _⟩, ?_, fun i _ h => absurd h (by omega)⟩
  rw [← e1]
  exact ⟨_, World.rowIs_made _ _ _ _⟩

def set10 (w : World) (b o : Nat) (gw cl : ByteArray) (ev kv : Value) : World :=
  (((((((((w.setCell ⟨b, o, none⟩ (.string ⟨#[]⟩)).setCell ⟨b, o + 1, none⟩ (.int .i64 0)).setCell ⟨b, o + 2, none⟩ (.int .u64 0)).setCell ⟨b, o + 3, none⟩ (.string ⟨#[]⟩)).setCell ⟨b, o + 4, none⟩ (.string ⟨#[]⟩)).setCell ⟨b, o + 5, none⟩ (.string gw)).setCell
    ⟨b, o + 6, none⟩ (.string cl)).setCell ⟨b, o + 7, none⟩ (.string ⟨#[]⟩)).setCell ⟨b, o + 8, none⟩ ev).setCell ⟨b, o + 9, none⟩ kv

section
variable {w : World} {b o : Nat} {gw cl : ByteArray} {ev kv : Value}
theorem set10_blk {k : Nat} (h : k ≠ b) : (set10 w b o gw cl ev kv).heap[k]? = w.heap[k]? := by
  unfold set10
  rw [blk_setCell_other _ _ _ _ h, blk_setCell_other _ _ _ _ h, blk_setCell_other _ _ _ _ h, blk_setCell_other _ _ _ _ h, blk_setCell_other _ _ _ _ h, blk_setCell_other _ _ _ _ h, blk_setCell_other _ _ _ _ h, blk_setCell_other _ _ _ _ h, blk_setCell_other _ _ _ _ h, blk_setCell_other _ _ _ _ h]
theorem set10_row {t : TypeId} {n : Nat} {f : Nat → Value} (h : w.rowIs b t n f) : (set10 w b o gw cl ev kv).rowIs b t n (fun i =>
    if i = o + 9 then kv else if i = o + 8 then ev else if i = o + 7 then .string ⟨#[]⟩ else if i = o + 6 then .string cl else if i = o + 5 then .string gw else if i = o + 4 then .string ⟨#[]⟩ else if i = o + 3 then .string ⟨#[]⟩ else if i = o + 2 then .int .u64 0 else if i = o + 1 then .int .i64 0 else if i = o then .string ⟨#[]⟩ else f i) := by
  unfold set10
  exact (((((((((h.set _ _).set _ _).set _ _).set _ _).set _ _).set _ _).set _ _).set _ _).set _ _).set _ _
theorem set10_size : (set10 w b o gw cl ev kv).heap.size = w.heap.size := by simp [set10]
theorem set10_frozen (a : Addr) : (set10 w b o gw cl ev kv).frozen? a = w.frozen? a := by simp [set10]
theorem set10_below {B : Nat} {a : World} (h : Below B a w) (hb : B ≤ b) : Below B a (set10 w b o gw cl ev kv) := by
  unfold set10
  exact (((((((((h.setCell hb _).setCell hb _).setCell hb _).setCell hb _).setCell hb _).setCell hb _).setCell hb _).setCell hb _).setCell hb _).setCell hb _
theorem cell_of_blk {w w' : World} {a : Addr} (h : w'.heap[a.block]? = w.heap[a.block]?) : w'.cell? a = w.cell? a := by simp [World.cell?, h]
theorem set10_cell {a : Addr} (h : a.block ≠ b) : (set10 w b o gw cl ev kv).cell? a = w.cell? a := cell_of_blk (set10_blk h)
theorem set10_old {t : TypeId} {n : Nat} {f : Nat → Value} (hr : w.rowIs b t n f) {i : Nat} (hi : i < o) (hn : i < n) : (set10 w b o gw cl ev kv).cell? ⟨b, i, none⟩ = w.cell? ⟨b, i, none⟩ := by
  rw [(set10_row hr).cell hn, hr.cell hn]
  rw [if_neg (by omega), if_neg (by omega), if_neg (by omega), if_neg (by omega), if_neg (by omega), if_neg (by omega), if_neg (by omega), if_neg (by omega), if_neg (by omega), if_neg (by omega)]
end

theorem BS.drew {w wr : World} {rs : List RingD} {k : Nat} (h : BS w wr rs k) : BS w wr.drew rs k := ⟨h.bel.drew, h.sz, h.rows, h.deps, h.each⟩

/-- One ring more is laid. -/
theorem BS_step {w wo w1 wr : World} {rs : List RingD} {k : Nat} (h : BS w wo rs k) (hk : k < rs.length) (hb1 : Below wo.heap.size wo w1) (hb2 : Below w1.heap.size w1 wr) (he : EntsAt w1 wo.heap.size rs[k].names) (hc : KidsAt wr w1.heap.size rs[k].kids) :
    BS w ((set10 wr w.heap.size (k * 10) rs[k].gw rs[k].cl (.slice (some ⟨wo.heap.size, 0, none⟩) rs[k].names.length rs[k].names.length) (.slice (some ⟨w1.heap.size, 0, none⟩) rs[k].kids.length rs[k].kids.length)).setCell ⟨w.heap.size + 1, k, none⟩ (.int .i64 rs[k].depth)) rs (k + 1) := by
  obtain ⟨f, hrows⟩ := h.rows
  obtain ⟨g, hdeps⟩ := h.deps
  have hr2 := rowIs_below (rowIs_below hrows hb1) hb2
  have hd2 := rowIs_below (rowIs_below hdeps hb1) hb2
  have hsz := h.sz
  have hsz1 := hb1.size
  have hsz2 := hb2.size
  have hbw : Below w.heap.size w wr := (h.bel.trans (hb1.mono (by omega))).trans (hb2.mono (by omega))
  have hd3 : (set10 wr w.heap.size (k * 10) rs[k].gw rs[k].cl (.slice (some ⟨wo.heap.size, 0, none⟩) rs[k].names.length rs[k].names.length) (.slice (some ⟨w1.heap.size, 0, none⟩) rs[k].kids.length rs[k].kids.length)).rowIs (w.heap.size + 1) 3 rs.length g := hd2.of_block (set10_blk (by omega))
  have keep : ∀ (a : Addr) (v : Value), wr.cell? a = some v → w.heap.size + 2 ≤ a.block → ((set10 wr w.heap.size (k * 10) rs[k].gw rs[k].cl (.slice (some ⟨wo.heap.size, 0, none⟩) rs[k].names.length rs[k].names.length) (.slice (some ⟨w1.heap.size, 0, none⟩) rs[k].kids.length rs[k].kids.length)).setCell ⟨w.heap.size + 1, k, none⟩ (.int .i64 rs[k].depth)).cell? a = some v := by
    intro a v hv ha
    rw [cell_of_blk (blk_setCell_other _ _ _ _ (by show a.block ≠ w.heap.size + 1; omega)), set10_cell (by omega)]
    exact hv
  have cellB : ∀ i, ((set10 wr w.heap.size (k * 10) rs[k].gw rs[k].cl (.slice (some ⟨wo.heap.size, 0, none⟩) rs[k].names.length rs[k].names.length) (.slice (some ⟨w1.heap.size, 0, none⟩) rs[k].kids.length rs[k].kids.length)).setCell ⟨w.heap.size + 1, k, none⟩ (.int .i64 rs[k].depth)).cell? ⟨w.heap.size, i, none⟩ = (set10 wr w.heap.size (k * 10) rs[k].gw rs[k].cl (.slice (some ⟨wo.heap.size, 0, none⟩) rs[k].names.length rs[k].names.length) (.slice (some ⟨w1.heap.size, 0, none⟩) rs[k].kids.length rs[k].kids.length)).cell? ⟨w.heap.size, i, none⟩ := by
    intro i
    exact cell_of_blk (blk_setCell_other _ _ _ _ (by show w.heap.size ≠ w.heap.size + 1; omega))
  have keepE : ∀ b ns, EntsAt wr b ns → w.heap.size + 2 ≤ b → EntsAt ((set10 wr w.heap.size (k * 10) rs[k].gw rs[k].cl (.slice (some ⟨wo.heap.size, 0, none⟩) rs[k].names.length rs[k].names.length) (.slice (some ⟨w1.heap.size, 0, none⟩) rs[k].kids.length rs[k].kids.length)).setCell ⟨w.heap.size + 1, k, none⟩ (.int .i64 rs[k].depth)) b ns :=
    fun b ns hE hb i hi => ⟨keep _ _ (hE i hi).1 hb, keep _ _ (hE i hi).2 hb⟩
  have keepK : ∀ b ns, KidsAt wr b ns → w.heap.size + 2 ≤ b → KidsAt ((set10 wr w.heap.size (k * 10) rs[k].gw rs[k].cl (.slice (some ⟨wo.heap.size, 0, none⟩) rs[k].names.length rs[k].names.length) (.slice (some ⟨w1.heap.size, 0, none⟩) rs[k].kids.length rs[k].kids.length)).setCell ⟨w.heap.size + 1, k, none⟩ (.int .i64 rs[k].depth)) b ns :=
    fun b ns hE hb i hi => ⟨keep _ _ (hE i hi).1 hb, keep _ _ (hE i hi).2.1 hb, keep _ _ (hE i hi).2.2.1 hb, keep _ _ (hE i hi).2.2.2 hb⟩
  refine ⟨(set10_below hbw (Nat.le_refl _)).setCell (by show w.heap.size ≤ w.heap.size + 1; omega) _, by simp [set10_size]; omega, ⟨_, (set10_row hr2).setOther (by show w.heap.size ≠ w.heap.size + 1; omega) _⟩, ⟨_, hd3.set _ _⟩, ?_⟩
  intro i hi hik
  by_cases hlt : i < k
  · obtain ⟨⟨eb, kb, he1, hk1, st⟩, hdp⟩ := h.each i hi hlt
    obtain ⟨c0, c1, c2, c3, c4, c5, c6, c7, c8, c9, cE, cK⟩ := st
    have up : ∀ t v, t < 10 → wo.cell? ⟨w.heap.size, i * 10 + t, none⟩ = some v → ((set10 wr w.heap.size (k * 10) rs[k].gw rs[k].cl (.slice (some ⟨wo.heap.size, 0, none⟩) rs[k].names.length rs[k].names.length) (.slice (some ⟨w1.heap.size, 0, none⟩) rs[k].kids.length rs[k].kids.length)).setCell ⟨w.heap.size + 1, k, none⟩ (.int .i64 rs[k].depth)).cell? ⟨w.heap.size, i * 10 + t, none⟩ = some v := by
      intro t v ht hv
      rw [cellB, set10_old hr2 (by omega) (by omega)]
      exact cell_below hb2 (cell_below hb1 hv)
    refine ⟨⟨eb, kb, he1, hk1, up 0 _ (by omega) c0, up 1 _ (by omega) c1, up 2 _ (by omega) c2, up 3 _ (by omega) c3, up 4 _ (by omega) c4, up 5 _ (by omega) c5, up 6 _ (by omega) c6, up 7 _ (by omega) c7, up 8 _ (by omega) c8, up 9 _ (by omega) c9,
      keepE _ _ ((cE.below hb1).below hb2) he1, keepK _ _ ((cK.below hb1).below hb2) hk1⟩, ?_⟩
    have hgi := hd2.cell hi
    have hdw := cell_below hb2 (cell_below hb1 hdp)
    rw [(hd3.set k (.int .i64 rs[k].depth)).cell hi, if_neg (by omega)]
    rw [hgi] at hdw
    exact hdw
  · have hik' : i = k := by omega
    subst hik'
    have up : ∀ t, t < 10 → ((set10 wr w.heap.size (i * 10) rs[i].gw rs[i].cl (.slice (some ⟨wo.heap.size, 0, none⟩) rs[i].names.length rs[i].names.length) (.slice (some ⟨w1.heap.size, 0, none⟩) rs[i].kids.length rs[i].kids.length)).setCell ⟨w.heap.size + 1, i, none⟩ (.int .i64 rs[i].depth)).cell? ⟨w.heap.size, i * 10 + t, none⟩ = _ :=
      fun t ht => (cellB (i * 10 + t)).trans ((set10_row hr2).cell (i := i * 10 + t) (by omega))
    refine ⟨⟨wo.heap.size, w1.heap.size, by omega, by omega, ?_, ?_, ?_, ?_, ?_, ?_, ?_, ?_, ?_, ?_, keepE _ _ (he.below hb2) (by omega), keepK _ _ hc (by omega)⟩, ?_⟩
    · refine (up 0 (by omega)).trans ?_; simp; rfl
    · refine (up 1 (by omega)).trans ?_; simp
    · refine (up 2 (by omega)).trans ?_; simp
    · refine (up 3 (by omega)).trans ?_; simp; rfl
    · refine (up 4 (by omega)).trans ?_; simp; rfl
    · refine (up 5 (by omega)).trans ?_; simp
    · refine (up 6 (by omega)).trans ?_; simp
    · refine (up 7 (by omega)).trans ?_; simp; rfl
    · refine (up 8 (by omega)).trans ?_; simp
    · refine (up 9 (by omega)).trans ?_; simp
    · rw [(hd3.set i (.int .i64 rs[i].depth)).cell hi, if_pos rfl]

set_option maxRecDepth 100000 in
set_option maxHeartbeats 4000000 in
theorem buildSearch_any (leaver : ByteArray) (ra : Option Addr) (rc : Nat) (rs : List RingD) (depth : Int) (la : Option Addr) (lc : Nat) (ls : List ByteArray) (ha : Option Addr) (hc : Nat) (hs : List ByteArray) (w : World)
    (hR : RingsAt w ra rs) (hl : StrsAt w la ls) (hh : StrsAt w ha hs) (bl : ls.length ≤ 1048576) (bh : hs.length ≤ 1048576) (sl : ∀ s ∈ ls, s.size ≤ maxLen) (sh : ∀ s ∈ hs, s.size ≤ maxLen)
    (hr : rs.length ≤ 1048576) (hn : ∀ r ∈ rs, r.names.length ≤ 1048576 ∧ r.kids.length ≤ 1048576) :
    Calls Try.prog 8 #[.string leaver, .slice ra rs.length rc, .int .i64 depth, .slice la ls.length lc, .slice ha hs.length hc] w fun e w' =>
      Below w.heap.size w w' ∧ ∃ sp rb db v, e = .returned (.pointer (some ⟨sp, 0, none⟩)) ∧ SearchAt w' sp rb db v leaver rs depth (fun x => decide (x ∈ nms ls)) := by
  have hm1 := run_make_wide (P := Try.prog) 38 54 _ 10 160 Try.underlying38 info54 .i64 .i64 rs.length (by omega) (by omega)
  have hm2 := run_make_row' (P := Try.prog) 39 3 _ 8 Try.underlying39 info3 rfl .i64 .i64 rs.length (by omega) (by omega)
  go_enter Try.func8, Try.ntmps8
  go_wp2
  clear hm1 hm2
  go_loopw [13] (fun i wr => ∃ k : Nat, k ≤ rs.length ∧ i = .int .i64 k ∧ BS w wr rs k) (fun i _ => rs.length - (intOf i).toNat)
  case atStart => exact ⟨0, by omega, rfl, BS_start w rs _⟩
  case round =>
    obtain ⟨k, hk, rfl, hB⟩ := hrel
    by_cases hlt : k < rs.length
    · obtain ⟨rb, ro, rfl, hRA⟩ := hR k hlt
      have hrbw : rb < w.heap.size := by obtain ⟨_, _, _, _, g, _⟩ := hRA; exact block_lt_of_cell g
      obtain ⟨na, nc, ka, kc, g0, g1, g2, g3, g4, gn, gk⟩ := hRA.below hB.bel
      obtain ⟨bn, bk⟩ := hn _ (List.getElem_mem hlt)
      have hm1 := run_make_wide (P := Try.prog) 40 43 _ 2 24 Try.underlying40 info43 .i64 .i64 rs[k].names.length (by omega) (by omega)
      have hrb : rb < wr.heap.size := block_lt_of_cell g0
      go_wp2
      clear hm1
      obtain ⟨wo, hwo⟩ : ∃ wo, wo = wr := ⟨wr, rfl⟩
      subst hwo
      have HB := hide hB
      have hfe := block_lt_of_cell g0
      go_loopw [15] (fun i w2 => ∃ j : Nat, j ≤ rs[k].names.length ∧ i = .int .i64 j ∧ Below wo.heap.size wo w2 ∧ wo.heap.size < w2.heap.size ∧ w2.rowIs wo.heap.size 43 (rs[k].names.length * 2) (entCell rs[k].names j)) (fun i _ => rs[k].names.length - (intOf i).toNat)
      case atStart => exact ⟨0, by omega, rfl, (Below.refl _ _).alloc (Nat.le_refl _) _, by simp, ents_start wo _ _⟩
      case round =>
        clear hB
        obtain ⟨j, hj, rfl, hb1, hs1, hrow⟩ := hrel
        have f0 := cell_below hb1 g0
        have f3 := cell_below hb1 g3
        by_cases hjl : j < rs[k].names.length
        · obtain ⟨nb, no, rfl, gs⟩ := gn j hjl
          have fs := cell_below hb1 gs
          have hstep := hide (ents_step hrow hjl)
          have e0 := hrow.cell (i := j * 2) (by omega)
          have e1 := hrow.cell (i := j * 2 + 1) (by omega)
          have ef := fun i => hrow.frozen i
          have hbel := (hb1.setCell (p := ⟨wo.heap.size, j * 2, none⟩) (Nat.le_refl _) (.string rs[k].names[j])).setCell (p := ⟨wo.heap.size, j * 2 + 1, none⟩) (Nat.le_refl _) (.int .i64 0)
          have HBE := hide hbel
          clear hrow hbel
          go_wp2
          go_roundw
          case rel => exact ⟨j + 1, by omega, by go_num, HBE.out, by simpa using hs1, hstep.out⟩
          case measure => simp [intOf]; omega
        · have hm2 := run_make_wide (P := Try.prog) 44 47 _ 4 56 Try.underlying44 info47 .i64 .i64 rs[k].kids.length (by omega) (by omega)
          have hjn : j = rs[k].names.length := by omega
          subst hjn
          have hents := ents_of_row hrow
          go_wp2
          clear hm2 hrow
          obtain ⟨w1, hw1⟩ : ∃ w1, w1 = wr := ⟨wr, rfl⟩
          subst hw1
          go_loopw [17] (fun i w2 => ∃ j : Nat, j ≤ rs[k].kids.length ∧ i = .int .i64 j ∧ Below w1.heap.size w1 w2 ∧ w1.heap.size < w2.heap.size ∧ w2.rowIs w1.heap.size 47 (rs[k].kids.length * 4) (kidCell rs[k].kids j)) (fun i _ => rs[k].kids.length - (intOf i).toNat)
          case atStart => exact ⟨0, by omega, rfl, (Below.refl _ _).alloc (Nat.le_refl _) _, by simp, kids_start w1 _ _⟩
          case round =>
            obtain ⟨j, hj, rfl, hb2, hs2, hrow⟩ := hrel
            have q3 := cell_below hb2 f3
            by_cases hjl : j < rs[k].kids.length
            · obtain ⟨nb, no, rfl, gs⟩ := gk j hjl
              have fs := cell_below hb2 (cell_below hb1 gs)
              have hstep := hide (kids_step hrow hjl)
              have e0 := hrow.cell (i := j * 4) (by omega)
              have e1 := hrow.cell (i := j * 4 + 1) (by omega)
              have e2 := hrow.cell (i := j * 4 + 2) (by omega)
              have e3 := hrow.cell (i := j * 4 + 3) (by omega)
              have ef := fun i => hrow.frozen i
              have hbel := (((hb2.setCell (p := ⟨w1.heap.size, j * 4, none⟩) (Nat.le_refl _) (.string ByteArray.empty)).setCell (p := ⟨w1.heap.size, j * 4 + 1, none⟩) (Nat.le_refl _) (.string rs[k].kids[j])).setCell (p := ⟨w1.heap.size, j * 4 + 2, none⟩) (Nat.le_refl _) (.string ByteArray.empty)).setCell (p := ⟨w1.heap.size, j * 4 + 3, none⟩) (Nat.le_refl _) (.int .i64 0)
              have HBE := hide hbel
              clear hrow hbel
              go_wp2
              go_roundw
              case rel => exact ⟨j + 1, by omega, by go_num, HBE.out, by simpa using hs2, hstep.out⟩
              case measure => simp [intOf]; omega
            · have hjn : j = rs[k].kids.length := by omega
              subst hjn
              have hkids := kids_of_row hrow
              have h1 := cell_below hb2 (cell_below hb1 g1)
              have h2 := cell_below hb2 (cell_below hb1 g2)
              have h4 := cell_below hb2 (cell_below hb1 g4)
              obtain ⟨f, hrows⟩ := (unhide HB).rows
              obtain ⟨g, hdeps⟩ := (unhide HB).deps
              have hrows2 := rowIs_below (rowIs_below hrows hb1) hb2
              have hdeps2 := rowIs_below (rowIs_below hdeps hb1) hb2
              have p0 := hrows2.cell (i := k * 10) (by omega)
              have p1 := hrows2.cell (i := k * 10 + 1) (by omega)
              have p2 := hrows2.cell (i := k * 10 + 2) (by omega)
              have p3 := hrows2.cell (i := k * 10 + 3) (by omega)
              have p4 := hrows2.cell (i := k * 10 + 4) (by omega)
              have p5 := hrows2.cell (i := k * 10 + 5) (by omega)
              have p6 := hrows2.cell (i := k * 10 + 6) (by omega)
              have p7 := hrows2.cell (i := k * 10 + 7) (by omega)
              have p8 := hrows2.cell (i := k * 10 + 8) (by omega)
              have p9 := hrows2.cell (i := k * 10 + 9) (by omega)
              have pf := fun i => hrows2.frozen i
              have pd := hdeps2.cell (i := k) hlt
              have pfd := fun i => hdeps2.frozen i
              have hk0 : (k : Int) < (rs.length : Int) := by omega
              have HST := hide (BS_step (unhide HB) hlt hb1 hb2 hents hkids)
              have hx4 : (set10 wr w.heap.size (k * 10) rs[k].gw rs[k].cl (.slice (some ⟨wo.heap.size, 0, none⟩) rs[k].names.length rs[k].names.length) (.slice (some ⟨w1.heap.size, 0, none⟩) rs[k].kids.length rs[k].kids.length)).cell? ⟨rb, ro + k * 5 + 4, none⟩ = some (.int .i64 rs[k].depth) := by
                rw [set10_cell (by show rb ≠ w.heap.size; omega)]; exact h4
              have hxd : (set10 wr w.heap.size (k * 10) rs[k].gw rs[k].cl (.slice (some ⟨wo.heap.size, 0, none⟩) rs[k].names.length rs[k].names.length) (.slice (some ⟨w1.heap.size, 0, none⟩) rs[k].kids.length rs[k].kids.length)).cell? ⟨w.heap.size + 1, k, none⟩ = some (g k) := by
                rw [set10_cell (by show w.heap.size + 1 ≠ w.heap.size; omega)]; exact pd
              have hxf : (set10 wr w.heap.size (k * 10) rs[k].gw rs[k].cl (.slice (some ⟨wo.heap.size, 0, none⟩) rs[k].names.length rs[k].names.length) (.slice (some ⟨w1.heap.size, 0, none⟩) rs[k].kids.length rs[k].kids.length)).frozen? ⟨w.heap.size + 1, k, none⟩ = false := by
                rw [set10_frozen]; exact pfd k
              have HX4 := hide hx4
              have HXD := hide hxd
              have HXF := hide hxf
              clear hrow hrows hdeps hrows2 hdeps2 hx4 hxd hxf
              go_wp2
              go_region
              change Exit.then _ _ _ _ (set10 wr w.heap.size (k * 10) rs[k].gw rs[k].cl (.slice (some ⟨wo.heap.size, 0, none⟩) rs[k].names.length rs[k].names.length) (.slice (some ⟨w1.heap.size, 0, none⟩) rs[k].kids.length rs[k].kids.length)).drew
              generalize set10 wr w.heap.size (k * 10) rs[k].gw rs[k].cl (.slice (some ⟨wo.heap.size, 0, none⟩) rs[k].names.length rs[k].names.length) (.slice (some ⟨w1.heap.size, 0, none⟩) rs[k].kids.length rs[k].kids.length) = wx at *
              have hx4 := unhide HX4
              have hxd := unhide HXD
              have hxf := unhide HXF
              clear p0 p1 p2 p3 p4 p5 p6 p7 p8 p9 pf pd pfd h1 h2 h4 q3 HX4 HXD HXF hents hkids
              go_wp2
              go_roundw
              case rel => exact ⟨k + 1, by omega, by go_num, (unhide HST).drew⟩
              case measure => simp [intOf]; omega
    · have hkn : k = rs.length := by omega
      subst hkn
      have hsz := hB.sz
      go_wp2_with fail
      refine (probeTable_any la lc ls ha hc hs wr (hl.below hB.bel) (hh.below hB.bel) bl bh sl sh).mono ?_
      rintro e w1 ⟨hb1, v, rfl, hv⟩
      have hv' : ∃ a n c, v = .slice a n c := by
        rcases hv with ⟨rfl, _⟩ | ⟨b, n, m, cap, S, U, L, rfl, _⟩
        · exact ⟨_, _, _, rfl⟩
        · exact ⟨_, _, _, rfl⟩
      have hsz1 := hb1.size
      obtain ⟨va, vn, vc, rfl⟩ := hv'
      go_wp2_with fail
      refine (newSearch_any leaver _ _ _ depth w1 ⟨_, _, _, rfl⟩ ⟨_, _, _, rfl⟩ ⟨_, _, _, rfl⟩).mono ?_
      rintro e w2 ⟨rfl, c, rfl, c0, c4, c6, c8, c9⟩
      have hbn : Below w1.heap.size w1 (w1.alloc (.cells c 65)) := (Below.refl _ _).alloc (Nat.le_refl _) _
      have hfin : SearchAt (w1.alloc (.cells c 65)) w1.heap.size w.heap.size (w.heap.size + 1) (.slice va vn vc) leaver rs depth (fun x => decide (x ∈ nms ls)) := by
        refine ⟨?_, hv.below hbn, ?_, ?_, ?_, ?_, ?_⟩
        · rw [World.cell?_alloc_at _ _ _ _ rfl]; exact c0
        · rw [World.cell?_alloc_at _ _ _ _ rfl]; exact c4
        · rw [World.cell?_alloc_at _ _ _ _ rfl]; exact c6
        · rw [World.cell?_alloc_at _ _ _ _ rfl]; exact c8
        · rw [World.cell?_alloc_at _ _ _ _ rfl]; exact c9
        · intro i hi
          obtain ⟨⟨eb, kb, _, _, hst⟩, hd⟩ := hB.each i hi hi
          exact ⟨(StateAt.below (StateAt.below ⟨eb, kb, hst⟩ hb1) hbn), cell_below hbn (cell_below hb1 hd)⟩
      have hbel := (hB.bel.trans (hb1.mono (by omega))).trans (hbn.mono (by omega))
      have HF := hide hfin
      have HE := hide hbel
      clear hfin hbel hbn hv hB hb1 c0 c4 c6 c8 c9
      go_wp2
      go_ret
      exact ⟨HE.out, _, _, _, _, rfl, HF.out⟩
end Go.Proofs.Qxb6614768a
