import Derived.Test.Qxb6614768aRing
namespace Go.Proofs.Qxb6614768a
open Go.RowKit Go.Deep

/-- One ring as a law draws it. -/
structure RingD where
  names : List ByteArray
  gw : ByteArray
  cl : ByteArray
  kids : List ByteArray
  depth : Int

def okAt (leaver self : List UInt8) (B : List UInt8 → Bool) (r : RingD) (j : Nat) : Bool :=
  (nms r.names).getD j [] == leaver || (nms r.names).getD j [] == self || linkedF (nms r.names) r.gw.toList r.cl.toList (nms r.kids) j || B ((nms r.names).getD j [])
def okRing (leaver self : List UInt8) (B : List UInt8 → Bool) (depth : Int) (r : RingD) : Bool :=
  decide (depth < r.depth) || (List.range r.names.length).all (okAt leaver self B r)
def barrenF (leaver self : List UInt8) (B : List UInt8 → Bool) (depth : Int) (rs : List RingD) : Bool := rs.all (okRing leaver self B depth)

/-- The state of ring r in block rb at place i. -/
def StateAt (w : World) (rb i : Nat) (r : RingD) : Prop :=
  ∃ eb kb, w.cell? ⟨rb, i * 10, none⟩ = some (.string ByteArray.empty) ∧ w.cell? ⟨rb, i * 10 + 1, none⟩ = some (.int .i64 0) ∧ w.cell? ⟨rb, i * 10 + 2, none⟩ = some (.int .u64 0) ∧
    w.cell? ⟨rb, i * 10 + 3, none⟩ = some (.string ByteArray.empty) ∧ w.cell? ⟨rb, i * 10 + 4, none⟩ = some (.string ByteArray.empty) ∧ w.cell? ⟨rb, i * 10 + 5, none⟩ = some (.string r.gw) ∧
    w.cell? ⟨rb, i * 10 + 6, none⟩ = some (.string r.cl) ∧ w.cell? ⟨rb, i * 10 + 7, none⟩ = some (.string ByteArray.empty) ∧ w.cell? ⟨rb, i * 10 + 8, none⟩ = some (.slice (some ⟨eb, 0, none⟩) r.names.length r.names.length) ∧
    w.cell? ⟨rb, i * 10 + 9, none⟩ = some (.slice (some ⟨kb, 0, none⟩) r.kids.length r.kids.length) ∧ EntsAt w eb r.names ∧ KidsAt w kb r.kids

theorem StateAt.below {w w' : World} {rb i : Nat} {r : RingD} (h : StateAt w rb i r) (hb : Below w.heap.size w w') : StateAt w' rb i r := by
  obtain ⟨eb, kb, h0, h1, h2, h3, h4, h5, h6, h7, h8, h9, he, hk⟩ := h
  exact ⟨eb, kb, cell_below hb h0, cell_below hb h1, cell_below hb h2, cell_below hb h3, cell_below hb h4, cell_below hb h5, cell_below hb h6, cell_below hb h7, cell_below hb h8, cell_below hb h9, he.below hb, hk.below hb⟩

/-- The search in block sp. -/
structure SearchAt (w : World) (sp rb db : Nat) (v : Value) (leaver : ByteArray) (rs : List RingD) (depth : Int) (B : List UInt8 → Bool) : Prop where
  tab : w.cell? ⟨sp, 0, none⟩ = some v
  probes : ProbesAt w v B
  leav : w.cell? ⟨sp, 4, none⟩ = some (.string leaver)
  rings : w.cell? ⟨sp, 6, none⟩ = some (.slice (some ⟨rb, 0, none⟩) rs.length rs.length)
  depths : w.cell? ⟨sp, 8, none⟩ = some (.slice (some ⟨db, 0, none⟩) rs.length rs.length)
  dep : w.cell? ⟨sp, 9, none⟩ = some (.int .i64 depth)
  each : ∀ i, (h : i < rs.length) → StateAt w rb i rs[i] ∧ w.cell? ⟨db, i, none⟩ = some (.int .i64 rs[i].depth)

theorem ProbesAt.below {w w' : World} {v : Value} {B : List UInt8 → Bool} (h : ProbesAt w v B) (hb : Below w.heap.size w w') : ProbesAt w' v B := by
  rcases h with h | ⟨b, n, m, cap, S, U, L, h1, h2, h3, h4, h5⟩
  · exact .inl h
  · exact .inr ⟨b, n, m, cap, S, U, L, h1, h2, h3, h4.below hb, h5⟩

theorem SearchAt.below {w w' : World} {sp rb db : Nat} {v : Value} {leaver : ByteArray} {rs : List RingD} {depth : Int} {B : List UInt8 → Bool} (h : SearchAt w sp rb db v leaver rs depth B) (hb : Below w.heap.size w w') : SearchAt w' sp rb db v leaver rs depth B :=
  ⟨cell_below hb h.tab, h.probes.below hb, cell_below hb h.leav, cell_below hb h.rings, cell_below hb h.depths, cell_below hb h.dep, fun i hi => ⟨(h.each i hi).1.below hb, cell_below hb (h.each i hi).2⟩⟩

theorem cell_box (w : World) (c : Array Value) (t : TypeId) (n i : Nat) {v : Value} (h : c[i]? = some v := by rfl) : ((w.alloc (.cells c t)).drewN n).cell? ⟨w.heap.size, i, none⟩ = some v := by
  show (w.alloc (.cells c t)).cell? ⟨w.heap.size, i, none⟩ = some v
  rw [World.cell?_alloc_at c t w.heap.size i rfl]; exact h

theorem okRing_false {leaver self : List UInt8} {B : List UInt8 → Bool} {depth : Int} {r : RingD} (hd : ¬ depth < r.depth) {j : Nat} (hj : j < r.names.length) (h : okAt leaver self B r j = false) : okRing leaver self B depth r = false := by
  have : (List.range r.names.length).all (okAt leaver self B r) = false := by
    rw [List.all_eq_false]
    exact ⟨j, List.mem_range.2 hj, by simp [h]⟩
  simp [okRing, hd, this]

set_option maxHeartbeats 4000000 in
theorem barren_any (sp rb db : Nat) (v : Value) (leaver self : ByteArray) (rs : List RingD) (depth : Int) (B : List UInt8 → Bool) (w : World) (hS : SearchAt w sp rb db v leaver rs depth B)
    (hr : rs.length ≤ 1048576) (hn : ∀ r ∈ rs, r.names.length ≤ 1048576 ∧ r.kids.length ≤ 1048576 ∧ ∀ s ∈ r.names, s.size ≤ maxLen) :
    Calls Try.prog 18 #[.pointer (some ⟨sp, 0, none⟩), .string self] w fun e w' => e = .returned (.bool (barrenF leaver.toList self.toList B depth rs)) ∧ Below w.heap.size w w' := by
  have c6 := hS.rings
  go_enter Try.func18, Try.ntmps18
  go_wp2
  clear c6
  go_loopw [15] (fun i wr => ∃ k : Nat, k ≤ rs.length ∧ i = .int .i64 k ∧ Below w.heap.size w wr ∧ (rs.take k).all (okRing leaver.toList self.toList B depth) = true) (fun i _ => rs.length - (intOf i).toNat)
  case atStart => exact ⟨0, by omega, rfl, Below.refl _ _, by simp⟩
  case round =>
    obtain ⟨k, hk, rfl, hb, hall⟩ := hrel
    have HALL := hide hall
    clear hall
    by_cases hlt : k < rs.length
    · have hS1 := hS.below hb
      have hsz := hb.size
      obtain ⟨⟨eb, kb, g0, g1, g2, g3, g4, g5, g6, g7, g8, g9, he, hkid⟩, gd⟩ := hS1.each k hlt
      obtain ⟨bn, bk, bs⟩ := hn _ (List.getElem_mem hlt)
      have c8 := hS1.depths
      have c9 := hS1.dep
      have hl0 : (k : Int) < (rs.length : Int) := by omega
      have HT : Hid ((rs.take (k + 1)).all (okRing leaver.toList self.toList B depth) = okRing leaver.toList self.toList B depth rs[k]) := by
        show _ = _
        rw [List.take_succ_eq_append_getElem hlt, List.all_append, HALL.out]; simp
      have HBF : Hid (okRing leaver.toList self.toList B depth rs[k] = false → barrenF leaver.toList self.toList B depth rs = false) := by
        show _ → _
        intro h
        rw [barrenF, List.all_eq_false]
        exact ⟨_, List.getElem_mem hlt, by simp [h]⟩
      generalize rs[k] = r at *
      have hsp : sp < wr.heap.size := block_lt_of_cell c8
      have hdb : db < wr.heap.size := block_lt_of_cell gd
      by_cases hd : depth < r.depth
      · go_wp2
        go_quiet (fail)
        go_wp2
        go_roundw
        case rel => exact ⟨k + 1, by omega, by go_num, below_drewN (hb.alloc hsz _) _, by rw [HT.out]; simp [okRing, hd]⟩
        case measure => simp [intOf]; omega
      · go_wp2
        go_quiet (fail)
        go_wp2_with fail
        have hb0 := below_drewN (hb.alloc hsz (.cells #[.string ByteArray.empty, .int .i64 0, .int .u64 0, .string ByteArray.empty, .string ByteArray.empty, .string r.gw, .string r.cl, .string ByteArray.empty, .slice (some ⟨eb, 0, none⟩) r.names.length r.names.length, .slice (some ⟨kb, 0, none⟩) r.kids.length r.kids.length] 54)) nq
        have hb0' := below_drewN ((Below.refl wr.heap.size wr).alloc (Nat.le_refl _) (.cells #[.string ByteArray.empty, .int .i64 0, .int .u64 0, .string ByteArray.empty, .string ByteArray.empty, .string r.gw, .string r.cl, .string ByteArray.empty, .slice (some ⟨eb, 0, none⟩) r.names.length r.names.length, .slice (some ⟨kb, 0, none⟩) r.kids.length r.kids.length] 54)) nq
        have hbx := cell_box wr #[.string ByteArray.empty, .int .i64 0, .int .u64 0, .string ByteArray.empty, .string ByteArray.empty, .string r.gw, .string r.cl, .string ByteArray.empty, .slice (some ⟨eb, 0, none⟩) r.names.length r.names.length, .slice (some ⟨kb, 0, none⟩) r.kids.length r.kids.length] 54 nq 8
        refine (subLinked_any r.gw r.cl eb kb r.names r.kids _ (he.below hb0') (hkid.below hb0') bn bk).mono ?_
        rintro e w1 ⟨lb, rfl, hb1, hrow⟩
        have hst := cell_below hb1 hbx
        have hS2 := (hS1.below hb0').below hb1
        have he2 := (he.below hb0').below hb1
        have hb2 := hb0.trans (hb1.mono (by have := hb0.size; omega))
        clear hb0 hb0' hbx hb1 he hkid g0 g1 g2 g3 g4 g5 g6 g7 g8 g9 gd hsp hdb c8 c9 hS1 hb hsz
        go_wp2
        clear hst
        go_loopw [38] (fun i w2 => ∃ j : Nat, j ≤ r.names.length ∧ i = .int .i64 j ∧ Below w1.heap.size w1 w2 ∧ (List.range j).all (okAt leaver.toList self.toList B r) = true) (fun i _ => r.names.length - (intOf i).toNat)
        case atStart => exact ⟨0, by omega, rfl, Below.refl _ _, by simp⟩
        case round =>
          obtain ⟨j, hj, rfl, hb, hall⟩ := hrel
          have HA2 := hide hall
          clear hall
          by_cases hjl : j < r.names.length
          · obtain ⟨e0, e1⟩ := he2.below hb j hjl
            have hS3 := hS2.below hb
            have c0 := hS3.tab
            have cpr := hide hS3.probes
            have c4 := hS3.leav
            have hlk := (rowIs_below hrow hb).cell hjl
            have hlb : lb < wr.heap.size := block_lt_of_cell hlk
            have hsp : sp < wr.heap.size := block_lt_of_cell c4
            have hxs := bs _ (List.getElem_mem hjl)
            have hsz := hb.size
            have hj0 : (j : Int) < (r.names.length : Int) := by omega
            have HG : Hid ((nms r.names).getD j [] = r.names[j].toList) := by
              show _ = _
              rw [List.getD_eq_getElem?_getD, List.getElem?_eq_getElem (by rw [nms_length]; exact hjl), nms_get _ _ hjl]; rfl
            have HT2 : Hid ((List.range (j + 1)).all (okAt leaver.toList self.toList B r) = (r.names[j].toList == leaver.toList || r.names[j].toList == self.toList || linkedF (nms r.names) r.gw.toList r.cl.toList (nms r.kids) j || B r.names[j].toList)) := by
              show _ = _
              rw [List.range_succ, List.all_append, HA2.out]
              simp only [List.all_cons, List.all_nil, Bool.true_and, Bool.and_true, okAt, HG.out]
            have HF : Hid (okAt leaver.toList self.toList B r j = (r.names[j].toList == leaver.toList || r.names[j].toList == self.toList || linkedF (nms r.names) r.gw.toList r.cl.toList (nms r.kids) j || B r.names[j].toList)) := by
              show _ = _
              rw [okAt, HG.out]
            clear hS3 HG
            generalize r.names[j] = x at *
            generalize linkedF (nms r.names) r.gw.toList r.cl.toList (nms r.kids) j = lk at *
            by_cases q1 : x.toList = leaver.toList
            · have q1' : (x.toList == leaver.toList) = true := by simp [q1]
              have Q1 := hide q1'
              clear q1
              go_wp2
              go_quiet (fail)
              go_wp2
              go_roundw
              case rel => exact ⟨j + 1, by omega, by go_num, below_drewN (hb.alloc hsz _) _, by rw [HT2.out, Q1.out]; simp⟩
              case measure => simp [intOf]; omega
            · have q1' : (x.toList == leaver.toList) = false := by simp [q1]
              clear q1
              by_cases q2 : x.toList = self.toList
              · have q2' : (x.toList == self.toList) = true := by simp [q2]
                have Q2 := hide q2'
                clear q2
                go_wp2
                go_quiet (fail)
                go_wp2
                go_roundw
                case rel => exact ⟨j + 1, by omega, by go_num, below_drewN (hb.alloc hsz _) _, by rw [HT2.out, Q2.out]; simp⟩
                case measure => simp [intOf]; omega
              · have q2' : (x.toList == self.toList) = false := by simp [q2]
                clear q2
                cases lk with
                | true =>
                  go_wp2
                  go_quiet (fail)
                  go_wp2
                  go_roundw
                  case rel => exact ⟨j + 1, by omega, by go_num, below_drewN (hb.alloc hsz _) _, by rw [HT2.out]; simp⟩
                  case measure => simp [intOf]; omega
                | false =>
                  have hsil := fun w' hx hv => silent_any sp 0 v x B w' hxs hx hv
                  have HSIL := hide hsil
                  clear hsil
                  cases hbx : B x.toList with
                  | true =>
                    rw [hbx] at HSIL
                    have HBX := hide hbx
                    clear hbx
                    go_wp2
                    go_quiet ((go_at_call 23; exact Calls.quiet_of (unhide HSIL _ (cell_below (below_drewN ((Below.refl _ _).alloc (Nat.le_refl _) _) _) c0) (cpr.out.below (below_drewN ((Below.refl _ _).alloc (Nat.le_refl _) _) _)))))
                    go_wp2
                    go_roundw
                    case rel => exact ⟨j + 1, by omega, by go_num, below_drewN (hb.alloc hsz _) _, by rw [HT2.out, HBX.out]; simp⟩
                    case measure => simp [intOf]; omega
                  | false =>
                    rw [hbx] at HSIL
                    have HBX := hide hbx
                    have Q1 := hide q1'
                    have Q2 := hide q2'
                    clear hbx
                    go_wp2
                    go_quiet ((go_at_call 23; exact Calls.quiet_of (unhide HSIL _ (cell_below (below_drewN ((Below.refl _ _).alloc (Nat.le_refl _) _) _) c0) (cpr.out.below (below_drewN ((Below.refl _ _).alloc (Nat.le_refl _) _) _)))))
                    go_wp2
                    go_ret
                    refine ⟨ret_bool ?_, ?_⟩
                    · refine (HBF.out (okRing_false (by omega) hjl ?_)).symm
                      rw [HF.out, Q1.out, Q2.out, HBX.out]; rfl
                    · exact below_drewN ((hb2.trans (hb.mono (by have := hb2.size; omega))).alloc (by have := hb2.size; omega) _) _
          · go_wp2
            go_roundw
            case rel =>
              have hjn : j = r.names.length := by omega
              refine ⟨k + 1, by omega, by go_num, hb2.trans (hb.mono (by have := hb2.size; omega)), ?_⟩
              rw [HT.out, okRing, ← hjn, HA2.out]; simp
            case measure => simp [intOf]; omega
    · go_wp2
      go_ret
      refine ⟨ret_bool ?_, hb⟩
      have := HALL.out
      rw [List.take_of_length_le (by omega)] at this
      exact this.symm

set_option maxHeartbeats 400000 in
theorem ZZbarren_any (sp rb db : Nat) (v : Value) (leaver self : ByteArray) (rs : List RingD) (depth : Int) (B : List UInt8 → Bool) (w : World) (hS : SearchAt w sp rb db v leaver rs depth B)
    (hr : rs.length ≤ 1048576) (hn : ∀ r ∈ rs, r.names.length ≤ 1048576 ∧ r.kids.length ≤ 1048576 ∧ ∀ s ∈ r.names, s.size ≤ maxLen) :
    Calls Try.prog 9 #[.pointer (some ⟨sp, 0, none⟩), .string self] w fun e w' => e = .returned (.bool (barrenF leaver.toList self.toList B depth rs)) ∧ Below w.heap.size w w' := by
  go_enter Try.func9, Try.ntmps9
  go_wp2_with fail
  refine (barren_any sp rb db v leaver self rs depth B w hS hr hn).mono ?_
  rintro e w1 ⟨rfl, hb⟩
  go_wp2
  go_ret
  exact ⟨rfl, hb⟩
end Go.Proofs.Qxb6614768a
