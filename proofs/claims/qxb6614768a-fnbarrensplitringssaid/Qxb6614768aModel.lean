import Derived.Test.Qxb6614768aSearch
namespace Go.Proofs.Qxb6614768a
open Go.RowKit Go.Deep

def nextOf (ns : List (List UInt8)) (j : Nat) : List UInt8 := if j + 1 < ns.length then ns.getD (j + 1) [] else ns.getD 0 []
def modelAt (leaver self : List UInt8) (lost : List (List UInt8)) (r : RingD) (j : Nat) : Bool :=
  (nms r.names).getD j [] == leaver || (nms r.names).getD j [] == self || decide ((nms r.names).getD j [] ∈ lost) || (nms r.names).getD j [] == r.gw.toList || (nms r.names).getD j [] == r.cl.toList ||
    decide ((nms r.names).getD j [] ∈ nms r.kids) || decide (nextOf (nms r.names) j ∈ nms r.kids)
def modelRing (leaver self : List UInt8) (lost : List (List UInt8)) (depth : Int) (r : RingD) : Bool :=
  decide (depth < r.depth) || (List.range r.names.length).all (modelAt leaver self lost r)
def modelF (leaver self : List UInt8) (lost : List (List UInt8)) (depth : Int) (rs : List RingD) : Bool := rs.all (modelRing leaver self lost depth)

theorem nms_getD (ns : List ByteArray) (j : Nat) (h : j < ns.length) : (nms ns).getD j [] = ns[j].toList := by
  rw [List.getD_eq_getElem?_getD, List.getElem?_eq_getElem (by rw [nms_length]; exact h), nms_get _ _ h]; rfl

theorem modelRing_false {leaver self : List UInt8} {lost : List (List UInt8)} {depth : Int} {r : RingD} (hd : ¬ depth < r.depth) {j : Nat} (hj : j < r.names.length) (h : modelAt leaver self lost r j = false) : modelRing leaver self lost depth r = false := by
  have : (List.range r.names.length).all (modelAt leaver self lost r) = false := by
    rw [List.all_eq_false]
    exact ⟨j, List.mem_range.2 hj, by simp [h]⟩
  simp [modelRing, hd, this]

set_option maxRecDepth 100000 in
set_option maxHeartbeats 4000000 in
theorem model_any (leaver self : ByteArray) (ra : Option Addr) (rc : Nat) (rs : List RingD) (depth : Int) (la : Option Addr) (lc : Nat) (ls : List ByteArray) (w : World)
    (hR : RingsAt w ra rs) (hl : StrsAt w la ls) (bl : ls.length ≤ 1048576)
    (hr : rs.length ≤ 1048576) (hn : ∀ r ∈ rs, r.names.length ≤ 1048576 ∧ r.kids.length ≤ 1048576) :
    Calls Try.prog 10 #[.string leaver, .string self, .slice ra rs.length rc, .int .i64 depth, .slice la ls.length lc] w fun e w' => e = .returned (.bool (modelF leaver.toList self.toList (nms ls) depth rs)) ∧ w' = w := by
  go_enter Try.func10, Try.ntmps10
  go_wp2
  go_loop [11] (fun i => ∃ k : Nat, k ≤ rs.length ∧ i = .int .i64 k ∧ (rs.take k).all (modelRing leaver.toList self.toList (nms ls) depth) = true) (fun i => rs.length - (intOf i).toNat)
  case atStart => exact ⟨0, by omega, rfl, by simp⟩
  case round =>
    obtain ⟨k, hk, rfl, hall⟩ := hrel
    have HALL := hide hall
    clear hall
    by_cases hlt : k < rs.length
    · obtain ⟨rb, ro, rfl, na, nc, ka, kc, g0, g1, g2, g3, g4, gn, gk⟩ := hR k hlt
      obtain ⟨bn, bk⟩ := hn _ (List.getElem_mem hlt)
      have HT : Hid ((rs.take (k + 1)).all (modelRing leaver.toList self.toList (nms ls) depth) = modelRing leaver.toList self.toList (nms ls) depth rs[k]) := by
        show _ = _
        rw [List.take_succ_eq_append_getElem hlt, List.all_append, HALL.out]; simp
      have HBF : Hid (modelRing leaver.toList self.toList (nms ls) depth rs[k] = false → modelF leaver.toList self.toList (nms ls) depth rs = false) := by
        show _ → _
        intro h
        rw [modelF, List.all_eq_false]
        exact ⟨_, List.getElem_mem hlt, by simp [h]⟩
      generalize rs[k] = r at *
      by_cases hd : depth < r.depth
      · go_wp2
        go_round
        case rel => exact ⟨k + 1, by omega, by go_num, by rw [HT.out]; simp [modelRing, hd]⟩
        case measure => simp [intOf]; omega
      · go_wp2
        go_loop [13] (fun i => ∃ j : Nat, j ≤ r.names.length ∧ i = .int .i64 j ∧ (List.range j).all (modelAt leaver.toList self.toList (nms ls) r) = true) (fun i => r.names.length - (intOf i).toNat)
        case atStart => exact ⟨0, by omega, rfl, by simp⟩
        case round =>
          obtain ⟨j, hj, rfl, hall⟩ := hrel
          have HA2 := hide hall
          clear hall
          by_cases hjl : j < r.names.length
          · obtain ⟨nb, no, rfl, cj⟩ := gn j hjl
            obtain ⟨nb0, no0, hbo, c0⟩ := gn 0 (by omega)
            simp only [Option.some.injEq, Addr.mk.injEq, and_true] at hbo
            obtain ⟨rfl, rfl⟩ := hbo
            simp only [Nat.add_zero] at c0
            have hj0 : (0 : Int) < (r.names.length : Int) := by omega
            have HT2 : Hid ((List.range (j + 1)).all (modelAt leaver.toList self.toList (nms ls) r) = modelAt leaver.toList self.toList (nms ls) r j) := by
              show _ = _
              rw [List.range_succ, List.all_append, HA2.out]; simp
            have hprep : ∃ y : ByteArray, nextOf (nms r.names) j = y.toList ∧ ((j + 1 < r.names.length ∧ w.cell? ⟨nb, no + (j + 1), none⟩ = some (.string y)) ∨ (¬ j + 1 < r.names.length ∧ w.cell? ⟨nb, no, none⟩ = some (.string y))) := by
              by_cases h1 : j + 1 < r.names.length
              · obtain ⟨nb1, no1, hbo, c1⟩ := gn (j + 1) h1
                simp only [Option.some.injEq, Addr.mk.injEq, and_true] at hbo
                obtain ⟨rfl, rfl⟩ := hbo
                exact ⟨r.names[j + 1], by rw [nextOf, if_pos (by rw [nms_length]; exact h1), nms_getD _ _ h1], .inl ⟨h1, c1⟩⟩
              · exact ⟨r.names[0], by rw [nextOf, if_neg (by rw [nms_length]; exact h1), nms_getD _ _ (by omega)], .inr ⟨h1, c0⟩⟩
            obtain ⟨y, hy, hcase⟩ := hprep
            have HMO : Hid (modelAt leaver.toList self.toList (nms ls) r j = (r.names[j].toList == leaver.toList || r.names[j].toList == self.toList || decide (r.names[j].toList ∈ nms ls) || r.names[j].toList == r.gw.toList || r.names[j].toList == r.cl.toList ||
                decide (r.names[j].toList ∈ nms r.kids) || decide (y.toList ∈ nms r.kids))) := by
              show _ = _
              rw [modelAt, hy, nms_getD _ _ hjl]
            clear hy
            generalize r.names[j] = x at *
            generalize r.names[0] = y0 at *
            have hin1 := hide (in_any x la lc ls w hl (by unfold maxLen; omega))
            have hin2 := hide (in_any x ka kc r.kids w gk (by unfold maxLen; omega))
            have hin3 := hide (in_any y ka kc r.kids w gk (by unfold maxLen; omega))
            rcases hcase with ⟨h1, c1⟩ | ⟨h1, c1⟩
            rotate_left
            · have hyy : y0 = y := by
                have := c0.symm.trans c1
                simpa using this
              subst hyy
              clear c1
              by_cases q1 : x.toList = leaver.toList
              · have q1' : (x.toList == leaver.toList) = true := by simp [q1]
                have Q1 := hide q1'
                clear q1 hin1 hin2 hin3
                go_wp2
                go_round
                case rel => exact ⟨j + 1, by omega, by go_num, by rw [HT2.out, HMO.out]; simp [Q1.out]⟩
                case measure => simp [intOf]; omega
              have q1' : (x.toList == leaver.toList) = false := by simp [q1]
              clear q1
              by_cases q2 : x.toList = self.toList
              · have q2' : (x.toList == self.toList) = true := by simp [q2]
                have Q2 := hide q2'
                clear q2 hin1 hin2 hin3
                go_wp2
                go_round
                case rel => exact ⟨j + 1, by omega, by go_num, by rw [HT2.out, HMO.out]; simp [Q2.out]⟩
                case measure => simp [intOf]; omega
              have q2' : (x.toList == self.toList) = false := by simp [q2]
              clear q2
              go_wp2_with fail
              refine (unhide hin1).mono ?_
              rintro e w' ⟨rfl, hw'⟩
              subst hw'
              by_cases q3 : x.toList ∈ nms ls
              · have Q3 := hide q3
                rw [decide_eq_true q3]
                clear q3 hin1 hin2 hin3
                go_wp2
                go_round
                case rel => exact ⟨j + 1, by omega, by go_num, by rw [HT2.out, HMO.out]; simp [Q3.out]⟩
                case measure => simp [intOf]; omega
              rw [decide_eq_false q3]
              have Q3 := hide q3
              clear q3
              by_cases q4 : x.toList = r.gw.toList
              · have q4' : (x.toList == r.gw.toList) = true := by simp [q4]
                have Q4 := hide q4'
                clear q4 hin1 hin2 hin3
                go_wp2
                go_round
                case rel => exact ⟨j + 1, by omega, by go_num, by rw [HT2.out, HMO.out]; simp [Q4.out]⟩
                case measure => simp [intOf]; omega
              have q4' : (x.toList == r.gw.toList) = false := by simp [q4]
              clear q4
              by_cases q5 : x.toList = r.cl.toList
              · have q5' : (x.toList == r.cl.toList) = true := by simp [q5]
                have Q5 := hide q5'
                clear q5 hin1 hin2 hin3
                go_wp2
                go_round
                case rel => exact ⟨j + 1, by omega, by go_num, by rw [HT2.out, HMO.out]; simp [Q5.out]⟩
                case measure => simp [intOf]; omega
              have q5' : (x.toList == r.cl.toList) = false := by simp [q5]
              clear q5
              go_wp2_with fail
              refine (unhide hin2).mono ?_
              rintro e w' ⟨rfl, hw'⟩
              subst hw'
              by_cases q6 : x.toList ∈ nms r.kids
              · have Q6 := hide q6
                rw [decide_eq_true q6]
                clear q6 hin1 hin2 hin3
                go_wp2
                go_round
                case rel => exact ⟨j + 1, by omega, by go_num, by rw [HT2.out, HMO.out]; simp [Q6.out]⟩
                case measure => simp [intOf]; omega
              rw [decide_eq_false q6]
              have Q6 := hide q6
              clear q6
              go_wp2_with fail
              refine (unhide hin3).mono ?_
              rintro e w' ⟨rfl, hw'⟩
              subst hw'
              by_cases q7 : y0.toList ∈ nms r.kids
              · have Q7 := hide q7
                rw [decide_eq_true q7]
                clear q7 hin1 hin2 hin3
                go_wp2
                go_round
                case rel => exact ⟨j + 1, by omega, by go_num, by rw [HT2.out, HMO.out]; simp [Q7.out]⟩
                case measure => simp [intOf]; omega
              rw [decide_eq_false q7]
              have Q7 := hide q7
              have Q1 := hide q1'
              have Q2 := hide q2'
              have Q4 := hide q4'
              have Q5 := hide q5'
              clear q7 hin1 hin2 hin3
              go_wp2
              go_ret
              refine ⟨ret_bool ?_, rfl⟩
              refine (HBF.out (modelRing_false (by omega) hjl ?_)).symm
              rw [HMO.out, Q1.out, Q2.out, Q4.out, Q5.out]
              simp [Q3.out, Q6.out, Q7.out]
            · by_cases q1 : x.toList = leaver.toList
              · have q1' : (x.toList == leaver.toList) = true := by simp [q1]
                have Q1 := hide q1'
                clear q1 hin1 hin2 hin3
                go_wp2
                go_round
                case rel => exact ⟨j + 1, by omega, by go_num, by rw [HT2.out, HMO.out]; simp [Q1.out]⟩
                case measure => simp [intOf]; omega
              have q1' : (x.toList == leaver.toList) = false := by simp [q1]
              clear q1
              by_cases q2 : x.toList = self.toList
              · have q2' : (x.toList == self.toList) = true := by simp [q2]
                have Q2 := hide q2'
                clear q2 hin1 hin2 hin3
                go_wp2
                go_round
                case rel => exact ⟨j + 1, by omega, by go_num, by rw [HT2.out, HMO.out]; simp [Q2.out]⟩
                case measure => simp [intOf]; omega
              have q2' : (x.toList == self.toList) = false := by simp [q2]
              clear q2
              go_wp2_with fail
              refine (unhide hin1).mono ?_
              rintro e w' ⟨rfl, hw'⟩
              subst hw'
              by_cases q3 : x.toList ∈ nms ls
              · have Q3 := hide q3
                rw [decide_eq_true q3]
                clear q3 hin1 hin2 hin3
                go_wp2
                go_round
                case rel => exact ⟨j + 1, by omega, by go_num, by rw [HT2.out, HMO.out]; simp [Q3.out]⟩
                case measure => simp [intOf]; omega
              rw [decide_eq_false q3]
              have Q3 := hide q3
              clear q3
              by_cases q4 : x.toList = r.gw.toList
              · have q4' : (x.toList == r.gw.toList) = true := by simp [q4]
                have Q4 := hide q4'
                clear q4 hin1 hin2 hin3
                go_wp2
                go_round
                case rel => exact ⟨j + 1, by omega, by go_num, by rw [HT2.out, HMO.out]; simp [Q4.out]⟩
                case measure => simp [intOf]; omega
              have q4' : (x.toList == r.gw.toList) = false := by simp [q4]
              clear q4
              by_cases q5 : x.toList = r.cl.toList
              · have q5' : (x.toList == r.cl.toList) = true := by simp [q5]
                have Q5 := hide q5'
                clear q5 hin1 hin2 hin3
                go_wp2
                go_round
                case rel => exact ⟨j + 1, by omega, by go_num, by rw [HT2.out, HMO.out]; simp [Q5.out]⟩
                case measure => simp [intOf]; omega
              have q5' : (x.toList == r.cl.toList) = false := by simp [q5]
              clear q5
              go_wp2_with fail
              refine (unhide hin2).mono ?_
              rintro e w' ⟨rfl, hw'⟩
              subst hw'
              by_cases q6 : x.toList ∈ nms r.kids
              · have Q6 := hide q6
                rw [decide_eq_true q6]
                clear q6 hin1 hin2 hin3
                go_wp2
                go_round
                case rel => exact ⟨j + 1, by omega, by go_num, by rw [HT2.out, HMO.out]; simp [Q6.out]⟩
                case measure => simp [intOf]; omega
              rw [decide_eq_false q6]
              have Q6 := hide q6
              clear q6
              go_wp2_with fail
              refine (unhide hin3).mono ?_
              rintro e w' ⟨rfl, hw'⟩
              subst hw'
              by_cases q7 : y.toList ∈ nms r.kids
              · have Q7 := hide q7
                rw [decide_eq_true q7]
                clear q7 hin1 hin2 hin3
                go_wp2
                go_round
                case rel => exact ⟨j + 1, by omega, by go_num, by rw [HT2.out, HMO.out]; simp [Q7.out]⟩
                case measure => simp [intOf]; omega
              rw [decide_eq_false q7]
              have Q7 := hide q7
              have Q1 := hide q1'
              have Q2 := hide q2'
              have Q4 := hide q4'
              have Q5 := hide q5'
              clear q7 hin1 hin2 hin3
              go_wp2
              go_ret
              refine ⟨ret_bool ?_, rfl⟩
              refine (HBF.out (modelRing_false (by omega) hjl ?_)).symm
              rw [HMO.out, Q1.out, Q2.out, Q4.out, Q5.out]
              simp [Q3.out, Q6.out, Q7.out]
          · go_wp2
            go_round
            case rel =>
              have hjn : j = r.names.length := by omega
              refine ⟨k + 1, by omega, by go_num, ?_⟩
              rw [HT.out, modelRing, ← hjn, HA2.out]; simp
            case measure => simp [intOf]; omega
    · go_wp2
      go_ret
      refine ⟨ret_bool ?_, rfl⟩
      have := HALL.out
      rw [List.take_of_length_le (by omega)] at this
      exact this.symm
end Go.Proofs.Qxb6614768a
