import Derived.Test.Qxb6614768aSearch
namespace Go.Proofs.Qxb6614768a
open Go.RowKit Go.Deep

def sumNames (rs : List RingD) : Nat := (rs.map (fun r => r.names.length)).sum
theorem sumNames_succ (rs : List RingD) (k : Nat) (h : k < rs.length) : sumNames (rs.take (k + 1)) = sumNames (rs.take k) + rs[k].names.length := by
  simp only [sumNames]
  rw [List.take_succ_eq_append_getElem h, List.map_append, List.sum_append]; simp
theorem sumNames_mem (rs : List RingD) (r : RingD) (h : r ∈ rs) : r.names.length ≤ sumNames rs := by
  induction rs with
  | nil => cases h
  | cons a l ih =>
    simp only [sumNames, List.map_cons, List.sum_cons] at ih ⊢
    rcases List.mem_cons.1 h with rfl | h
    · omega
    · have := ih h; omega

/-- What the bound on bytes gives. -/
structure Bounded (leaver me : ByteArray) (rs : List RingD) (ls hs : List ByteArray) : Prop where
  b0 : leaver.size ≤ 1048576
  b1 : me.size ≤ 1048576
  br : rs.length ≤ 1048576
  bsum : sumNames rs + ls.length + hs.length ≤ 1048576
  bk : ∀ r ∈ rs, r.kids.length ≤ 1048576
def BytesB (leaver self : ByteArray) (rs : List RingD) (ls hs : List ByteArray) (e : Ending) : Prop := ∃ b, e = .returned (.bool b) ∧ (b = true → Bounded leaver self rs ls hs)
theorem bytesB_false {leaver self : ByteArray} {rs : List RingD} {ls hs : List ByteArray} : BytesB leaver self rs ls hs (.returned (.bool false)) := ⟨_, rfl, fun h => absurd h (by decide)⟩

set_option maxRecDepth 100000 in
set_option maxHeartbeats 8000000 in
theorem bytes_any (leaver self : ByteArray) (ra : Option Addr) (rc : Nat) (rs : List RingD) (depth : Int) (la : Option Addr) (lc : Nat) (ls : List ByteArray) (ha : Option Addr) (hc : Nat) (hs : List ByteArray) (w : World)
    (hR : RingsAt w ra rs) (hl : StrsAt w la ls) (hh : StrsAt w ha hs) (m0 : leaver.size ≤ maxLen) (m1 : self.size ≤ maxLen) (mr : rs.length ≤ maxLen) (ml : ls.length ≤ maxLen) (mh : hs.length ≤ maxLen)
    (mn : ∀ r ∈ rs, r.names.length ≤ maxLen ∧ r.kids.length ≤ maxLen ∧ r.gw.size ≤ maxLen ∧ r.cl.size ≤ maxLen ∧ (∀ s ∈ r.names, s.size ≤ maxLen) ∧ (∀ s ∈ r.kids, s.size ≤ maxLen)) (sl : ∀ s ∈ ls, s.size ≤ maxLen) (sh : ∀ s ∈ hs, s.size ≤ maxLen) :
    Calls Try.prog 5 #[.string leaver, .string self, .slice ra rs.length rc, .int .i64 depth, .slice la ls.length lc, .slice ha hs.length hc] w fun e w' => BytesB leaver self rs ls hs e ∧ w' = w := by
  unfold maxLen at *
  go_enter Try.func5, Try.ntmps5
  go_wp2
  all_goals first | (go_ret; exact ⟨bytesB_false, rfl⟩) | skip
  go_loop [13, 14] (fun t i => ∃ k N : Nat, k ≤ rs.length ∧ i = .int .i64 k ∧ t = .int .i64 N ∧ N ≤ 1048576 ∧ sumNames (rs.take k) ≤ N ∧ ∀ r ∈ rs.take k, r.kids.length ≤ 1048576) (fun _ i => rs.length - (intOf i).toNat)
  case atStart => exact ⟨0, leaver.size + self.size + rs.length, by omega, rfl, by go_num, by omega, by simp [sumNames], by simp⟩
  case round =>
    obtain ⟨k, N, hk, rfl, rfl, hN, hsum, hkid⟩ := hrel
    have HK := hide hkid
    have HSU := hide hsum
    clear hkid hsum
    by_cases hlt : k < rs.length
    · obtain ⟨rb, ro, rfl, na, nc, ka, kc, g0, g1, g2, g3, g4, gn, gk⟩ := hR k hlt
      obtain ⟨m1, m2, m3, m4, m5, m6⟩ := mn _ (List.getElem_mem hlt)
      have HS1 := hide (sumNames_succ rs k hlt)
      go_wp2
      all_goals first | (go_ret; exact ⟨bytesB_false, rfl⟩) | skip
      go_loop [13, 15] (fun t j => ∃ q M : Nat, q ≤ rs[k].names.length ∧ j = .int .i64 q ∧ t = .int .i64 M ∧ M ≤ 1048576 ∧ N + rs[k].names.length ≤ M) (fun _ j => rs[k].names.length - (intOf j).toNat)
      case atStart => exact ⟨0, N + rs[k].names.length, by omega, rfl, by go_num, by omega, by omega⟩
      case round =>
        obtain ⟨q, M, hq, rfl, rfl, hM, hNM⟩ := hrel
        by_cases hql : q < rs[k].names.length
        · obtain ⟨nb, no, rfl, cj⟩ := gn q hql
          have hsz := m5 _ (List.getElem_mem hql)
          go_wp2
          all_goals first | (go_ret; exact ⟨bytesB_false, rfl⟩) | skip
          go_round
          case rel => exact ⟨q + 1, M + rs[k].names[q].size, by omega, by go_num, by go_num, by omega, by omega⟩
          case measure => simp [intOf]; omega
        · go_wp2
          all_goals first | (go_ret; exact ⟨bytesB_false, rfl⟩) | skip
          go_loop [13, 16] (fun t j => ∃ q M : Nat, q ≤ rs[k].kids.length ∧ j = .int .i64 q ∧ t = .int .i64 M ∧ M ≤ 1048576 ∧ N + rs[k].names.length ≤ M) (fun _ j => rs[k].kids.length - (intOf j).toNat)
          case atStart => exact ⟨0, M + rs[k].gw.size + rs[k].cl.size + rs[k].kids.length, by omega, rfl, by go_num, by omega, by omega⟩
          case round =>
            clear hM hNM hq hql
            obtain ⟨q, M, hq, rfl, rfl, hM, hNM⟩ := hrel
            by_cases hql : q < rs[k].kids.length
            · obtain ⟨nb, no, rfl, cj⟩ := gk q hql
              have hsz := m6 _ (List.getElem_mem hql)
              go_wp2
              all_goals first | (go_ret; exact ⟨bytesB_false, rfl⟩) | skip
              go_round
              case rel => exact ⟨q + 1, M + rs[k].kids[q].size, by omega, by go_num, by go_num, by omega, by omega⟩
              case measure => simp [intOf]; omega
            · go_wp2
              go_round
              case rel =>
                refine ⟨k + 1, M, by omega, by go_num, rfl, hM, ?_, ?_⟩
                · rw [HS1.out]; have := HSU.out; omega
                · intro r hr
                  rw [List.take_succ_eq_append_getElem hlt, List.mem_append, List.mem_singleton] at hr
                  rcases hr with hr | rfl
                  · exact HK.out r hr
                  · omega
              case measure => simp [intOf]; omega
    · go_wp2
      all_goals first | (go_ret; exact ⟨bytesB_false, rfl⟩) | skip
      go_loop [13, 17] (fun t j => ∃ q M : Nat, q ≤ ls.length ∧ j = .int .i64 q ∧ t = .int .i64 M ∧ M ≤ 1048576 ∧ N + ls.length ≤ M) (fun _ j => ls.length - (intOf j).toNat)
      case atStart => exact ⟨0, N + ls.length, by omega, rfl, by go_num, by omega, by omega⟩
      case round =>
        obtain ⟨q, M, hq, rfl, rfl, hM, hNM⟩ := hrel
        by_cases hql : q < ls.length
        · obtain ⟨nb, no, rfl, cj⟩ := hl q hql
          have hsz := sl _ (List.getElem_mem hql)
          go_wp2
          all_goals first | (go_ret; exact ⟨bytesB_false, rfl⟩) | skip
          go_round
          case rel => exact ⟨q + 1, M + ls[q].size, by omega, by go_num, by go_num, by omega, by omega⟩
          case measure => simp [intOf]; omega
        · go_wp2
          all_goals first | (go_ret; exact ⟨bytesB_false, rfl⟩) | skip
          go_loop [13, 18] (fun t j => ∃ q M : Nat, q ≤ hs.length ∧ j = .int .i64 q ∧ t = .int .i64 M ∧ M ≤ 1048576 ∧ N + ls.length + hs.length ≤ M) (fun _ j => hs.length - (intOf j).toNat)
          case atStart => exact ⟨0, M + hs.length, by omega, rfl, by go_num, by omega, by omega⟩
          case round =>
            clear hM hNM hq hql
            obtain ⟨q, M, hq, rfl, rfl, hM, hNM⟩ := hrel
            by_cases hql : q < hs.length
            · obtain ⟨nb, no, rfl, cj⟩ := hh q hql
              have hsz := sh _ (List.getElem_mem hql)
              go_wp2
              all_goals first | (go_ret; exact ⟨bytesB_false, rfl⟩) | skip
              go_round
              case rel => exact ⟨q + 1, M + hs[q].size, by omega, by go_num, by go_num, by omega, by omega⟩
              case measure => simp [intOf]; omega
            · go_wp2
              go_ret
              refine ⟨⟨_, rfl, fun _ => ?_⟩, rfl⟩
              have h1 := HSU.out
              have h2 := HK.out
              rw [List.take_of_length_le (by omega)] at h1 h2
              exact ⟨by omega, by omega, by omega, by omega, h2⟩
end Go.Proofs.Qxb6614768a
