import Derived.Test.Qxb6614768aSearch
namespace Go.Proofs.Qxb6614768a
open Go.RowKit Go.Deep

def SomeBool (e : Ending) : Prop := ∃ b, e = .returned (.bool b)

set_option maxRecDepth 100000 in
set_option maxHeartbeats 4000000 in
theorem fits_any (leaver self : ByteArray) (ra : Option Addr) (rc : Nat) (rs : List RingD) (la : Option Addr) (lc : Nat) (ls : List ByteArray) (ha : Option Addr) (hc : Nat) (hs : List ByteArray) (w : World)
    (hR : RingsAt w ra rs) (hl : StrsAt w la ls) (hh : StrsAt w ha hs) (b0 : leaver.size ≤ 1048576) (b1 : self.size ≤ 1048576) (bl : ls.length ≤ 1048576) (bh : hs.length ≤ 1048576)
    (hr : rs.length ≤ 1048576) (hn : ∀ r ∈ rs, r.names.length ≤ 1048576 ∧ r.kids.length ≤ 1048576) :
    Calls Try.prog 6 #[.string leaver, .string self, .slice ra rs.length rc, .slice la ls.length lc, .slice ha hs.length hc] w fun e w' => SomeBool e ∧ w' = w := by
  have q0 : ¬ (1048576 : Int) < (leaver.size : Int) := by omega
  have q1 : ¬ (1048576 : Int) < (self.size : Int) := by omega
  have d0 : decide ((1048576 : Int) < (leaver.size : Int)) = false := by simpa using q0
  by_cases c1 : (4096 : Int) < (rs.length : Int)
  · go_enter Try.func6, Try.ntmps6
    go_wp2
    go_ret
    exact ⟨⟨_, rfl⟩, rfl⟩
  by_cases c2 : (4096 : Int) < (ls.length : Int)
  · have d1 : decide ((4096 : Int) < (rs.length : Int)) = false := by simpa using c1
    go_enter Try.func6, Try.ntmps6
    go_wp2
    go_ret
    exact ⟨⟨_, rfl⟩, rfl⟩
  by_cases c3 : (4096 : Int) < (hs.length : Int)
  · have d1 : decide ((4096 : Int) < (rs.length : Int)) = false := by simpa using c1
    have d2 : decide ((4096 : Int) < (ls.length : Int)) = false := by simpa using c2
    go_enter Try.func6, Try.ntmps6
    go_wp2
    go_ret
    exact ⟨⟨_, rfl⟩, rfl⟩
  have d1 : decide ((4096 : Int) < (rs.length : Int)) = false := by simpa using c1
  have d2 : decide ((4096 : Int) < (ls.length : Int)) = false := by simpa using c2
  have d3 : decide ((4096 : Int) < (hs.length : Int)) = false := by simpa using c3
  go_enter Try.func6, Try.ntmps6
  go_wp2
  · go_ret
    exact ⟨⟨_, rfl⟩, rfl⟩
  go_loop [11, 12] (fun t i => ∃ k : Nat, k ≤ rs.length ∧ i = .int .i64 k ∧ ∃ r, t = .int .i64 r) (fun _ i => rs.length - (intOf i).toNat)
  case atStart => exact ⟨0, Nat.zero_le _, rfl, _, rfl⟩
  case round =>
    obtain ⟨k, hk, rfl, r, rfl⟩ := hrel
    by_cases hlt : k < rs.length
    · obtain ⟨rb, ro, rfl, na, nc, ka, kc, g0, g1, g2, g3, g4, gn, gk⟩ := hR k hlt
      obtain ⟨bn, bk⟩ := hn _ (List.getElem_mem hlt)
      by_cases e1 : (4096 : Int) < (rs[k].names.length : Int)
      · go_wp2
        go_ret
        exact ⟨⟨_, rfl⟩, rfl⟩
      have f1 : decide ((4096 : Int) < (rs[k].names.length : Int)) = false := by simpa using e1
      by_cases e2 : (4096 : Int) < (rs[k].kids.length : Int)
      · go_wp2
        go_ret
        exact ⟨⟨_, rfl⟩, rfl⟩
      have f2 : decide ((4096 : Int) < (rs[k].kids.length : Int)) = false := by simpa using e2
      go_wp2_with fail
      refine (addLen_any _ _ _).mono ?_
      rintro e w' ⟨⟨r1, rfl⟩, rfl⟩
      go_wp2_with fail
      refine (addLen_any _ _ _).mono ?_
      rintro e w' ⟨⟨r2, rfl⟩, rfl⟩
      go_wp2_with fail
      · go_ret
        exact ⟨⟨_, rfl⟩, rfl⟩
      refine (stringsBytes_any _ _ _ _ _ gn (by unfold maxLen; omega)).mono ?_
      rintro e w' ⟨⟨r3, rfl⟩, rfl⟩
      go_wp2_with fail
      · go_ret
        exact ⟨⟨_, rfl⟩, rfl⟩
      refine (stringsBytes_any _ _ _ _ _ gk (by unfold maxLen; omega)).mono ?_
      rintro e w' ⟨⟨r4, rfl⟩, rfl⟩
      go_wp2_with fail
      · go_ret
        exact ⟨⟨_, rfl⟩, rfl⟩
      · go_round
        case rel => exact ⟨k + 1, by omega, by go_num, _, rfl⟩
        case measure => simp [intOf]; omega
    · go_wp2_with fail
      refine (stringsBytes_any _ _ _ _ _ hl (by unfold maxLen; omega)).mono ?_
      rintro e w' ⟨⟨r3, rfl⟩, rfl⟩
      go_wp2_with fail
      · go_ret
        exact ⟨⟨_, rfl⟩, rfl⟩
      refine (stringsBytes_any _ _ _ _ _ hh (by unfold maxLen; omega)).mono ?_
      rintro e w' ⟨⟨r3, rfl⟩, rfl⟩
      go_wp2_with fail
      go_ret
      exact ⟨⟨_, rfl⟩, rfl⟩
end Go.Proofs.Qxb6614768a
