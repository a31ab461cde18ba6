import Derived.Test.Qxb6614768aTopExact
import Derived.Test.Qxb6614768aBytesTwo
namespace Go.Proofs.Qxb6614768a
open Go.RowKit Go.Deep

theorem rings_take {w : World} {a : Option Addr} {rs : List RingD} (h : RingsAt w a rs) (k : Nat) : RingsAt w a (rs.take k) := by
  intro i hi
  have hi' : i < rs.length := by rw [List.length_take] at hi; omega
  obtain ⟨b, o, e, hr⟩ := h i hi'
  refine ⟨b, o, e, ?_⟩
  rw [List.getElem_take]; exact hr
theorem rings_drop {w : World} {a : Option Addr} {rs : List RingD} (h : RingsAt w a rs) (k c : Nat) (hc : rs.length ≤ c) : RingsAt w (if c = k then a else a.map (·.add (k * 5))) (rs.drop k) := by
  intro i hi
  have hi' : k + i < rs.length := by rw [List.length_drop] at hi; omega
  obtain ⟨b, o, e, hr⟩ := h (k + i) hi'
  refine ⟨b, o + k * 5, ?_, ?_⟩
  · rw [if_neg (by omega), e]; simp [Addr.add]
  · rw [List.getElem_drop]
    have : o + k * 5 + i * 5 = o + (k + i) * 5 := by omega
    rw [this]; exact hr

theorem flat_length (rs : List RingD) : (flatNames rs).length = sumNames rs := by
  simp [flatNames, sumNames, List.length_flatten, Function.comp_def]

set_option maxRecDepth 100000 in
set_option maxHeartbeats 4000000 in
theorem split_walk (leaver self : ByteArray) (ra : Option Addr) (rc : Nat) (rs : List RingD) (depth kk : Int) (la : Option Addr) (lc : Nat) (ls : List ByteArray) (ha : Option Addr) (hc : Nat) (hs : List ByteArray) (w : World)
    (hR : RingsAt w ra rs) (hl : StrsAt w la ls) (hh : StrsAt w ha hs) (sz : Sized leaver self rs ls hs) (hrc : rs.length ≤ rc) (hrc' : rc ≤ maxLen) :
    Calls Try.prog 4 #[.string leaver, .string self, .slice ra rs.length rc, .int .i64 depth, .int .i64 kk, .slice la ls.length lc, .slice ha hs.length hc] w fun e w' => e = .returned (.bool true) ∧ Below w.heap.size w w' := by
  have SZ := hide sz
  obtain ⟨m0, m1, mr, ml, mh, mn, sl, sh⟩ := sz
  unfold maxLen at m0 m1 mr ml mh hrc'
  go_enter Try.func4, Try.ntmps4
  go_wp2_with fail
  refine (bytes2_any leaver self ra rc rs depth kk la lc ls ha hc hs w hR hl hh SZ.out.m0 SZ.out.m1 SZ.out.mr SZ.out.ml SZ.out.mh SZ.out.mn SZ.out.sl SZ.out.sh).mono ?_
  rintro e w' ⟨⟨b, rfl, hb⟩, hw⟩
  have hw := hw.symm
  subst hw
  cases b with
  | false =>
    clear hb
    go_wp2
    go_ret
    exact ⟨rfl, Below.refl _ _⟩
  | true =>
    have bd := hb rfl
    have BD := hide bd
    obtain ⟨b0, b1, br, bsum, bk⟩ := bd
    clear hb bk mn sl sh
    have q0 : decide ((1048576 : Int) < (leaver.size : Int)) = false := decide_eq_false (by omega)
    have q1 : decide ((1048576 : Int) < (self.size : Int)) = false := decide_eq_false (by omega)
    by_cases c1 : (4096 : Int) < (rs.length : Int)
    · go_wp2
      go_ret
      exact ⟨rfl, Below.refl _ _⟩
    have q2 : decide ((4096 : Int) < (rs.length : Int)) = false := decide_eq_false c1
    by_cases c2 : (4096 : Int) < (ls.length : Int)
    · go_wp2
      go_ret
      exact ⟨rfl, Below.refl _ _⟩
    have q3 : decide ((4096 : Int) < (ls.length : Int)) = false := decide_eq_false c2
    by_cases c3 : (4096 : Int) < (hs.length : Int)
    · go_wp2
      go_ret
      exact ⟨rfl, Below.refl _ _⟩
    have q4 : decide ((4096 : Int) < (hs.length : Int)) = false := decide_eq_false c3
    go_wp2_with fail
    refine (fits_any leaver self ra rc rs la lc ls ha hc hs _ hR hl hh b0 b1 (by omega) (by omega) br BD.out.names).mono ?_
    rintro e w' ⟨⟨b, rfl⟩, hw⟩
    have hw := hw.symm
    subst hw
    cases b with
    | false =>
      go_wp2
      go_ret
      exact ⟨rfl, Below.refl _ _⟩
    | true =>
      by_cases k0 : kk < 0
      · go_wp2
        go_ret
        exact ⟨rfl, Below.refl _ _⟩
      have k0' : decide (kk < 0) = false := decide_eq_false k0
      by_cases k1 : (rs.length : Int) < kk
      · go_wp2
        go_ret
        exact ⟨rfl, Below.refl _ _⟩
      have k1' : decide ((rs.length : Int) < kk) = false := decide_eq_false k1
      obtain ⟨k, rfl⟩ := Int.eq_ofNat_of_zero_le (by omega : 0 ≤ kk)
      have hkr : k ≤ rs.length := by omega
      have hkc : (k : Int) ≤ (rc : Int) := by omega
      have hnm := fun r hr => (show r.names.length ≤ 1048576 ∧ r.kids.length ≤ 1048576 ∧ ∀ s ∈ r.names, s.size ≤ maxLen from ⟨(BD.out.names r hr).1, (BD.out.names r hr).2, (SZ.out.mn r hr).2.2.2.2.1⟩)
      have HNM := hide hnm
      clear hnm
      go_wp2_with fail
      refine (buildSearch_any leaver ra rc rs depth la lc ls ha hc hs w hR hl hh (by omega) (by omega) SZ.out.sl SZ.out.sh br BD.out.names).mono ?_
      rintro e w1 ⟨hb1, sp, rb, db, v, rfl, hS⟩
      go_wp2_with fail
      refine (ZZbarren_any sp rb db v leaver self rs depth _ w1 hS br HNM.out).mono ?_
      rintro e w2 ⟨rfl, hb2⟩
      have HB2 := hide (hb1.trans (hb2.mono hb1.size))
      clear hb1 hb2 hS
      have hlk : (rs.take k).length = k := by rw [List.length_take]; omega
      have hld : (rs.drop k).length = rs.length - k := List.length_drop
      have hmt : ∀ r ∈ rs.take k, r ∈ rs := fun r hr => List.mem_of_mem_take hr
      have hmd : ∀ r ∈ rs.drop k, r ∈ rs := fun r hr => List.mem_of_mem_drop hr
      have HMT := hide hmt
      have HMD := hide hmd
      have call2 := buildSearch_any leaver ra rc (rs.take k) depth la lc ls ha hc hs w2 ((rings_take hR k).below HB2.out) (hl.below HB2.out) (hh.below HB2.out) (by omega) (by omega) SZ.out.sl SZ.out.sh (by omega) (fun r hr => BD.out.names r (hmt r hr))
      rw [hlk] at call2
      have C2 := hide call2
      have HLK := hide hlk
      have HLD := hide hld
      clear hmt hmd call2 hlk hld
      go_wp2_with fail
      refine C2.out.mono ?_
      rintro e w3 ⟨hb3, sp2, rb2, db2, v2, rfl, hS2⟩
      clear C2
      go_wp2_with fail
      refine (ZZbarren_any sp2 rb2 db2 v2 leaver self (rs.take k) depth _ w3 hS2 (by rw [HLK.out]; omega) (fun r hr => HNM.out r (HMT.out r hr))).mono ?_
      rintro e w4 ⟨rfl, hb4⟩
      have HB4 := hide ((HB2.out.trans (hb3.mono HB2.out.size)).trans (hb4.mono (Nat.le_trans HB2.out.size hb3.size)))
      clear hb3 hb4 hS2
      have call3 := buildSearch_any leaver _ (rc - k) (rs.drop k) depth la lc ls ha hc hs w4 ((rings_drop hR k rc hrc).below HB4.out) (hl.below HB4.out) (hh.below HB4.out) (by omega) (by omega) SZ.out.sl SZ.out.sh (by rw [HLD.out]; omega) (fun r hr => BD.out.names r (HMD.out r hr))
      rw [HLD.out] at call3
      have HAL : Hid ((allNames rs ls).length ≤ 1048576) := by
        show _ ≤ _
        rw [allNames, List.length_append, flat_length]; omega
      have HSA : Hid (∀ s ∈ allNames rs ls, s.size ≤ maxLen) := by
        show ∀ s ∈ allNames rs ls, s.size ≤ maxLen
        intro s hs
        rcases List.mem_append.1 hs with h | h
        · exact SZ.out.sl s h
        · rw [flatNames, List.mem_flatten] at h
          obtain ⟨l, hl1, hl2⟩ := h
          obtain ⟨r, hr, rfl⟩ := List.mem_map.1 hl1
          exact (HNM.out r hr).2.2 s hl2
      by_cases hck : rc = k
      · have hck' := hck.symm
        subst hck'
        rw [if_pos rfl, Nat.sub_self, show rs.length - k = 0 by omega] at call3
        have C3 := hide call3
        clear call3
        go_wp2_with fail
        refine C3.out.mono ?_
        rintro e w5 ⟨hb5, sp3, rb3, db3, v3, rfl, hS3⟩
        clear C3
        go_wp2_with fail
        refine (ZZbarren_any sp3 rb3 db3 v3 leaver self (rs.drop k) depth _ w5 hS3 (by rw [HLD.out]; omega) (fun r hr => HNM.out r (HMD.out r hr))).mono ?_
        rintro e w6 ⟨rfl, hb6⟩
        have HB6 := hide ((HB4.out.trans (hb5.mono HB4.out.size)).trans (hb6.mono (Nat.le_trans HB4.out.size hb5.size)))
        clear hb5 hb6 hS3
        go_wp2_with fail
        refine (allNames_any _ _ rs la lc ls w6 (hR.below HB6.out) (hl.below HB6.out) br HAL.out).mono ?_
        rintro e w7 ⟨hb7, ab, rfl, hal⟩
        have HB7 := hide (HB6.out.trans (hb7.mono HB6.out.size))
        have HAS := hide hal
        clear hb7 hal
        go_wp2_with fail
        refine (buildSearch_any leaver _ _ rs depth _ _ (allNames rs ls) ha hc hs w7 (hR.below HB7.out) HAS.out (hh.below HB7.out) HAL.out (by omega) HSA.out SZ.out.sh br BD.out.names).mono ?_
        rintro e w8 ⟨hb8, sp4, rb4, db4, v4, rfl, hS4⟩
        go_wp2_with fail
        refine (ZZbarren_any sp4 rb4 db4 v4 leaver self rs depth _ w8 hS4 br HNM.out).mono ?_
        rintro e w9 ⟨rfl, hb9⟩
        have HB9 := hide ((HB7.out.trans (hb8.mono HB7.out.size)).trans (hb9.mono (Nat.le_trans HB7.out.size hb8.size)))
        clear hb8 hb9 hS4
        rw [full_law]
        rw [split_law leaver.toList self.toList (fun x => decide (x ∈ nms ls)) depth rs k]
        generalize barrenF leaver.toList self.toList (fun x => decide (x ∈ nms ls)) depth (rs.take k) = x1
        generalize barrenF leaver.toList self.toList (fun x => decide (x ∈ nms ls)) depth (rs.drop k) = x2
        cases x1 <;> cases x2
        all_goals
          go_wp2
          go_ret
          exact ⟨rfl, HB9.out⟩
      · rw [if_neg hck] at call3
        have C3 := hide call3
        clear call3
        go_wp2_with fail
        refine C3.out.mono ?_
        rintro e w5 ⟨hb5, sp3, rb3, db3, v3, rfl, hS3⟩
        clear C3
        go_wp2_with fail
        refine (ZZbarren_any sp3 rb3 db3 v3 leaver self (rs.drop k) depth _ w5 hS3 (by rw [HLD.out]; omega) (fun r hr => HNM.out r (HMD.out r hr))).mono ?_
        rintro e w6 ⟨rfl, hb6⟩
        have HB6 := hide ((HB4.out.trans (hb5.mono HB4.out.size)).trans (hb6.mono (Nat.le_trans HB4.out.size hb5.size)))
        clear hb5 hb6 hS3
        go_wp2_with fail
        refine (allNames_any _ _ rs la lc ls w6 (hR.below HB6.out) (hl.below HB6.out) br HAL.out).mono ?_
        rintro e w7 ⟨hb7, ab, rfl, hal⟩
        have HB7 := hide (HB6.out.trans (hb7.mono HB6.out.size))
        have HAS := hide hal
        clear hb7 hal
        go_wp2_with fail
        refine (buildSearch_any leaver _ _ rs depth _ _ (allNames rs ls) ha hc hs w7 (hR.below HB7.out) HAS.out (hh.below HB7.out) HAL.out (by omega) HSA.out SZ.out.sh br BD.out.names).mono ?_
        rintro e w8 ⟨hb8, sp4, rb4, db4, v4, rfl, hS4⟩
        go_wp2_with fail
        refine (ZZbarren_any sp4 rb4 db4 v4 leaver self rs depth _ w8 hS4 br HNM.out).mono ?_
        rintro e w9 ⟨rfl, hb9⟩
        have HB9 := hide ((HB7.out.trans (hb8.mono HB7.out.size)).trans (hb9.mono (Nat.le_trans HB7.out.size hb8.size)))
        clear hb8 hb9 hS4
        rw [full_law]
        rw [split_law leaver.toList self.toList (fun x => decide (x ∈ nms ls)) depth rs k]
        generalize barrenF leaver.toList self.toList (fun x => decide (x ∈ nms ls)) depth (rs.take k) = x1
        generalize barrenF leaver.toList self.toList (fun x => decide (x ∈ nms ls)) depth (rs.drop k) = x2
        cases x1 <;> cases x2
        all_goals
          go_wp2
          go_ret
          exact ⟨rfl, HB9.out⟩
end Go.Proofs.Qxb6614768a
