import Derived.Test.Qxb6614768aLaw
import Derived.Test.Qxb6614768aFits
import Derived.Test.Qxb6614768aDistinct
import Derived.Test.Qxb6614768aBytes
namespace Go.Proofs.Qxb6614768a
open Go.RowKit Go.Deep

/-- Each string and slice is within the reach of the model. -/
structure Sized (leaver me : ByteArray) (rs : List RingD) (ls hs : List ByteArray) : Prop where
  m0 : leaver.size ≤ maxLen
  m1 : me.size ≤ maxLen
  mr : rs.length ≤ maxLen
  ml : ls.length ≤ maxLen
  mh : hs.length ≤ maxLen
  mn : ∀ r ∈ rs, r.names.length ≤ maxLen ∧ r.kids.length ≤ maxLen ∧ r.gw.size ≤ maxLen ∧ r.cl.size ≤ maxLen ∧ (∀ s ∈ r.names, s.size ≤ maxLen) ∧ (∀ s ∈ r.kids, s.size ≤ maxLen)
  sl : ∀ s ∈ ls, s.size ≤ maxLen
  sh : ∀ s ∈ hs, s.size ≤ maxLen

theorem Bounded.names {leaver self : ByteArray} {rs : List RingD} {ls hs : List ByteArray} (h : Bounded leaver self rs ls hs) : ∀ r ∈ rs, r.names.length ≤ 1048576 ∧ r.kids.length ≤ 1048576 := by
  intro r hr
  have h1 := sumNames_mem rs r hr
  have h2 := h.bsum
  exact ⟨by omega, h.bk r hr⟩

set_option maxRecDepth 100000 in
set_option maxHeartbeats 4000000 in
theorem exact_walk (leaver self : ByteArray) (ra : Option Addr) (rc : Nat) (rs : List RingD) (depth : Int) (la : Option Addr) (lc : Nat) (ls : List ByteArray) (ha : Option Addr) (hc : Nat) (hs : List ByteArray) (w : World)
    (hR : RingsAt w ra rs) (hl : StrsAt w la ls) (hh : StrsAt w ha hs) (sz : Sized leaver self rs ls hs) :
    Calls Try.prog 3 #[.string leaver, .string self, .slice ra rs.length rc, .int .i64 depth, .slice la ls.length lc, .slice ha hs.length hc] w fun e w' => e = .returned (.bool true) ∧ Below w.heap.size w w' := by
  have SZ := hide sz
  obtain ⟨m0, m1, mr, ml, mh, mn, sl, sh⟩ := sz
  unfold maxLen at m0 m1 mr ml mh
  go_enter Try.func3, Try.ntmps3
  go_wp2_with fail
  refine (bytes_any leaver self ra rc rs depth la lc ls ha hc hs w hR hl hh SZ.out.m0 SZ.out.m1 SZ.out.mr SZ.out.ml SZ.out.mh SZ.out.mn SZ.out.sl SZ.out.sh).mono ?_
  rintro e w' ⟨⟨b, rfl, hb⟩, hw⟩
  have hw := hw.symm
  subst hw
  cases b with
  | false =>
    clear hb
    go_wp2
    go_ret
    exact ⟨rfl, Below.refl _ _⟩
  | true =>
    have bd := hb rfl
    have BD := hide bd
    obtain ⟨b0, b1, br, bsum, bk⟩ := bd
    clear hb bk mn sl sh
    have q0 : decide ((1048576 : Int) < (leaver.size : Int)) = false := decide_eq_false (by omega)
    have q1 : decide ((1048576 : Int) < (self.size : Int)) = false := decide_eq_false (by omega)
    by_cases c1 : (4096 : Int) < (rs.length : Int)
    · go_wp2
      go_ret
      exact ⟨rfl, Below.refl _ _⟩
    have q2 : decide ((4096 : Int) < (rs.length : Int)) = false := decide_eq_false c1
    by_cases c2 : (4096 : Int) < (ls.length : Int)
    · go_wp2
      go_ret
      exact ⟨rfl, Below.refl _ _⟩
    have q3 : decide ((4096 : Int) < (ls.length : Int)) = false := decide_eq_false c2
    by_cases c3 : (4096 : Int) < (hs.length : Int)
    · go_wp2
      go_ret
      exact ⟨rfl, Below.refl _ _⟩
    have q4 : decide ((4096 : Int) < (hs.length : Int)) = false := decide_eq_false c3
    go_wp2_with fail
    refine (fits_any leaver self ra rc rs la lc ls ha hc hs _ hR hl hh b0 b1 (by omega) (by omega) br BD.out.names).mono ?_
    rintro e w' ⟨⟨b, rfl⟩, hw⟩
    have hw := hw.symm
    subst hw
    cases b with
    | false =>
      go_wp2
      go_ret
      exact ⟨rfl, Below.refl _ _⟩
    | true =>
      go_wp2_with fail
      refine (ringsDistinct_any ra rc rs _ hR br BD.out.names).mono ?_
      rintro e w' ⟨⟨b, rfl, hdist⟩, nq, hw⟩
      subst hw
      cases b with
      | false =>
        clear hdist
        go_wp2
        go_ret
        exact ⟨rfl, below_drewN (Below.refl _ _) _⟩
      | true =>
        have HD := hide (hdist rfl)
        clear hdist
        have hb0 : Below w.heap.size w (w.drewN nq) := below_drewN (Below.refl _ _) _
        have HB0 := hide hb0
        clear hb0
        go_wp2_with fail
        refine (buildSearch_any leaver ra rc rs depth la lc ls ha hc hs (w.drewN nq) (hR.below HB0.out) (hl.below HB0.out) (hh.below HB0.out) (by omega) (by omega) SZ.out.sl SZ.out.sh br BD.out.names).mono ?_
        rintro e w1 ⟨hb1, sp, rb, db, v, rfl, hS⟩
        go_wp2_with fail
        refine (ZZbarren_any sp rb db v leaver self rs depth _ w1 hS br (fun r hr => ⟨(BD.out.names r hr).1, (BD.out.names r hr).2, (SZ.out.mn r hr).2.2.2.2.1⟩)).mono ?_
        rintro e w2 ⟨rfl, hb2⟩
        have hb3 : Below w.heap.size w w2 := (HB0.out.trans hb1).trans (hb2.mono hb1.size)
        have HB3 := hide hb3
        clear hb1 hb2 hb3 hS
        go_wp2_with fail
        refine (model_any leaver self ra rc rs depth la lc ls w2 (hR.below HB3.out) (hl.below HB3.out) (by omega) br BD.out.names).mono ?_
        rintro e w3 ⟨rfl, hw⟩
        have hw := hw.symm
        subst hw
        rw [exact_law _ _ _ _ _ HD.out]
        generalize modelF leaver.toList self.toList (nms ls) depth rs = mb
        go_wp2
        go_ret
        exact ⟨by simp, HB3.out⟩
end Go.Proofs.Qxb6614768a
