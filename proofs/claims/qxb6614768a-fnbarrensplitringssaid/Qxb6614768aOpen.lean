import Derived.Test.Qxb6614768aTopExact
import Derived.OpenShut
import Derived.ShutString
import Derived.SliceStrings
import Derived.Deep.Slices
import Derived.ChangeOld
namespace Go.Proofs.Qxb6614768a
open Go.ChangeShapes Go.WideShapes Go.ChangeAt Go.RowKit Go.Deep

theorem cells9 : Try.prog.cellsOf 9 = 1 := by kernel_rfl
theorem cells34 : Try.prog.cellsOf 34 = 5 := by kernel_rfl
theorem cells23 : Try.prog.cellsOf 23 = 1 := by kernel_rfl
theorem cells3 : Try.prog.cellsOf 3 = 1 := by kernel_rfl

/-- A list out of an index function. -/
theorem list_of_lt {α : Type} {n : Nat} {p : Nat → α → Prop} (h : ∀ i, i < n → ∃ x, p i x) : ∃ l : List α, l.length = n ∧ ∀ i, (hi : i < l.length) → p i l[i] := by
  induction n with
  | zero => exact ⟨[], rfl, fun i hi => absurd hi (by simp)⟩
  | succ n ih =>
    obtain ⟨l, hl, hp⟩ := ih (fun i hi => h i (by omega))
    obtain ⟨x, hx⟩ := h n (by omega)
    refine ⟨l ++ [x], by simp [hl], fun i hi => ?_⟩
    by_cases hin : i < l.length
    · rw [List.getElem_append_left hin]; exact hp i hin
    · have : i = n := by simp at hi; omega
      subst this
      rw [List.getElem_append_right (by omega)]
      simpa [hl] using hx

section
variable {H : Type} {enc : TypeId × Value → H} {w : World} {base : Nat} {spare : Nat → Bool} {held : Bool}

theorem strs_of_trod {fuel : Nat} {cs : List Value} {x : DataW H × List MemPlace} (h : DataW.trod enc Try.prog w base spare held fuel 23 cs = some x) :
    ∃ (a : Option Addr) (c : Nat) (ss : List ByteArray), cs = [.slice a ss.length c] ∧ StrsAt w a ss ∧ ss.length ≤ maxLen ∧ ∀ s ∈ ss, s.size ≤ maxLen := by
  rcases open_strings Try.underlying23 Try.underlying9 cells9 h with ⟨rfl, _⟩ | ⟨a, len, cap, ss, rfl, _, hl, hm, hz, _, hcell, hws⟩
  · exact ⟨none, 0, [], rfl, fun k hk => absurd hk (by simp), by simp, by simp⟩
  · have hlen : len ≤ ss.length := by rw [hz]; split <;> omega
    refine ⟨some a, cap, ss.take len, ?_, ?_, ?_, fun s hs => hws s (List.mem_of_mem_take hs)⟩
    · rw [List.length_take, Nat.min_eq_left hlen]
    · intro k hk
      rw [List.length_take, Nat.min_eq_left hlen] at hk
      have hc := hcell k (by omega)
      have hc0 := hcell 0 (by omega)
      obtain ⟨b, off, spot⟩ := a
      have hspot : spot = none := by simpa [Addr.add] using World.cell?_spot hc0
      subst hspot
      refine ⟨b, off, rfl, ?_⟩
      rw [add_plain] at hc
      rw [hc, List.getElem_take, List.getD_eq_getElem?_getD, List.getElem?_eq_getElem (by omega)]; rfl
    · rw [List.length_take]; omega

theorem ring_of_trod {fuel : Nat} {cs : List Value} {x : DataW H × List MemPlace} {b o : Nat} (hcs : w.cells? base ⟨b, o, none⟩ 5 = some cs) (h : DataW.trod enc Try.prog w base spare held fuel 34 cs = some x) :
    ∃ r : RingD, RingAt w b o r ∧ r.names.length ≤ maxLen ∧ r.kids.length ≤ maxLen ∧ r.gw.size ≤ maxLen ∧ r.cl.size ≤ maxLen ∧ (∀ s ∈ r.names, s.size ≤ maxLen) ∧ (∀ s ∈ r.kids, s.size ≤ maxLen) := by
  obtain ⟨_, hlen, hcell⟩ := World.cells?_some hcs
  obtain ⟨xs, n, _, rfl, hl, hxl, hf⟩ := DataW.trod_struct Try.underlying34 h
  match cs, hlen, xs, hxl with
  | [c0, c1, c2, c3, c4], _, [y0, y1, y2, y3, y4], _ =>
    have g0 := hcell 0 (by omega)
    have g1 := hcell 1 (by omega)
    have g2 := hcell 2 (by omega)
    have g3 := hcell 3 (by omega)
    have g4 := hcell 4 (by omega)
    rw [add_plain] at g0 g1 g2 g3 g4
    have f0 : DataW.trod enc Try.prog w base spare held n 23 (([c0, c1, c2, c3, c4].drop 0).take (Try.prog.cellsOf 23)) = some y0 := hf 0 _ rfl
    have f1 : DataW.trod enc Try.prog w base spare held n 9 (([c0, c1, c2, c3, c4].drop 1).take (Try.prog.cellsOf 9)) = some y1 := hf 1 _ rfl
    have f2 : DataW.trod enc Try.prog w base spare held n 9 (([c0, c1, c2, c3, c4].drop 2).take (Try.prog.cellsOf 9)) = some y2 := hf 2 _ rfl
    have f3 : DataW.trod enc Try.prog w base spare held n 23 (([c0, c1, c2, c3, c4].drop 3).take (Try.prog.cellsOf 23)) = some y3 := hf 3 _ rfl
    have f4 : DataW.trod enc Try.prog w base spare held n 3 (([c0, c1, c2, c3, c4].drop 4).take (Try.prog.cellsOf 3)) = some y4 := hf 4 _ rfl
    rw [cells23] at f0 f3
    rw [cells9] at f1 f2
    rw [cells3] at f4
    obtain ⟨na, nc, ns, e0, hns, ln, sn⟩ := strs_of_trod f0
    obtain ⟨gw, e1, _, s1⟩ := DataW.trod_string Try.underlying9 f1
    obtain ⟨cl, e2, _, s2⟩ := DataW.trod_string Try.underlying9 f2
    obtain ⟨ka, kc, ks, e3, hks, lk, sk⟩ := strs_of_trod f3
    obtain ⟨d, e4, _, _⟩ := DataW.trod_int Try.underlying3 f4
    simp at e0 e1 e2 e3 e4
    subst e0 e1 e2 e3 e4
    exact ⟨⟨ns, gw, cl, ks, d⟩, ⟨na, nc, ka, kc, g0, g1, g2, g3, g4, hns, hks⟩, ln, lk, s1, s2, sn, sk⟩

theorem rings_of_trod {fuel : Nat} {cs : List Value} {x : DataW H × List MemPlace} (h : DataW.trod enc Try.prog w base spare held fuel 22 cs = some x) :
    ∃ (a : Option Addr) (c : Nat) (rs : List RingD), cs = [.slice a rs.length c] ∧ RingsAt w a rs ∧ rs.length ≤ c ∧ c ≤ maxLen ∧
      ∀ r ∈ rs, r.names.length ≤ maxLen ∧ r.kids.length ≤ maxLen ∧ r.gw.size ≤ maxLen ∧ r.cl.size ≤ maxLen ∧ (∀ s ∈ r.names, s.size ≤ maxLen) ∧ (∀ s ∈ r.kids, s.size ≤ maxLen) := by
  rcases open_slice Try.underlying22 h with ⟨rfl, _⟩ | ⟨a, len, cap, m, n, D, Pl, rfl, _, hl, hm, hmm, _, hx⟩
  · exact ⟨none, 0, [], rfl, fun k hk => absurd hk (by simp), by simp, by simp, by simp⟩
  · have hlm : len ≤ m := by rw [hmm]; split <;> omega
    rw [cells34] at hx
    have key : ∀ i, i < len → ∃ r : RingD, (∃ b o, some a = some (⟨b, o, none⟩ : Addr) ∧ RingAt w b (o + i * 5) r) ∧ r.names.length ≤ maxLen ∧ r.kids.length ≤ maxLen ∧ r.gw.size ≤ maxLen ∧ r.cl.size ≤ maxLen ∧ (∀ s ∈ r.names, s.size ≤ maxLen) ∧ (∀ s ∈ r.kids, s.size ≤ maxLen) := by
      intro i hi
      obtain ⟨cs0, h00, _⟩ := hx 0 (by omega)
      obtain ⟨_, hlen0, hcell0⟩ := World.cells?_some h00
      have hc0 := hcell0 0 (by omega)
      rw [List.getElem?_eq_getElem (by omega)] at hc0
      obtain ⟨b, o, spot⟩ := a
      have hspot : spot = none := by simpa [Addr.add] using World.cell?_spot hc0
      subst hspot
      obtain ⟨cs', h1, h2⟩ := hx i (by omega)
      rw [add_plain] at h1
      obtain ⟨r, hr, hrest⟩ := ring_of_trod h1 h2
      exact ⟨r, ⟨b, o, rfl, hr⟩, hrest⟩
    obtain ⟨rs, hrl, hrs⟩ := list_of_lt key
    refine ⟨some a, cap, rs, by rw [hrl], fun k hk => (hrs k hk).1, by omega, hm, fun r hr => ?_⟩
    obtain ⟨i, hi, rfl⟩ := List.getElem_of_mem hr
    exact (hrs i hi).2
end
end Go.Proofs.Qxb6614768a
