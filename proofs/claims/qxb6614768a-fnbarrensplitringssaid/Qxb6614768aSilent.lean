import Derived.Test.Qxb6614768aProbe
import Derived.Deep.QuietTactic
import Derived.BigQuiet
import Derived.WalkSmall
namespace Go.Proofs.Qxb6614768a
open Go.RowKit Go.Deep

theorem hide {p : Prop} (h : p) : Hid p := h
theorem unhide {p : Prop} (h : Hid p) : p := h

theorem slotIs_unique {S : Nat → List UInt8} {U : Nat → Bool} {n h0 : Nat} {x : List UInt8} {h h' : Nat} (a : SlotIs S U n h0 x h) (b : SlotIs S U n h0 x h') : h = h' := by
  obtain ⟨d, e1, f1, g1⟩ := a
  obtain ⟨d', e2, f2, g2⟩ := b
  rcases Nat.lt_trichotomy d d' with hlt | heq | hgt
  · have := f2 d hlt
    rw [← e1] at this
    exact absurd (g1 this.1) this.2
  · rw [e1, e2, heq]
  · have := f1 d' hgt
    rw [← e2] at this
    exact absurd (g2 this.1) this.2

theorem slotIs_exists {S : Nat → List UInt8} {U : Nat → Bool} {n : Nat} (h0 : Nat) (x : List UInt8) (hn : 1 ≤ n) (hf : ∃ j, j < n ∧ U j = false) : ∃ h, h < n ∧ SlotIs S U n h0 x h := by
  obtain ⟨d0, hd0⟩ := free_dist h0 hf
  have key : ∀ k d, d + k = d0 → (∀ e, e < d → U ((h0 + e) % n) = true ∧ S ((h0 + e) % n) ≠ x) → ∃ h, h < n ∧ SlotIs S U n h0 x h := by
    intro k
    induction k with
    | zero =>
      intro d hd hb
      have : d = d0 := by omega
      subst this
      exact ⟨_, Nat.mod_lt _ hn, d, rfl, hb, fun h => absurd (hd0.symm.trans h) (by decide)⟩
    | succ k ih =>
      intro d hd hb
      by_cases h1 : U ((h0 + d) % n) = true ∧ S ((h0 + d) % n) ≠ x
      · refine ih (d + 1) (by omega) ?_
        intro e he
        by_cases h2 : e = d
        · subst h2; exact h1
        · exact hb e (by omega)
      · refine ⟨_, Nat.mod_lt _ hn, d, rfl, hb, fun h => ?_⟩
        by_cases h2 : S ((h0 + d) % n) = x
        · exact h2
        · exact absurd ⟨h, h2⟩ h1
  exact key d0 0 (by omega) (fun e he => absurd he (by omega))

theorem slot_at (pb po b n : Nat) (m : Nat) (cap : Nat) (x : ByteArray) (S : Nat → ByteArray) (U L : Nat → Bool) (w : World) (hm : m ≤ 30) (hn : n = 2 ^ m)
    (ht : TabAt w b n S U L) (hp : w.cell? ⟨pb, po, none⟩ = some (.slice (some ⟨b, 0, none⟩) n cap)) (hx : x.size ≤ maxLen) (hfree : ∃ j, j < n ∧ U j = false) (h : Nat) (hs : SlotIs (fun j => (S j).toList) U n (hashN x.toList) x.toList h) :
    Calls Try.prog 24 #[.pointer (some ⟨pb, po, none⟩), .string x] w fun e w' => e = .returned (.int .i64 h) ∧ w' = w := by
  refine (slot_any pb po b n m cap x S U L w hm hn ht hp hx hfree).mono ?_
  rintro e w' ⟨hw, h', he, _, hs'⟩
  rw [slotIs_unique hs hs']
  exact ⟨he, hw⟩

set_option maxHeartbeats 1000000 in
theorem find_any (pb po : Nat) (v : Value) (x : ByteArray) (B : List UInt8 → Bool) (w : World) (hx : x.size ≤ maxLen)
    (hp : w.cell? ⟨pb, po, none⟩ = some v) (hv : ProbesAt w v B) :
    Calls Try.prog 27 #[.pointer (some ⟨pb, po, none⟩), .string x] w fun e w' =>
      (∃ n, w' = w.drewN n) ∧ ((e = .returned (.pointer none) ∧ B x.toList = false) ∨ ∃ b o, e = .returned (.pointer (some ⟨b, o, none⟩)) ∧ w.cell? ⟨b, o + 4, none⟩ = some (.bool (B x.toList))) := by
  rcases hv with ⟨rfl, hB⟩ | ⟨b, n, m, cap, S, U, L, rfl, hm, hn, ht, hg, hfree, hB⟩
  · go_enter Try.func27, Try.ntmps27
    go_wp2
    go_ret
    exact ⟨⟨0, rfl⟩, .inl ⟨rfl, hB _⟩⟩
  · have hn31 : n ≤ 1073741824 := by rw [hn]; exact Nat.pow_le_pow_right (by omega) hm
    have hn0 : 1 ≤ n := by rw [hn]; exact Nat.one_le_two_pow
    have hz : ((n : Int) == 0) = false := beq_eq_false_iff_ne.2 (by omega)
    have HN : Hid (n = 2 ^ m) := hn
    clear hn
    obtain ⟨h, hh, hs⟩ := slotIs_exists (S := fun j => (S j).toList) (hashN x.toList) x.toList hn0 hfree
    have hsl := fun w' ht hp => slot_at pb po b n m cap x S U L w' hm HN.out ht hp hx hfree h hs
    have HSL := hide hsl
    clear hsl
    obtain ⟨c1, c2, c3⟩ := ht h hh
    have hB1 := (slot_has (L := L) hg hh hs true).symm.trans (hB x.toList)
    have HB := hide hB1
    have HS := hide hs
    clear hB1 hB hs hg hfree
    cases hu : U h with
    | false =>
      rw [hu] at c2
      have HU := hide hu
      clear hu
      go_enter Try.func27, Try.ntmps27
      go_wp2
      go_quiet ((go_at_call 24; exact Calls.quiet_of_same (unhide HSL _ ht hp)))
      go_wp2
      go_ret
      refine ⟨⟨_, rfl⟩, .inl ⟨rfl, ?_⟩⟩
      have := unhide HB
      rw [unhide HU] at this
      simpa using this
    | true =>
      rw [hu] at c2
      have HU := hide hu
      clear hu
      go_enter Try.func27, Try.ntmps27
      go_wp2
      go_quiet ((go_at_call 24; exact Calls.quiet_of_same (unhide HSL _ ht hp)))
      go_wp2
      go_ret
      refine ⟨⟨_, rfl⟩, .inr ⟨b, h * 6, rfl, ?_⟩⟩
      rw [c3]
      have := unhide HB
      rw [unhide HU] at this
      simp only [true_and] at this
      cases hl : L h <;> cases hb : B x.toList <;> simp_all

set_option maxHeartbeats 1000000 in
theorem silent_any (pb po : Nat) (v : Value) (x : ByteArray) (B : List UInt8 → Bool) (w : World) (hx : x.size ≤ maxLen)
    (hp : w.cell? ⟨pb, po, none⟩ = some v) (hv : ProbesAt w v B) :
    Calls Try.prog 23 #[.pointer (some ⟨pb, po, none⟩), .string x] w fun e w' => e = .returned (.bool (B x.toList)) ∧ ∃ n, w' = w.drewN n := by
  go_enter Try.func23, Try.ntmps23
  go_wp2_with fail
  refine (find_any pb po v x B w hx hp hv).mono ?_
  rintro e w1 ⟨⟨n, rfl⟩, ⟨rfl, hB⟩ | ⟨b, o, rfl, hc⟩⟩
  · have HB := hide hB
    clear hB hv hp
    go_wp2
    go_ret
    exact ⟨ret_bool (unhide HB).symm, n, rfl⟩
  · clear hv hp
    go_wp2
    all_goals (go_ret; exact ⟨rfl, n, rfl⟩)
end Go.Proofs.Qxb6614768a
