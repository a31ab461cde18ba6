/-  PLAIN LAWS: an open table with linear probing. No Go in sight. -/
namespace Go.Proofs.Qxb6614768a

/-- The probing from h0 for x ends at h. -/
def SlotIs (S : Nat → List UInt8) (U : Nat → Bool) (n h0 : Nat) (x : List UInt8) (h : Nat) : Prop :=
  ∃ d, h = (h0 + d) % n ∧ (∀ e, e < d → U ((h0 + e) % n) = true ∧ S ((h0 + e) % n) ≠ x) ∧ (U h = true → S h = x)

theorem free_dist {U : Nat → Bool} {n : Nat} (h0 : Nat) (hf : ∃ j, j < n ∧ U j = false) : ∃ d0, U ((h0 + d0) % n) = false := by
  obtain ⟨j, hj, hu⟩ := hf
  refine ⟨j + n - h0 % n, ?_⟩
  have hlt : h0 % n < n := Nat.mod_lt _ (by omega)
  have : (h0 + (j + n - h0 % n)) % n = j := by
    have e1 : h0 = n * (h0 / n) + h0 % n := (Nat.div_add_mod h0 n).symm
    have e2 : h0 + (j + n - h0 % n) = j + n * (h0 / n + 1) := by rw [Nat.mul_add]; omega
    rw [e2, Nat.add_mul_mod_self_left, Nat.mod_eq_of_lt hj]
  rw [this]; exact hu

theorem step_mod (h0 d n : Nat) : ((h0 + d) % n + 1) % n = (h0 + (d + 1)) % n := by
  rw [Nat.mod_add_mod]; rfl

/-- Every place in use is met by the probing for its own name, with no place of that name ahead of it. -/
def Good (H : List UInt8 → Nat) (S : Nat → List UInt8) (U : Nat → Bool) (n : Nat) : Prop :=
  ∀ j, j < n → U j = true → ∃ d, j = (H (S j) + d) % n ∧ ∀ e, e < d → U ((H (S j) + e) % n) = true ∧ S ((H (S j) + e) % n) ≠ S j

/-- x lies in the table with the mark l. -/
def Has (S : Nat → List UInt8) (U L : Nat → Bool) (n : Nat) (x : List UInt8) (l : Bool) : Prop := ∃ j, j < n ∧ U j = true ∧ S j = x ∧ L j = l

section
variable {H : List UInt8 → Nat} {S : Nat → List UInt8} {U L : Nat → Bool} {n : Nat} {x : List UInt8} {h : Nat}

/-- Where x lies in the table, the probing ends there. -/
theorem slot_unique (hg : Good H S U n) (hs : SlotIs S U n (H x) x h) {j : Nat} (hj : j < n) (hu : U j = true) (hx : S j = x) : j = h := by
  obtain ⟨d, hd, hbef, hend⟩ := hs
  obtain ⟨d', hd', hbef'⟩ := hg j hj hu
  rw [hx] at hd' hbef'
  rcases Nat.lt_trichotomy d' d with hlt | heq | hgt
  · exact absurd hx (by rw [hd']; exact (hbef d' hlt).2)
  · rw [hd, hd', heq]
  · have h1 := hbef' d hgt
    rw [← hd] at h1
    exact absurd (hend h1.1) h1.2

theorem slot_has (hg : Good H S U n) (hn : h < n) (hs : SlotIs S U n (H x) x h) (l : Bool) : Has S U L n x l ↔ U h = true ∧ L h = l := by
  constructor
  · rintro ⟨j, hj, hu, hx, hl⟩
    have := slot_unique hg hs hj hu hx
    subst this
    exact ⟨hu, hl⟩
  · rintro ⟨hu, hl⟩
    obtain ⟨d, hd, hbef, hend⟩ := hs
    exact ⟨h, hn, hu, hend hu, hl⟩

/-- The table behind the laying of x with the mark l at h. -/
theorem good_put (hg : Good H S U n) (hn : h < n) (hs : SlotIs S U n (H x) x h) :
    Good H (fun j => if j = h then x else S j) (fun j => if j = h then true else U j) n := by
  have hs' := hs
  obtain ⟨d, hd, hbef, hend⟩ := hs
  intro j hj hu
  by_cases hjh : j = h
  · subst hjh
    refine ⟨d, by simpa using hd, ?_⟩
    intro e he
    have hb := hbef e he
    have hne : (H x + e) % n ≠ j := by
      intro heq
      rw [heq] at hb
      exact hb.2 (hend hb.1)
    simp [hne, hb.1, hb.2]
  · simp only [hjh, if_false] at hu ⊢
    obtain ⟨d', hd', hbef'⟩ := hg j hj hu
    refine ⟨d', hd', ?_⟩
    intro e he
    have hb := hbef' e he
    by_cases hh : (H (S j) + e) % n = h
    · simp only [hh, if_true, true_and]
      rw [hh] at hb
      intro heq
      exact hb.2 (by rw [hend hb.1]; exact heq)
    · simp only [hh, if_false]; exact hb

theorem has_put (hg : Good H S U n) (hn : h < n) (hs : SlotIs S U n (H x) x h) (l l' : Bool) (y : List UInt8) :
    Has (fun j => if j = h then x else S j) (fun j => if j = h then true else U j) (fun j => if j = h then l else L j) n y l' ↔ (y = x ∧ l' = l) ∨ (y ≠ x ∧ Has S U L n y l') := by
  constructor
  · rintro ⟨j, hj, hu, hx, hl⟩
    by_cases hjh : j = h
    · simp only [hjh, if_true] at hx hl
      exact .inl ⟨hx.symm, hl.symm⟩
    · simp only [hjh, if_false] at hu hx hl
      by_cases hy : y = x
      · exact absurd (slot_unique hg hs hj hu (hx.trans hy)) hjh
      · exact .inr ⟨hy, j, hj, hu, hx, hl⟩
  · rintro (⟨rfl, rfl⟩ | ⟨hy, j, hj, hu, hx, hl⟩)
    · exact ⟨h, hn, by simp, by simp, by simp⟩
    · have hjh : j ≠ h := by
        rintro rfl
        obtain ⟨d, hd, hbef, hend⟩ := hs
        exact hy (hx.symm.trans (hend hu))
      exact ⟨j, hj, by simp [hjh, hu], by simp [hjh, hx], by simp [hjh, hl]⟩
end

/-- How many of the first n places are in use. -/
def usedN (U : Nat → Bool) : Nat → Nat
  | 0 => 0
  | n + 1 => usedN U n + if U n then 1 else 0

theorem usedN_put (U : Nat → Bool) (h n : Nat) : usedN (fun j => if j = h then true else U j) n ≤ usedN U n + if h < n then 1 else 0 := by
  induction n with
  | zero => simp [usedN]
  | succ n ih =>
    simp only [usedN]
    by_cases h1 : n = h
    · subst h1
      simp at ih ⊢
      split <;> omega
    · by_cases h2 : h < n
      · have : h < n + 1 := by omega
        simp only [h1, h2, this, if_true, if_false] at ih ⊢
        omega
      · have : ¬ h < n + 1 := by omega
        simp only [h1, h2, this, if_false] at ih ⊢
        omega

theorem usedN_free (U : Nat → Bool) (n : Nat) (h : usedN U n < n) : ∃ j, j < n ∧ U j = false := by
  induction n with
  | zero => omega
  | succ n ih =>
    cases hu : U n with
    | false => exact ⟨n, by omega, hu⟩
    | true =>
      simp only [usedN, hu, if_true] at h
      obtain ⟨j, hj, hj'⟩ := ih (by omega)
      exact ⟨j, by omega, hj'⟩

theorem usedN_none (U : Nat → Bool) (n : Nat) (h : ∀ j, j < n → U j = false) : usedN U n = 0 := by
  induction n with
  | zero => rfl
  | succ n ih => simp only [usedN]; rw [ih (fun j hj => h j (by omega)), h n (by omega)]; rfl

end Go.Proofs.Qxb6614768a
