/-  PLAIN LAWS: a table of clients with linear probing, filled in the order of their numbers; a client taken out by moving back. No Go in sight. -/
namespace Go.Proofs.Qxb6614883a

/-- What the table of n places holds when the clients of P have been laid in the order of their numbers: each lies at the first place from its home that no earlier one has taken. -/
structure Inv (n : Nat) (home : Nat → Nat) (T : Nat → Nat) (P : Nat → Prop) : Prop where
  mem : ∀ s, s < n → T s ≠ 0 → P (T s - 1)
  inj : ∀ s s', s < n → s' < n → T s ≠ 0 → T s = T s' → s = s'
  path : ∀ c, P c → ∃ d, T ((home c + d) % n) = c + 1 ∧ ∀ e, e < d → T ((home c + e) % n) ≠ 0 ∧ T ((home c + e) % n) - 1 < c

section
variable {n : Nat} {home : Nat → Nat} {T T' : Nat → Nat} {P : Nat → Prop}

/-- The table is told by its clients alone. -/
theorem inv_at (hn : 0 < n) (h : Inv n home T P) (h' : Inv n home T' P) : ∀ c s, s < n → T s = c + 1 → T' s = c + 1 := by
  intro c
  -- both ways at once, for every smaller client
  have key : ∀ c, (∀ s, s < n → T s = c + 1 → T' s = c + 1) ∧ (∀ s, s < n → T' s = c + 1 → T s = c + 1) := by
    intro c
    induction c using Nat.strongRecOn with
    | _ c ih =>
      have one : ∀ (A B : Nat → Nat), Inv n home A P → Inv n home B P → (∀ c', c' < c → ∀ s, s < n → B s = c' + 1 → A s = c' + 1) → (∀ c', c' < c → ∀ s, s < n → A s = c' + 1 → B s = c' + 1) → ∀ s, s < n → A s = c + 1 → B s = c + 1 := by
        intro A B hA hB ba ab s hs hAs
        have hP : P c := by have := hA.mem s hs (by omega); rw [hAs] at this; simpa using this
        obtain ⟨d, hd, hbef⟩ := hA.path c hP
        obtain ⟨d', hd', hbef'⟩ := hB.path c hP
        have hsd : s = (home c + d) % n := hA.inj s _ hs (Nat.mod_lt _ hn) (by omega) (by rw [hAs, hd])
        rcases Nat.lt_trichotomy d d' with hlt | heq | hgt
        · have h1 := hbef' d hlt
          have h2 := ba (B ((home c + d) % n) - 1) h1.2 ((home c + d) % n) (Nat.mod_lt _ hn) (by omega)
          omega
        · rw [hsd, heq]; exact hd'
        · have h1 := hbef d' hgt
          have h2 := ab (A ((home c + d') % n) - 1) h1.2 ((home c + d') % n) (Nat.mod_lt _ hn) (by omega)
          omega
      exact ⟨one T T' h h' (fun c' hc' => (ih c' hc').2) (fun c' hc' => (ih c' hc').1), one T' T h' h (fun c' hc' => (ih c' hc').1) (fun c' hc' => (ih c' hc').2)⟩
  exact (key c).1

theorem inv_unique (hn : 0 < n) (h : Inv n home T P) (h' : Inv n home T' P) : ∀ s, s < n → T s = T' s := by
  intro s hs
  by_cases h0 : T s = 0
  · by_cases h1 : T' s = 0
    · omega
    · have := inv_at hn h' h (T' s - 1) s hs (by omega)
      omega
  · have := inv_at hn h h' (T s - 1) s hs (by omega)
    omega

theorem inv_congr {Q : Nat → Prop} (h : Inv n home T P) (e : ∀ c, P c ↔ Q c) : Inv n home T Q :=
  ⟨fun s hs h0 => (e _).1 (h.mem s hs h0), h.inj, fun c hc => h.path c ((e c).2 hc)⟩

theorem inv_table (h : Inv n home T P) (hn : 0 < n) (e : ∀ s, s < n → T s = T' s) : Inv n home T' P := by
  refine ⟨fun s hs h0 => ?_, fun s s' hs hs' h0 h1 => ?_, fun c hc => ?_⟩
  · rw [← e s hs] at h0 ⊢; exact h.mem s hs h0
  · rw [← e s hs] at h0 h1; rw [← e s' hs'] at h1; exact h.inj s s' hs hs' h0 h1
  · obtain ⟨d, hd, hb⟩ := h.path c hc
    refine ⟨d, by rw [← e _ (Nat.mod_lt _ hn)]; exact hd, fun k hk => ?_⟩
    rw [← e _ (Nat.mod_lt _ hn)]; exact hb k hk

theorem inv_empty : Inv n home (fun _ => 0) (fun _ => False) := ⟨fun _ _ h => absurd rfl h, fun _ _ _ _ h => absurd rfl h, fun _ h => h.elim⟩

/-- One client more, later than all, at the first free place from its home. -/
theorem inv_insert (hn : 0 < n) (h : Inv n home T P) (c : Nat) (hc : ∀ c', P c' → c' < c) (d : Nat) (hfree : T ((home c + d) % n) = 0) (hbef : ∀ e, e < d → T ((home c + e) % n) ≠ 0) :
    Inv n home (fun s => if s = (home c + d) % n then c + 1 else T s) (fun c' => c' = c ∨ P c') := by
  refine ⟨fun s hs h0 => ?_, fun s s' hs hs' h0 h1 => ?_, fun c' hc' => ?_⟩
  · by_cases e : s = (home c + d) % n
    · left; simp [e]
    · right; simp only [e, if_false] at h0 ⊢; exact h.mem s hs h0
  · by_cases e : s = (home c + d) % n <;> by_cases e' : s' = (home c + d) % n
    · rw [e, e']
    · simp only [e, e', if_true, if_false] at h1
      have := h.mem s' hs' (by omega)
      have := hc _ this
      omega
    · simp only [e, e', if_true, if_false] at h1 h0
      have := h.mem s hs h0
      have := hc _ this
      omega
    · simp only [e, e', if_false] at h0 h1
      exact h.inj s s' hs hs' h0 h1
  · by_cases e : c' = c
    · subst e
      refine ⟨d, by simp, fun k hk => ?_⟩
      have hk0 := hbef k hk
      have hne : (home c' + k) % n ≠ (home c' + d) % n := fun e => hk0 (by rw [e]; exact hfree)
      simp only [hne, if_false]
      exact ⟨hk0, hc _ (h.mem _ (Nat.mod_lt _ hn) hk0)⟩
    · have hP : P c' := hc'.resolve_left e
      obtain ⟨d', hd', hb'⟩ := h.path c' hP
      refine ⟨d', ?_, fun k hk => ?_⟩
      · have : (home c' + d') % n ≠ (home c + d) % n := fun e => by rw [e, hfree] at hd'; omega
        simp only [this, if_false]; exact hd'
      · have hk0 := hb' k hk
        have : (home c' + k) % n ≠ (home c + d) % n := fun e => hk0.1 (by rw [e]; exact hfree)
        simp only [this, if_false]; exact hk0
end

/-! ### Taking out. The circle is cut at a free place z: the places are told by q from z + 1 to z + n, place q % n. -/

/-- The home of a client in the cut circle. -/
def hq (n : Nat) (home : Nat → Nat) (z c : Nat) : Nat := if home c ≤ z then home c + n else home c

theorem hq_mod {n : Nat} {home : Nat → Nat} {z c : Nat} (hc : home c < n) : hq n home z c % n = home c := by
  unfold hq; split
  · rw [Nat.add_mod_right, Nat.mod_eq_of_lt hc]
  · exact Nat.mod_eq_of_lt hc
theorem hq_range {n : Nat} {home : Nat → Nat} {z c : Nat} (hc : home c < n) (hz : z < n) : z + 1 ≤ hq n home z c ∧ hq n home z c ≤ z + n := by
  unfold hq; split <;> omega
theorem hq_add {n : Nat} {home : Nat → Nat} {z c : Nat} (k : Nat) : (hq n home z c + k) % n = (home c + k) % n := by
  unfold hq; split
  · rw [show home c + n + k = home c + k + n by omega, Nat.add_mod_right]
  · rfl

/-- Two places of the cut circle are one only if they are one number. -/
theorem cut_inj {n z p q : Nat} (hp : z + 1 ≤ p) (hp' : p ≤ z + n) (hq : z + 1 ≤ q) (hq' : q ≤ z + n) (e : p % n = q % n) : p = q := by
  have h1 := Nat.div_add_mod p n
  have h2 := Nat.div_add_mod q n
  rw [e] at h1
  generalize p / n = a at *
  generalize q / n = b at *
  generalize q % n = r at *
  rcases Nat.lt_trichotomy a b with h | h | h
  · have : n * (a + 1) ≤ n * b := Nat.mul_le_mul_left n h
    rw [Nat.mul_add] at this; omega
  · subst h; omega
  · have : n * (b + 1) ≤ n * a := Nat.mul_le_mul_left n h
    rw [Nat.mul_add] at this; omega

/-- Every place has its number in the cut circle. -/
theorem cut_of {n z s : Nat} (hs : s < n) (hz : z < n) : ∃ q, z + 1 ≤ q ∧ q ≤ z + n ∧ q % n = s := by
  by_cases h : s ≤ z
  · exact ⟨s + n, by omega, by omega, by rw [Nat.add_mod_right, Nat.mod_eq_of_lt hs]⟩
  · exact ⟨s, by omega, by omega, Nat.mod_eq_of_lt hs⟩

/-- The table with a hole at g, scanned up to i: the clients of P, but for the one taken out, lie as they should, but that those whose way leads over the hole lie at i or behind it. -/
structure Hole (n : Nat) (home : Nat → Nat) (T : Nat → Nat) (P : Nat → Prop) (z g i : Nat) : Prop where
  zn : z < n
  z0 : T z = 0
  gz : z + 1 ≤ g
  gi : g < i
  iz : i ≤ z + n
  mem : ∀ s, s < n → s ≠ g % n → T s ≠ 0 → P (T s - 1)
  inj : ∀ s s', s < n → s' < n → s ≠ g % n → s' ≠ g % n → T s ≠ 0 → T s = T s' → s = s'
  full : ∀ q, g ≤ q → q < i → T (q % n) ≠ 0
  path : ∀ c, P c → ∃ p, hq n home z c ≤ p ∧ p < z + n ∧ p ≠ g ∧ T (p % n) = c + 1 ∧ (∀ q, hq n home z c ≤ q → q < p → q ≠ g → T (q % n) ≠ 0 ∧ T (q % n) - 1 < c) ∧ (hq n home z c ≤ g → g < p → i ≤ p)

section
variable {n : Nat} {home : Nat → Nat} {T : Nat → Nat} {P : Nat → Prop} {z g i : Nat}

theorem hole_start (hn : 0 < n) (hh : ∀ c, home c < n) (h : Inv n home T P) (hz : z < n) (z0 : T z = 0) (c : Nat) (hc : P c) :
    ∃ g, hq n home z c ≤ g ∧ g < z + n ∧ T (g % n) = c + 1 ∧ (∀ q, hq n home z c ≤ q → q < g → T (q % n) ≠ 0 ∧ T (q % n) ≠ c + 1) ∧ Hole n home T (fun c' => P c' ∧ c' ≠ c) z g (g + 1) := by
  have lin : ∀ c', P c' → ∃ p, hq n home z c' ≤ p ∧ p < z + n ∧ T (p % n) = c' + 1 ∧ ∀ q, hq n home z c' ≤ q → q < p → T (q % n) ≠ 0 ∧ T (q % n) - 1 < c' := by
    intro c' hc'
    obtain ⟨d, hd, hb⟩ := h.path c' hc'
    have hr := hq_range (z := z) (hh c') hz
    have hzz : (hq n home z c' + (z + n - hq n home z c')) % n = z := by
      rw [show hq n home z c' + (z + n - hq n home z c') = z + n by omega, Nat.add_mod_right, Nat.mod_eq_of_lt hz]
    rw [hq_add] at hzz
    have hdz : d < z + n - hq n home z c' := by
      rcases Nat.lt_trichotomy d (z + n - hq n home z c') with h1 | h1 | h1
      · exact h1
      · rw [h1, hzz] at hd; omega
      · have := (hb _ h1).1
        rw [hzz] at this
        exact absurd z0 this
    refine ⟨hq n home z c' + d, by omega, by omega, by rw [hq_add]; exact hd, fun q h1 h2 => ?_⟩
    have := hb (q - hq n home z c') (by omega)
    rw [← hq_add (z := z), show hq n home z c' + (q - hq n home z c') = q by omega] at this
    exact this
  obtain ⟨g, g1, g2, g3, g4⟩ := lin c hc
  have hr := hq_range (z := z) (hh c) hz
  refine ⟨g, g1, g2, g3, fun q h1 h2 => ⟨(g4 q h1 h2).1, fun e => by have := (g4 q h1 h2).2; omega⟩, hz, z0, by omega, by omega, by omega, ?_, ?_, ?_, ?_⟩
  · intro s hs hsg h0
    refine ⟨h.mem s hs h0, fun e => hsg ?_⟩
    exact h.inj s _ hs (Nat.mod_lt _ hn) h0 (by rw [g3]; omega)
  · exact fun s s' hs hs' _ _ h0 h1 => h.inj s s' hs hs' h0 h1
  · intro q h1 h2
    have : q = g := by omega
    subst this; omega
  · rintro c' ⟨hc', hne⟩
    obtain ⟨p, p1, p2, p3, p4⟩ := lin c' hc'
    refine ⟨p, p1, p2, fun e => ?_, p3, fun q h1 h2 _ => p4 q h1 h2, fun h1 h2 => by omega⟩
    subst e; omega

/-- The client at i does not come over the hole: it stays. -/
theorem hole_stay (h : Hole n home T P z g i) (h0 : T (i % n) ≠ 0) (hx : g < hq n home z (T (i % n) - 1)) : Hole n home T P z g (i + 1) := by
  have hn : 0 < n := by have := h.zn; omega
  have hiz : i ≠ z + n := fun e => h0 (by rw [e, Nat.add_mod_right, Nat.mod_eq_of_lt h.zn]; exact h.z0)
  refine ⟨h.zn, h.z0, h.gz, by have := h.gi; omega, by have := h.iz; omega, h.mem, h.inj, ?_, ?_⟩
  · intro q h1 h2
    by_cases e : q = i
    · subst e; exact h0
    · exact h.full q h1 (by omega)
  · intro c hc
    obtain ⟨p, p1, p2, p3, p4, p5, p6⟩ := h.path c hc
    refine ⟨p, p1, p2, p3, p4, p5, fun h1 h2 => ?_⟩
    have := p6 h1 h2
    by_cases e : p = i
    · subst e
      rw [p4] at hx
      simp at hx
      omega
    · omega

/-- The client at i comes over the hole: it moves there, and the hole is at i. -/
theorem hole_move (hh : ∀ c, home c < n) (h : Hole n home T P z g i) (h0 : T (i % n) ≠ 0) (hx : hq n home z (T (i % n) - 1) ≤ g) :
    Hole n home (fun s => if s = g % n then T (i % n) else T s) P z i (i + 1) := by
  have hn : 0 < n := by have := h.zn; omega
  have hgi := h.gi
  have hgz := h.gz
  have hiz' := h.iz
  have hiz : i ≠ z + n := fun e => h0 (by rw [e, Nat.add_mod_right, Nat.mod_eq_of_lt h.zn]; exact h.z0)
  have hne : i % n ≠ g % n := fun e => by have := cut_inj (z := z) (by omega) (by omega) (by omega) (by omega) e; omega
  have hzg : z ≠ g % n := fun e => by
    have : (z + n) % n = g % n := by rw [Nat.add_mod_right, Nat.mod_eq_of_lt h.zn]; exact e
    have := cut_inj (z := z) (by omega) (by omega) (by omega) (by omega) this
    omega
  have hPx : P (T (i % n) - 1) := h.mem _ (Nat.mod_lt _ hn) hne h0
  have atg : ∀ q, z + 1 ≤ q → q ≤ z + n → q ≠ g → q % n ≠ g % n := fun q h1 h2 h3 e => h3 (cut_inj (z := z) h1 h2 (by omega) (by omega) e)
  refine ⟨h.zn, by simp [hzg, h.z0], by omega, by omega, by omega, ?_, ?_, ?_, ?_⟩
  · intro s hs hsi hs0
    by_cases e : s = g % n
    · simp only [e, if_true]; exact hPx
    · simp only [e, if_false] at hs0 ⊢; exact h.mem s hs e hs0
  · intro s s' hs hs' hsi hsi' hs0 h1
    by_cases e : s = g % n <;> by_cases e' : s' = g % n
    · rw [e, e']
    · simp only [e, e', if_true, if_false] at h1
      exact absurd (h.inj _ s' (Nat.mod_lt _ hn) hs' hne e' h0 h1).symm hsi'
    · simp only [e, e', if_true, if_false] at h1 hs0
      exact absurd (h.inj s _ hs (Nat.mod_lt _ hn) e hne hs0 h1) hsi
    · simp only [e, e', if_false] at hs0 h1
      exact h.inj s s' hs hs' e e' hs0 h1
  · intro q h1 h2
    have : q = i := by omega
    subst this
    simp only [hne, if_false]; exact h0
  · intro c hc
    obtain ⟨p, p1, p2, p3, p4, p5, p6⟩ := h.path c hc
    have hr := hq_range (z := z) (hh c) h.zn
    by_cases hpi : p = i
    · -- the client that moves
      subst hpi
      have hcx : T (p % n) - 1 = c := by omega
      rw [hcx] at hx
      refine ⟨g, hx, by omega, by omega, by simp only [if_true]; exact p4, fun q h1 h2 h3 => ?_, fun h1 h2 => by omega⟩
      have := p5 q h1 (by omega) (by omega)
      simp only [atg q (by omega) (by omega) (by omega), if_false]; exact this
    · refine ⟨p, p1, p2, hpi, ?_, fun q h1 h2 h3 => ?_, fun h1 h2 => by omega⟩
      · simp only [atg p (by omega) (by omega) p3, if_false]; exact p4
      · by_cases hqg : q = g
        · subst hqg
          simp only [if_true]
          have hip := p6 h1 h2
          exact p5 i (by omega) (by omega) (by omega)
        · simp only [atg q (by omega) (by omega) hqg, if_false]
          exact p5 q h1 h2 hqg

/-- The scan has come to a free place: nobody comes over the hole. -/
theorem hole_end (hh : ∀ c, home c < n) (h : Hole n home T P z g i) (h0 : T (i % n) = 0) : Inv n home (fun s => if s = g % n then 0 else T s) P := by
  have hn : 0 < n := by have := h.zn; omega
  have hgi := h.gi
  have hgz := h.gz
  have hiz' := h.iz
  have atg : ∀ q, z + 1 ≤ q → q ≤ z + n → q ≠ g → q % n ≠ g % n := fun q h1 h2 h3 e => h3 (cut_inj (z := z) h1 h2 (by omega) (by omega) e)
  refine ⟨?_, ?_, ?_⟩
  · intro s hs hs0
    by_cases e : s = g % n
    · simp [e] at hs0
    · simp only [e, if_false] at hs0 ⊢; exact h.mem s hs e hs0
  · intro s s' hs hs' hs0 h1
    by_cases e : s = g % n
    · simp [e] at hs0
    · by_cases e' : s' = g % n
      · simp only [e, e', if_true, if_false] at h1 hs0; exact absurd h1 hs0
      · simp only [e, e', if_false] at h1 hs0; exact h.inj s s' hs hs' e e' hs0 h1
  · intro c hc
    obtain ⟨p, p1, p2, p3, p4, p5, p6⟩ := h.path c hc
    have hr := hq_range (z := z) (hh c) h.zn
    have hnot : ¬ (hq n home z c ≤ g ∧ g < p) := by
      rintro ⟨h1, h2⟩
      have hip := p6 h1 h2
      by_cases e : p = i
      · subst e; omega
      · exact (p5 i (by omega) (by omega) (by omega)).1 h0
    refine ⟨p - hq n home z c, ?_, fun k hk => ?_⟩
    · rw [← hq_add (z := z), show hq n home z c + (p - hq n home z c) = p by omega]
      simp only [atg p (by omega) (by omega) p3, if_false]; exact p4
    · rw [← hq_add (z := z)]
      have hkg : hq n home z c + k ≠ g := by omega
      simp only [atg (hq n home z c + k) (by omega) (by omega) hkg, if_false]
      exact p5 _ (by omega) (by omega) hkg
end

/-- How many of the first n places are taken. -/
def usedN (T : Nat → Nat) : Nat → Nat
  | 0 => 0
  | n + 1 => usedN T n + if T n = 0 then 0 else 1
theorem usedN_put (T : Nat → Nat) (h v n : Nat) : usedN (fun j => if j = h then v else T j) n ≤ usedN T n + 1 := by
  have key : usedN (fun j => if j = h then v else T j) n ≤ usedN T n + if h < n then 1 else 0 := by
    induction n with
    | zero => simp [usedN]
    | succ n ih =>
      simp only [usedN]
      by_cases h1 : n = h
      · subst h1
        simp at ih ⊢
        split <;> split <;> omega
      · by_cases h2 : h < n
        · have : h < n + 1 := by omega
          simp only [h1, h2, this, if_true, if_false] at ih ⊢
          omega
        · have : ¬ h < n + 1 := by omega
          simp only [h1, h2, this, if_false] at ih ⊢
          omega
  split at key <;> omega
theorem usedN_free (T : Nat → Nat) (n : Nat) (h : usedN T n < n) : ∃ j, j < n ∧ T j = 0 := by
  induction n with
  | zero => omega
  | succ n ih =>
    by_cases hu : T n = 0
    · exact ⟨n, by omega, hu⟩
    · simp only [usedN, hu, if_false] at h
      obtain ⟨j, hj, hj'⟩ := ih (by omega)
      exact ⟨j, by omega, hj'⟩
theorem usedN_none (n : Nat) : usedN (fun _ => 0) n = 0 := by
  induction n with
  | zero => rfl
  | succ n ih => simp only [usedN]; rw [ih]; rfl

theorem free_dist {T : Nat → Nat} {n : Nat} (h0 : Nat) (hf : ∃ j, j < n ∧ T j = 0) : ∃ d0, d0 < n ∧ T ((h0 + d0) % n) = 0 := by
  obtain ⟨j, hj, hu⟩ := hf
  have hn : 0 < n := by omega
  refine ⟨(j + n - h0 % n) % n, Nat.mod_lt _ hn, ?_⟩
  have hlt : h0 % n < n := Nat.mod_lt _ hn
  have : (h0 + (j + n - h0 % n) % n) % n = j := by
    rw [Nat.add_mod_mod]
    have e1 : h0 = n * (h0 / n) + h0 % n := (Nat.div_add_mod h0 n).symm
    have e2 : h0 + (j + n - h0 % n) = j + n * (h0 / n + 1) := by rw [Nat.mul_add]; omega
    rw [e2, Nat.add_mul_mod_self_left, Nat.mod_eq_of_lt hj]
  rw [this]; exact hu
theorem step_mod (h0 d n : Nat) : ((h0 + d) % n + 1) % n = (h0 + (d + 1)) % n := by
  rw [Nat.mod_add_mod]; rfl
end Go.Proofs.Qxb6614883a
