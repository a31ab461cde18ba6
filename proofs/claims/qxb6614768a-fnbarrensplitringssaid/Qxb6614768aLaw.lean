import Derived.Test.Qxb6614768aModel
import Derived.Test.Qxb6614768aAll
namespace Go.Proofs.Qxb6614768a

theorem mark_iff (ns : List (List UInt8)) (F : Nat → Bool) (x : List UInt8) (j : Nat) : mark ns F x j = true ↔ F j = true ∨ (x ∈ ns ∧ j = ns.idxOf x) := by
  by_cases h : x ∈ ns
  · rw [mark_in _ _ _ h]
    by_cases e : j = ns.idxOf x <;> simp [e, h]
  · rw [mark_out _ _ _ h]; simp [h]
theorem mark2_iff (ns : List (List UInt8)) (F : Nat → Bool) (x : List UInt8) (j : Nat) : mark2 ns F x j = true ↔ F j = true ∨ (x ∈ ns ∧ (j = ns.idxOf x ∨ j = (ns.idxOf x + ns.length - 1) % ns.length)) := by
  by_cases h : x ∈ ns
  · rw [mark2_in _ _ _ h]
    by_cases e : j = ns.idxOf x <;> by_cases e' : j = (ns.idxOf x + ns.length - 1) % ns.length <;> simp [e, e', h]
  · rw [mark2_out _ _ _ h]; simp [h]
theorem marks2_iff (ns : List (List UInt8)) (cs : List (List UInt8)) (j : Nat) : ∀ F : Nat → Bool, cs.foldl (mark2 ns) F j = true ↔ F j = true ∨ ∃ c, c ∈ cs ∧ c ∈ ns ∧ (j = ns.idxOf c ∨ j = (ns.idxOf c + ns.length - 1) % ns.length) := by
  induction cs with
  | nil => intro F; simp
  | cons c cs ih =>
    intro F
    rw [List.foldl_cons, ih, mark2_iff]
    constructor
    · rintro ((h | h) | ⟨c', h1, h2⟩)
      · exact .inl h
      · exact .inr ⟨c, List.mem_cons_self, h⟩
      · exact .inr ⟨c', List.mem_cons_of_mem _ h1, h2⟩
    · rintro (h | ⟨c', h1, h2⟩)
      · exact .inl (.inl h)
      · rcases List.mem_cons.1 h1 with rfl | h1
        · exact .inl (.inr h2)
        · exact .inr ⟨c', h1, h2⟩

theorem idx_iff {ns : List (List UInt8)} (hd : ns.Nodup) {j : Nat} (hj : j < ns.length) (x : List UInt8) : (x ∈ ns ∧ j = ns.idxOf x) ↔ ns[j] = x := by
  constructor
  · rintro ⟨h, e⟩
    have hlt : ns.idxOf x < ns.length := List.idxOf_lt_length_iff.2 h
    have := List.getElem_idxOf hlt
    subst e; exact this
  · rintro rfl
    refine ⟨List.getElem_mem hj, ?_⟩
    exact (hd.idxOf_getElem j hj).symm

theorem next_iff {ns : List (List UInt8)} (hd : ns.Nodup) {j : Nat} (hj : j < ns.length) (x : List UInt8) : (x ∈ ns ∧ j = (ns.idxOf x + ns.length - 1) % ns.length) ↔ nextOf ns j = x := by
  have key : ∀ i, i < ns.length → (j = (i + ns.length - 1) % ns.length ↔ i = if j + 1 < ns.length then j + 1 else 0) := by
    intro i hi
    by_cases h0 : i = 0
    · subst h0
      rw [Nat.mod_eq_of_lt (by omega)]
      split <;> omega
    · have : (i + ns.length - 1) % ns.length = i - 1 := by
        have e : i + ns.length - 1 = i - 1 + ns.length := by omega
        rw [e, Nat.add_mod_right, Nat.mod_eq_of_lt (by omega)]
      rw [this]
      split <;> omega
  have hnx : ∃ m, ∃ hm : m < ns.length, (if j + 1 < ns.length then j + 1 else 0) = m ∧ nextOf ns j = ns[m] := by
    unfold nextOf
    by_cases h : j + 1 < ns.length
    · exact ⟨j + 1, h, by simp [h], by rw [if_pos h, List.getD_eq_getElem?_getD, List.getElem?_eq_getElem h]; rfl⟩
    · have h0 : 0 < ns.length := by omega
      exact ⟨0, h0, by simp [h], by rw [if_neg h, List.getD_eq_getElem?_getD, List.getElem?_eq_getElem h0]; rfl⟩
  obtain ⟨m, hm, em, en⟩ := hnx
  rw [en, ← idx_iff hd hm]
  constructor
  · rintro ⟨h, e⟩
    refine ⟨h, ?_⟩
    have := (key _ (List.idxOf_lt_length_iff.2 h)).1 e
    rw [this, em]
  · rintro ⟨h, e⟩
    refine ⟨h, (key _ (List.idxOf_lt_length_iff.2 h)).2 ?_⟩
    rw [em]; exact e.symm

theorem linked_iff {ns : List (List UInt8)} (hd : ns.Nodup) {j : Nat} (hj : j < ns.length) (gw cl : List UInt8) (cs : List (List UInt8)) :
    linkedF ns gw cl cs j = true ↔ ns[j] = gw ∨ ns[j] = cl ∨ ns[j] ∈ cs ∨ nextOf ns j ∈ cs := by
  rw [linkedF, marks2_iff, mark_iff, mark_iff]
  constructor
  · rintro (((h | h) | h) | ⟨c, h1, h2, h3 | h3⟩)
    · cases h
    · exact .inl ((idx_iff hd hj gw).1 h)
    · exact .inr (.inl ((idx_iff hd hj cl).1 h))
    · have := (idx_iff hd hj c).1 ⟨h2, h3⟩
      exact .inr (.inr (.inl (this ▸ h1)))
    · have := (next_iff hd hj c).1 ⟨h2, h3⟩
      exact .inr (.inr (.inr (this ▸ h1)))
  · rintro (h | h | h | h)
    · exact .inl (.inl (.inr ((idx_iff hd hj gw).2 h)))
    · exact .inl (.inr ((idx_iff hd hj cl).2 h))
    · have := (idx_iff hd hj ns[j]).2 rfl
      exact .inr ⟨_, h, this.1, .inl this.2⟩
    · have := (next_iff hd hj (nextOf ns j)).2 rfl
      exact .inr ⟨_, h, this.1, .inr this.2⟩

theorem at_eq (leaver self : List UInt8) (lost : List (List UInt8)) (r : RingD) (hd : (nms r.names).Nodup) (j : Nat) (hj : j < r.names.length) :
    okAt leaver self (fun x => decide (x ∈ lost)) r j = modelAt leaver self lost r j := by
  have hj' : j < (nms r.names).length := by rw [nms_length]; exact hj
  have hg : (nms r.names).getD j [] = (nms r.names)[j] := by rw [List.getD_eq_getElem?_getD, List.getElem?_eq_getElem hj']; rfl
  rw [Bool.eq_iff_iff]
  simp only [okAt, modelAt, hg, Bool.or_eq_true, linked_iff hd hj', beq_iff_eq, decide_eq_true_eq]
  constructor
  · rintro (((h | h) | (h | h | h | h)) | h) <;> simp [h]
  · rintro ((((((h | h) | h) | h) | h) | h) | h) <;> simp [h]

theorem exact_law (leaver self : List UInt8) (lost : List (List UInt8)) (depth : Int) (rs : List RingD) (hd : ∀ r ∈ rs, (nms r.names).Nodup) :
    barrenF leaver self (fun x => decide (x ∈ lost)) depth rs = modelF leaver self lost depth rs := by
  have hr : ∀ r ∈ rs, okRing leaver self (fun x => decide (x ∈ lost)) depth r = modelRing leaver self lost depth r := by
    intro r h
    have : (List.range r.names.length).all (okAt leaver self (fun x => decide (x ∈ lost)) r) = (List.range r.names.length).all (modelAt leaver self lost r) := by
      rw [Bool.eq_iff_iff, List.all_eq_true, List.all_eq_true]
      exact ⟨fun h' j hj => by rw [← at_eq leaver self lost r (hd r h) j (List.mem_range.1 hj)]; exact h' j hj, fun h' j hj => by rw [at_eq leaver self lost r (hd r h) j (List.mem_range.1 hj)]; exact h' j hj⟩
    rw [okRing, modelRing, this]
  rw [barrenF, modelF, Bool.eq_iff_iff, List.all_eq_true, List.all_eq_true]
  exact ⟨fun h' r h => by rw [← hr r h]; exact h' r h, fun h' r h => by rw [hr r h]; exact h' r h⟩

theorem split_law (leaver self : List UInt8) (B : List UInt8 → Bool) (depth : Int) (rs : List RingD) (k : Nat) :
    barrenF leaver self B depth rs = (barrenF leaver self B depth (rs.take k) && barrenF leaver self B depth (rs.drop k)) := by
  simp only [barrenF]
  rw [← List.all_append, List.take_append_drop]

theorem mem_flat {rs : List RingD} {r : RingD} (h : r ∈ rs) {s : ByteArray} (hs : s ∈ r.names) : s ∈ flatNames rs := by
  rw [flatNames, List.mem_flatten]
  exact ⟨r.names, List.mem_map_of_mem h, hs⟩

theorem full_law (leaver self : List UInt8) (depth : Int) (rs : List RingD) (ls : List ByteArray) :
    barrenF leaver self (fun x => decide (x ∈ nms (allNames rs ls))) depth rs = true := by
  rw [barrenF, List.all_eq_true]
  intro r hr
  have : (List.range r.names.length).all (okAt leaver self (fun x => decide (x ∈ nms (allNames rs ls))) r) = true := by
    rw [List.all_eq_true]
    intro j hj
    have hj' := List.mem_range.1 hj
    have hm : (nms r.names).getD j [] ∈ nms (allNames rs ls) := by
      rw [nms_getD _ _ hj']
      exact List.mem_map_of_mem (List.mem_append.2 (.inr (mem_flat hr (List.getElem_mem hj'))))
    simp only [okAt, hm, decide_true, Bool.or_true]
  rw [okRing, this]; simp
end Go.Proofs.Qxb6614768a
