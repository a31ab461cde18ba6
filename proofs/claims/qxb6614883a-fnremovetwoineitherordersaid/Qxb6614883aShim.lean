import Derived.Test.Qxb6614883aRemove
namespace Go.Proofs.Qxb6614883a
open Go.RowKit Go.Deep

set_option maxRecDepth 100000 in
set_option maxHeartbeats 2000000 in
theorem ZZremove_any (b n L hbk len : Nat) (count : Int) (hz : Nat → Int) (T : Nat → Nat) (P : Nat → Prop) (c : Nat) (w : World) (h2 : L ≤ 16) (hn : n = 2 ^ L) (hlen : len ≤ 4096)
    (hh : HashAt w hbk len hz) (hr : ∀ i, 0 ≤ hz i ∧ hz i < 18446744073709551616) (hhb : hbk ≠ b) (hS : SlotsAt w b n T) (hI : Inv n (fun c => (hz c).toNat % n) T P) (hP : ∀ c, P c → c < len) (hc : P c) (hf : ∃ z, z < n ∧ T z = 0)
    (hcount : 1 ≤ count ∧ count ≤ 4096) :
    Calls Try.prog 10 #[.slice (some ⟨b, 0, none⟩) n n, .int .i64 count, .int .u32 c, .int .u64 (hz c), .slice (some ⟨hbk, 0, none⟩) len len] w fun e w' => e = .returned (.int .i64 (count - 1)) ∧
      Only b w w' ∧ ∃ T', SlotsAt w' b n T' ∧ Inv n (fun c => (hz c).toNat % n) T' (fun c' => P c' ∧ c' ≠ c) ∧ ∃ z, z < n ∧ T' z = 0 := by
  have hbw : b < w.heap.size := hS.lt
  have hhw : hbk < w.heap.size := hh.lt
  have hb0 : Below w.heap.size w ((w.alloc (.cells #[.slice (some ⟨hbk, 0, none⟩) len len] 22)).alloc (.cells #[.slice (some ⟨b, 0, none⟩) n n, .int .i64 count] 38)) := ((Below.refl _ _).alloc (Nat.le_refl _) _).alloc (by simp) _
  have call := remove_any (w.heap.size + 1) b n L hbk len w.heap.size count hz T P c ((w.alloc (.cells #[.slice (some ⟨hbk, 0, none⟩) len len] 22)).alloc (.cells #[.slice (some ⟨b, 0, none⟩) n n, .int .i64 count] 38))
    h2 hn hlen (rowIs_below hh hb0) hr (by simp [go_sem]) (by simp [go_sem]) (by simp [go_sem]) (by simp [go_sem]) (by omega) hhb (by omega) (rowIs_below hS hb0) hI hP hc hf hcount
  have HC := hide call
  have HB0 := hide hb0
  clear call hb0 hI hP hc hf hS hh hn
  go_enter Try.func10, Try.ntmps10
  go_wp2_with fail
  refine HC.out.mono ?_
  rintro e w' ⟨rfl, w1, T', rfl, hO, hS', hI', hz'⟩
  have hO' : Only b w (w1.setCell ⟨w.heap.size + 1, 1, none⟩ (.int .i64 (count - 1))) := by
    refine ⟨hO.os, hO.tape, hO.output, ?_, fun k hk hb => ?_⟩
    · have := hO.size; simp at this ⊢; omega
    · rw [blk_setCell_other _ _ _ _ (by show k ≠ w.heap.size + 1; omega), hO.block k (by simp; omega) hb]
      exact HB0.out.block k hk
  have hS'' : SlotsAt (w1.setCell ⟨w.heap.size + 1, 1, none⟩ (.int .i64 (count - 1))) b n T' := World.rowIs.setOther hS' (by show b ≠ w.heap.size + 1; omega) _
  have hxc : (w1.setCell ⟨w.heap.size + 1, 1, none⟩ (.int .i64 (count - 1))).cell? ⟨w.heap.size + 1, 1, none⟩ = some (.int .i64 (count - 1)) := by
    have : w1.cell? ⟨w.heap.size + 1, 1, none⟩ = some (.int .i64 count) := hO.cell (by simp [go_sem]) (by show w.heap.size + 1 ≠ b; omega)
    exact World.cell?_setCell_same _ _ _ this
  generalize w1.setCell ⟨w.heap.size + 1, 1, none⟩ (.int .i64 (count - 1)) = w2 at *
  have HO := hide hO'
  have HS := hide hS''
  have HI := hide hI'
  have HZ := hide hz'
  clear hO hS' hI' hz' hO' hS''
  go_wp2
  go_ret
  exact ⟨rfl, HO.out, T', HS.out, HI.out, HZ.out⟩

set_option maxHeartbeats 1000000 in
theorem sameSlots_any (b b' n : Nat) (T T' : Nat → Nat) (w : World) (hS : SlotsAt w b n T) (hS' : SlotsAt w b' n T') (hn : n ≤ 65536) (heq : ∀ s, s < n → T s = T' s) :
    Calls Try.prog 11 #[.slice (some ⟨b, 0, none⟩) n n, .slice (some ⟨b', 0, none⟩) n n] w fun e w' => e = .returned (.bool true) ∧ ∃ q, w' = w.drewN q := by
  go_enter Try.func11, Try.ntmps11
  go_wp2
  go_loopw [5] (fun i wr => ∃ k : Nat, k ≤ n ∧ i = .int .i64 k ∧ ∃ q, wr = w.drewN q) (fun i _ => n - (intOf i).toNat)
  case atStart => exact ⟨0, by omega, rfl, 0, rfl⟩
  case round =>
    obtain ⟨k, hk, rfl, q, rfl⟩ := hrel
    by_cases hlt : k < n
    · have c1 := hS.cell hlt
      have c2 := hS'.cell hlt
      rw [← heq k hlt] at c2
      have hk0 : (k : Int) < (n : Int) := by omega
      go_wp2
      go_quiet (fail)
      go_wp2
      go_roundw
      case rel => exact ⟨k + 1, by omega, by go_num, _, rfl⟩
      case measure => simp [intOf]; omega
    · go_wp2
      go_ret
      exact ⟨rfl, _, rfl⟩

/-- What the walk is told of the slice of hashes that came in. -/
def IsRow (k : IntKind) (w : World) (a : Option Addr) (len cap : Nat) (zs : List Int) : Prop :=
  (a = none ∧ len = 0 ∧ cap = 0 ∧ zs = []) ∨
  ∃ x, a = some x ∧ len ≤ cap ∧ cap ≤ maxLen ∧ zs.length = cap ∧ (∀ i, i < zs.length → w.cell? (x.add i) = some (.int k (zs.getD i 0))) ∧ ∀ n ∈ zs, (Lit.int k n).wf = true

set_option maxHeartbeats 1000000 in
theorem clone_any (a : Option Addr) (len cap : Nat) (hz : Nat → Int) (w : World) (hc : ∀ i, i < len → ∃ b o, a = some ⟨b, o, none⟩ ∧ w.cell? ⟨b, o + i, none⟩ = some (.int .u64 (hz i))) (hl : len ≤ 4096) :
    Calls Try.prog 8 #[.slice a len cap] w fun e w' => e = .returned (.slice (some ⟨w.heap.size, 0, none⟩) len len) ∧ Below w.heap.size w w' ∧ HashAt w' w.heap.size len hz := by
  have hmk := run_make_row' (P := Try.prog) 22 26 _ 8 Try.underlying22 info26 rfl .i64 .i64 len (by omega) (by omega)
  go_enter Try.func8, Try.ntmps8
  go_wp2
  clear hmk
  go_loopw [4] (fun i wr => ∃ k : Nat, k ≤ len ∧ i = .int .i64 k ∧ Below w.heap.size w wr ∧ wr.rowIs w.heap.size 26 len (fun i => .int .u64 (if i < k then hz i else 0))) (fun i _ => len - (intOf i).toNat)
  case atStart => exact ⟨0, by omega, rfl, (Below.refl _ _).alloc (Nat.le_refl _) _, (World.rowIs_made _ _ _ _).congr (fun i _ => by simp)⟩
  case round =>
    obtain ⟨k, hk, rfl, hb, hrow⟩ := hrel
    by_cases hlt : k < len
    · obtain ⟨b, o, rfl, hcell⟩ := hc k hlt
      have hcell' := cell_below hb hcell
      have e0 := hrow.cell hlt
      have ef := hrow.frozen k
      have HST := hide (hrow.set k (.int .u64 (hz k)))
      clear hrow hcell
      go_wp2
      go_roundw
      case rel =>
        refine ⟨k + 1, by omega, by go_num, hb.setCell (Nat.le_refl _) _, HST.out.congr (fun i _ => ?_)⟩
        by_cases e : i = k
        · simp [e]
        · have : (i < k + 1) = (i < k) := by apply propext; omega
          simp [e, this]
      case measure => simp [intOf]; omega
    · go_wp2
      go_ret
      refine ⟨rfl, hb, hrow.congr (fun i hi => ?_)⟩
      have : i < k := by omega
      simp [this]
end Go.Proofs.Qxb6614883a
