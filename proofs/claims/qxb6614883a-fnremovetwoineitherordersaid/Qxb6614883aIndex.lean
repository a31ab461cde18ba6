import Derived.Test.Qxb6614883aFixed
import Derived.Test.Qxb6614883aPlain
import Derived.Deep.LoopGhost
import Derived.Deep.OwnRows
import Derived.Deep.QuietTactic
import Derived.BigQuiet
import Derived.WalkSmall
namespace Go.Proofs.Qxb6614883a
open Go.RowKit Go.Deep

theorem hide {p : Prop} (h : p) : Hid p := h
theorem unhide {p : Prop} (h : Hid p) : p := h
theorem ret_bool {a b : Bool} (h : a = b) : Ending.returned (.bool a) = .returned (.bool b) := by rw [h]
theorem cell_below {w w' : World} {a : Addr} {v : Value} (hb : Below w.heap.size w w') (h : w.cell? a = some v) : w'.cell? a = some v := (hb.cell (block_lt_of_cell h)).trans h
theorem rowIs_below {w w' : World} {b : Nat} {t : TypeId} {n : Nat} {f : Nat → Value} (h : w.rowIs b t n f) (hb : Below w.heap.size w w') : w'.rowIs b t n f := h.of_block (hb.block b h.lt)
theorem info23 : (Try.prog.info? 23).map (fun i => (i.zero, i.size, i.bytes)) = some (some (.int .u32 0), 1, 4) := by kernel_rfl
theorem info26 : (Try.prog.info? 26).map (fun i => (i.zero, i.size, i.bytes)) = some (some (.int .u64 0), 1, 8) := by kernel_rfl

theorem and_mask (x : Int) (h0 : 0 ≤ x) (h1 : x < 18446744073709551616) (m n : Nat) (hm : m ≤ 16) (hn : n = 2 ^ m) : bits .and .u64 x ((n : Int) - 1) = ((x.toNat % n : Nat) : Int) := by
  obtain ⟨a, rfl⟩ := Int.eq_ofNat_of_zero_le h0
  have hn31 : n ≤ 65536 := by rw [hn]; exact Nat.pow_le_pow_right (by omega) hm
  have hn0 : 1 ≤ n := by rw [hn]; exact Nat.one_le_two_pow
  have e : ((n : Int) - 1) = ((n - 1 : Nat) : Int) := by omega
  rw [e, bits_and_u64_nat a (n - 1) (by omega) (by omega), Int.toNat_natCast, hn, Nat.and_two_pow_sub_one_eq_mod]

/-- The slots in block b hold T. -/
def SlotsAt (w : World) (b n : Nat) (T : Nat → Nat) : Prop := w.rowIs b 23 n (fun s => .int .u32 (T s : Int))
def HashAt (w : World) (b len : Nat) (hz : Nat → Int) : Prop := w.rowIs b 26 len (fun i => .int .u64 (hz i))

theorem skip_step {n : Nat} {home T : Nat → Nat} {k : Nat} {sa sb : Int} (h : Inv n home T (fun c => c < k ∧ (c : Int) ≠ sa ∧ (c : Int) ≠ sb)) (e : (k : Int) = sa ∨ (k : Int) = sb) :
    Inv n home T (fun c => c < k + 1 ∧ (c : Int) ≠ sa ∧ (c : Int) ≠ sb) := by
  refine inv_congr h (fun c => ?_)
  constructor
  · rintro ⟨h1, h2, h3⟩; exact ⟨by omega, h2, h3⟩
  · rintro ⟨h1, h2, h3⟩; exact ⟨by omega, h2, h3⟩

set_option maxRecDepth 100000 in
set_option maxHeartbeats 2000000 in
theorem buildIndex_any (L n hbk len : Nat) (hz : Nat → Int) (sa sb : Int) (w : World) (h1 : 1 ≤ L) (h2 : L ≤ 16) (hn : n = 2 ^ L) (hlen : len ≤ 4096) (h34 : 4 * len ≤ 3 * n) (hh : HashAt w hbk len hz) (hr : ∀ i, 0 ≤ hz i ∧ hz i < 18446744073709551616) :
    Calls Try.prog 9 #[.int .i64 L, .slice (some ⟨hbk, 0, none⟩) len len, .int .i64 sa, .int .i64 sb] w fun e w' =>
      Below w.heap.size w w' ∧ ∃ b T, w.heap.size ≤ b ∧ e = .returned (.slice (some ⟨b, 0, none⟩) n n) ∧ SlotsAt w' b n T ∧ Inv n (fun c => (hz c).toNat % n) T (fun c => c < len ∧ (c : Int) ≠ sa ∧ (c : Int) ≠ sb) ∧ ∃ z, z < n ∧ T z = 0 := by
  have hn31 : n ≤ 65536 := by rw [hn]; exact Nat.pow_le_pow_right (by omega) h2
  have hn0 : 1 ≤ n := by rw [hn]; exact Nat.one_le_two_pow
  have HN := hide hn
  clear hn
  have hp : (2 : Int) ^ L = (n : Int) := by rw [HN.out]; simp
  have hmk := run_make_row' (P := Try.prog) 28 23 _ 4 Try.underlying28 info23 rfl .i64 .i64 n (by omega) (by omega)
  go_enter Try.func9, Try.ntmps9
  go_wp2
  clear hmk hp
  go_loopw [12] (fun i wr => ∃ (k : Nat) (T : Nat → Nat), k ≤ len ∧ i = .int .i64 k ∧ Below w.heap.size w wr ∧ SlotsAt wr w.heap.size n T ∧ Inv n (fun c => (hz c).toNat % n) T (fun c => c < k ∧ (c : Int) ≠ sa ∧ (c : Int) ≠ sb) ∧ usedN T n ≤ k) (fun i _ => len - (intOf i).toNat)
  case atStart =>
    exact ⟨0, fun _ => 0, by omega, rfl, (Below.refl _ _).alloc (Nat.le_refl _) _, World.rowIs_made _ _ _ _, inv_congr inv_empty (fun c => by simp), by rw [usedN_none]; omega⟩
  case round =>
    obtain ⟨k, T, hk, rfl, hb, hS, hI, hu⟩ := hrel
    by_cases hlt : k < len
    · by_cases ca : (k : Int) = sa
      · have qa : ((k : Int) == sa) = true := by simp [ca]
        have HI := hide (skip_step hI (Or.inl ca))
        clear ca hI
        go_wp2
        go_roundw
        case rel => exact ⟨k + 1, T, by omega, by go_num, hb, hS, HI.out, by omega⟩
        case measure => simp [intOf]; omega
      · have qa : ((k : Int) == sa) = false := by simp [ca]
        by_cases cb : (k : Int) = sb
        · have qb : ((k : Int) == sb) = true := by simp [cb]
          have HI := hide (skip_step hI (Or.inr cb))
          clear ca cb hI
          go_wp2
          go_roundw
          case rel => exact ⟨k + 1, T, by omega, by go_num, hb, hS, HI.out, by omega⟩
          case measure => simp [intOf]; omega
        · have qb : ((k : Int) == sb) = false := by simp [cb]
          have hhc := (rowIs_below hh hb).cell hlt
          obtain ⟨d0, hd0, hf0⟩ := free_dist ((hz k).toNat % n) (usedN_free T n (by omega))
          have HF0 := hide hf0
          have hrk := hr k
          have HI := hide hI
          have hbig : ∀ s, s < n → T s ≤ 4096 := by
            intro s hs
            by_cases h0 : T s = 0
            · omega
            · have := (hI.mem s hs h0).1; omega
          have CA := hide ca
          have CB := hide cb
          clear ca cb hf0 hI
          go_wp2
          go_loop [13, 14] (fun s st => ∃ d : Nat, d ≤ d0 ∧ s = .int .u64 ((((hz k).toNat % n + d) % n : Nat) : Int) ∧ st = .int .i64 d ∧ ∀ e, e < d → T (((hz k).toNat % n + e) % n) ≠ 0) (fun _ st => d0 - (intOf st).toNat)
          case atStart => exact ⟨0, by omega, by rw [and_mask _ hrk.1 hrk.2 L n h2 HN.out, Nat.add_zero, Nat.mod_mod], rfl, fun e he => absurd he (by omega)⟩
          case round =>
            obtain ⟨d, hd, rfl, rfl, hbef⟩ := hrel
            have HB := hide hbef
            clear hbef
            have hjn : ((hz k).toNat % n + d) % n < n := Nat.mod_lt _ hn0
            obtain ⟨j, hj⟩ : ∃ j, j = ((hz k).toNat % n + d) % n := ⟨_, rfl⟩
            rw [← hj] at hjn ⊢
            have HJ := hide hj
            clear hj
            have hcj := hS.cell hjn
            have hdn : (d : Int) < (n : Int) := by omega
            by_cases ht : T j = 0
            · have htb : ((T j : Int) == 0) = true := by simp [ht]
              have hfr := hS.frozen j
              have HT := hide ht
              have hSn := hide (hS.set j (.int .u32 ((k : Int) + 1)))
              clear ht
              go_wp2
              go_roundw
              case rel =>
                refine ⟨k + 1, fun s => if s = ((hz k).toNat % n + d) % n then k + 1 else T s, by omega, by go_num, hb.setCell (Nat.le_refl _) _, ?_, ?_, ?_⟩
                · refine hSn.out.congr (fun s _ => ?_)
                  rw [← HJ.out]
                  by_cases e : s = j <;> simp [e]
                · refine inv_congr (inv_insert hn0 HI.out k (fun c' h => h.1) d (by show T (((hz k).toNat % n + d) % n) = 0; rw [← HJ.out]; exact HT.out) HB.out) (fun c => ?_)
                  constructor
                  · rintro (rfl | ⟨h1, h2, h3⟩)
                    · exact ⟨by omega, CA.out, CB.out⟩
                    · exact ⟨by omega, h2, h3⟩
                  · rintro ⟨h1, h2, h3⟩
                    by_cases e : c = k
                    · exact .inl e
                    · exact .inr ⟨by omega, h2, h3⟩
                · exact Nat.le_trans (usedN_put T _ _ n) (by omega)
              case measure => simp [intOf]; omega
            · have htb : ((T j : Int) == 0) = false := by simp [ht]
              have hdd : d ≠ d0 := by
                rintro rfl
                exact ht (by rw [HJ.out]; exact HF0.out)
              have HT := hide ht
              clear ht
              go_wp2
              go_round
              case rel =>
                refine ⟨d + 1, by omega, ?_, by go_num, ?_⟩
                · have e1 := and_mask ((j : Int) + 1) (by omega) (by omega) L n h2 HN.out
                  have e2 : ((j : Int) + 1).toNat = j + 1 := by omega
                  rw [e2] at e1
                  rw [e1, HJ.out, step_mod]
                · intro e he
                  by_cases h : e = d
                  · subst h; rw [← HJ.out]; exact HT.out
                  · exact HB.out e (by omega)
              case measure => simp [intOf]; omega
    · go_wp2
      go_ret
      have hkn : k = len := by omega
      subst hkn
      exact ⟨hb, w.heap.size, T, Nat.le_refl _, rfl, hS, hI, usedN_free T n (by omega)⟩
end Go.Proofs.Qxb6614883a
