import Derived.Test.Qxb6614768aLeaf
import Derived.Test.Qxb6614768aPlain
namespace Go.Proofs.Qxb6614768a
open Go.RowKit

theorem bits_and_u32_nat (a b : Nat) (ha : a < 4294967296) (hb : b < 4294967296) :
    bits .and .u32 (a : Int) (b : Int) = ((a &&& b : Nat) : Int) := by
  have hx : a &&& b < 2 ^ 32 := Nat.and_lt_two_pow _ (by omega)
  have h1 : (BitVec.ofInt 32 (a : Int)).toNat = a := by
    rw [BitVec.ofInt_natCast, BitVec.toNat_ofNat]; exact Nat.mod_eq_of_lt (by omega)
  have h2 : (BitVec.ofInt 32 (b : Int)).toNat = b := by
    rw [BitVec.ofInt_natCast, BitVec.toNat_ofNat]; exact Nat.mod_eq_of_lt (by omega)
  show IntKind.u32.wrap ((BitVec.ofInt 32 (a : Int) &&& BitVec.ofInt 32 (b : Int)).toNat : Int) = _
  rw [BitVec.toNat_and, h1, h2, IntKind.wrap_u32]
  omega

theorem and_mask (x : Int) (h0 : 0 ≤ x) (h1 : x < 4294967296) (m n : Nat) (hm : m ≤ 30) (hn : n = 2 ^ m) : bits .and .u32 x ((n : Int) - 1) = ((x.toNat % n : Nat) : Int) := by
  obtain ⟨a, rfl⟩ := Int.eq_ofNat_of_zero_le h0
  have hn31 : n ≤ 1073741824 := by rw [hn]; exact Nat.pow_le_pow_right (by omega) hm
  have hn0 : 1 ≤ n := by rw [hn]; exact Nat.one_le_two_pow
  have e : ((n : Int) - 1) = ((n - 1 : Nat) : Int) := by omega
  rw [e, bits_and_u32_nat a (n - 1) (by omega) (by omega), Int.toNat_natCast, hn, Nat.and_two_pow_sub_one_eq_mod]

/-- The probe table in block b: n places of six cells: to, time, used, echoed, lost, again. -/
def TabAt (w : World) (b n : Nat) (S : Nat → ByteArray) (U L : Nat → Bool) : Prop :=
  ∀ j, j < n → w.cell? ⟨b, j * 6, none⟩ = some (.string (S j)) ∧ w.cell? ⟨b, j * 6 + 2, none⟩ = some (.bool (U j)) ∧ w.cell? ⟨b, j * 6 + 4, none⟩ = some (.bool (L j))

def hashN (l : List UInt8) : Nat := (hashL l).toNat

set_option maxHeartbeats 400000 in
theorem slot_any (pb po b n : Nat) (m : Nat) (cap : Nat) (x : ByteArray) (S : Nat → ByteArray) (U L : Nat → Bool) (w : World) (hm : m ≤ 30) (hn : n = 2 ^ m)
    (ht : TabAt w b n S U L) (hp : w.cell? ⟨pb, po, none⟩ = some (.slice (some ⟨b, 0, none⟩) n cap)) (hx : x.size ≤ maxLen) (hfree : ∃ j, j < n ∧ U j = false) :
    Calls Try.prog 24 #[.pointer (some ⟨pb, po, none⟩), .string x] w fun e w' =>
      w' = w ∧ ∃ h : Nat, e = .returned (.int .i64 h) ∧ h < n ∧ SlotIs (fun j => (S j).toList) U n (hashN x.toList) x.toList h := by
  have hn31 : n ≤ 1073741824 := by rw [hn]; exact Nat.pow_le_pow_right (by omega) hm
  have hn0 : 1 ≤ n := by rw [hn]; exact Nat.one_le_two_pow
  have hr := hashL_range x.toList
  obtain ⟨d0, hd0⟩ := free_dist (hashN x.toList) hfree
  have HM : Hid (n = 2 ^ m) := hn
  have HD : Hid (U ((hashN x.toList + d0) % n) = false) := hd0
  clear hn hd0 hfree
  go_enter Try.func24, Try.ntmps24
  go_wp2_with (go_at_call 28; refine (hash_any x _ hx).mono ?_; rintro e w' ⟨rfl, rfl⟩)
  go_loopg [6] d0 (fun g h wr => wr = w' ∧ ∃ d, g + d = d0 ∧ h = .int .u32 (((hashN x.toList + d) % n : Nat) : Int) ∧ ∀ e, e < d → U ((hashN x.toList + e) % n) = true ∧ (S ((hashN x.toList + e) % n)).toList ≠ x.toList)
  case atStart => exact ⟨rfl, 0, rfl, by rw [and_mask _ hr.1 hr.2 m n hm HM.out]; rfl, fun e he => absurd he (by omega)⟩
  case round =>
    obtain ⟨rfl, d, hgd, rfl, hbef⟩ := hrel
    have hjn : (hashN x.toList + d) % n < n := Nat.mod_lt _ hn0
    obtain ⟨j, hj⟩ : ∃ j, j = (hashN x.toList + d) % n := ⟨_, rfl⟩
    rw [← hj] at hjn ⊢
    have HJ : Hid (j = (hashN x.toList + d) % n) := hj
    clear hj
    obtain ⟨c1, c2, c3⟩ := ht j hjn
    cases hu : U j with
    | false =>
      rw [hu] at c2
      have HU : Hid (U j = false) := hu
      clear hu
      go_wp2
      go_ret
      exact ⟨rfl, j, rfl, hjn, d, HJ.out, hbef, fun h => absurd (HU.out.symm.trans h) (by decide)⟩
    | true =>
      rw [hu] at c2
      have HU : Hid (U j = true) := hu
      clear hu
      by_cases hs : (S j).toList = x.toList
      · have hq : ((S j).toList == x.toList) = true := by simp [hs]
        have HS : Hid ((S j).toList = x.toList) := hs
        clear hs
        go_wp2
        go_ret
        exact ⟨rfl, j, rfl, hjn, d, HJ.out, hbef, fun _ => HS.out⟩
      · have hq : ((S j).toList == x.toList) = false := by simp [hs]
        have hdd : d ≠ d0 := by
          rintro rfl
          have h1 := HD.out
          rw [← HJ.out, HU.out] at h1
          exact absurd h1 (by decide)
        go_wp2
        go_roundg (gk - 1)
        case measure => omega
        case rel =>
          refine ⟨rfl, d + 1, by omega, ?_, ?_⟩
          · have e1 := and_mask ((j : Int) + 1) (by omega) (by omega) m n hm HM.out
            have e2 : ((j : Int) + 1).toNat = j + 1 := by omega
            rw [e2] at e1
            rw [e1, HJ.out, step_mod]
          · intro e he
            by_cases h : e = d
            · subst h; rw [← HJ.out]; exact ⟨HU.out, hs⟩
            · exact hbef e (by omega)
end Go.Proofs.Qxb6614768a
