import Derived.Test.Qxb6614768aRows
import Derived.WalkKit
import Derived.ProofKit
import Derived.Deep.LoopGhost
import Derived.Deep.OwnRows
namespace Go.Proofs.Qxb6614768a
open Go.RowKit

/-- The strings ss lie behind the address a, a cell each. -/
def StrsAt (w : World) (a : Option Addr) (ss : List ByteArray) : Prop :=
  ∀ k, (h : k < ss.length) → ∃ b o, a = some ⟨b, o, none⟩ ∧ w.cell? ⟨b, o + k, none⟩ = some (.string ss[k])

/-- The strings as lists of bytes. -/
def nms (ss : List ByteArray) : List (List UInt8) := ss.map ByteArray.toList
theorem nms_length (ss : List ByteArray) : (nms ss).length = ss.length := by simp [nms]
theorem nms_get (ss : List ByteArray) (k : Nat) (h : k < ss.length) : (nms ss)[k]'(by rw [nms_length]; exact h) = ss[k].toList := by simp [nms]

theorem take_mem_succ (x : List UInt8) (l : List (List UInt8)) (k : Nat) (h : k < l.length) (h1 : x ∉ l.take k) (h2 : l[k] ≠ x) : x ∉ l.take (k + 1) := by
  rw [List.take_succ_eq_append_getElem h]
  simp only [List.mem_append, List.mem_singleton, not_or]
  exact ⟨h1, fun e => h2 e.symm⟩

set_option maxHeartbeats 400000 in
theorem addLen_any (t n : Int) (w : World) :
    Calls Try.prog 13 #[.int .i64 t, .int .i64 n] w fun e w' => (∃ r, e = .returned (.int .i64 r)) ∧ w' = w := by
  by_cases h : 1048576 < n
  · go_enter Try.func13, Try.ntmps13
    go_wp2
    go_ret
    exact ⟨⟨_, rfl⟩, rfl⟩
  · go_enter Try.func13, Try.ntmps13
    go_wp2
    go_ret
    exact ⟨⟨_, rfl⟩, rfl⟩


set_option maxHeartbeats 400000 in
theorem in_any (x : ByteArray) (a : Option Addr) (cap : Nat) (ss : List ByteArray) (w : World) (hs : StrsAt w a ss) (hl : ss.length ≤ maxLen) :
    Calls Try.prog 19 #[.string x, .slice a ss.length cap] w fun e w' => e = .returned (.bool (decide (x.toList ∈ nms ss))) ∧ w' = w := by
  unfold maxLen at hl
  go_enter Try.func19, Try.ntmps19
  go_wp2
  go_loop [5] (fun i => ∃ k : Nat, k ≤ ss.length ∧ i = .int .i64 k ∧ x.toList ∉ (nms ss).take k) (fun i => ss.length - (intOf i).toNat)
  case atStart => exact ⟨0, Nat.zero_le _, rfl, by simp⟩
  case round =>
    obtain ⟨k, hk, rfl, hnot⟩ := hrel
    by_cases hlt : k < ss.length
    · obtain ⟨b, o, rfl, hc⟩ := hs k hlt
      have hget := nms_get ss k hlt
      have HG : Hid ((nms ss)[k]'(by rw [nms_length]; exact hlt) = ss[k].toList) := hget
      clear hget
      go_wp2
      · go_ret
        have he : (ss[k].toList == x.toList) = true := by assumption
        have hm : x.toList ∈ nms ss := by
          have := List.getElem_mem (l := nms ss) (n := k) (by rw [nms_length]; exact hlt)
          rw [HG.out, beq_iff_eq.1 he] at this
          exact this
        exact ⟨by simp [hm], rfl⟩
      · go_round
        case rel =>
          have he : (ss[k].toList == x.toList) = false := by assumption
          exact ⟨k + 1, by omega, by go_num, take_mem_succ _ _ _ (by rw [nms_length]; exact hlt) hnot (by rw [HG.out]; exact beq_eq_false_iff_ne.1 he)⟩
        case measure => simp [intOf]; omega
    · go_wp2
      go_ret
      have hn : x.toList ∉ nms ss := by rwa [List.take_of_length_le (by rw [nms_length]; omega)] at hnot
      exact ⟨by simp [hn], rfl⟩

set_option maxHeartbeats 400000 in
theorem stringsBytes_any (t : Int) (a : Option Addr) (cap : Nat) (ss : List ByteArray) (w : World) (hs : StrsAt w a ss) (hl : ss.length ≤ maxLen) :
    Calls Try.prog 14 #[.int .i64 t, .slice a ss.length cap] w fun e w' => (∃ r, e = .returned (.int .i64 r)) ∧ w' = w := by
  unfold maxLen at hl
  go_enter Try.func14, Try.ntmps14
  go_wp2
  go_loop [0, 5] (fun t i => ∃ k : Nat, k ≤ ss.length ∧ i = .int .i64 k ∧ ∃ r, t = .int .i64 r) (fun _ i => ss.length - (intOf i).toNat)
  case atStart => exact ⟨0, Nat.zero_le _, rfl, _, rfl⟩
  case round =>
    obtain ⟨k, hk, rfl, r, rfl⟩ := hrel
    by_cases hlt : k < ss.length
    · obtain ⟨b, o, rfl, hc⟩ := hs k hlt
      go_wp2_with (go_at_call 13; refine (addLen_any _ _ _).mono ?_; rintro e w' ⟨⟨r', rfl⟩, rfl⟩)
      · go_ret
        exact ⟨⟨_, rfl⟩, rfl⟩
      · go_round
        case rel => exact ⟨k + 1, by omega, by go_num, _, rfl⟩
        case measure => simp [intOf]; omega
    · go_wp2
      go_ret
      exact ⟨⟨_, rfl⟩, rfl⟩

theorem ret_int {k : IntKind} {a b : Int} (h : a = b) : Ending.returned (.int k a) = .returned (.int k b) := by rw [h]
theorem ret_bool {a b : Bool} (h : a = b) : Ending.returned (.bool a) = .returned (.bool b) := by rw [h]

/-- FNV-1a as the model reckons it. -/
def hashStep (h : Int) (c : UInt8) : Int := bits BinOp.xor IntKind.u32 h ((c.toNat : Int) % 4294967296) * 16777619 % 4294967296
def hashL (l : List UInt8) : Int := l.foldl hashStep 2166136261
theorem hashL_snoc (l : List UInt8) (c : UInt8) : hashL (l ++ [c]) = bits BinOp.xor IntKind.u32 (hashL l) ((c.toNat : Int) % 4294967296) * 16777619 % 4294967296 := by
  simp [hashL, List.foldl_append, hashStep]
theorem take_snoc (s : ByteArray) (k : Nat) (h : k < s.size) : s.data.toList.take (k + 1) = s.data.toList.take k ++ [s[k]] := by
  rw [List.take_succ_eq_append_getElem (by simpa using h)]; rfl
theorem hashL_range (l : List UInt8) : 0 ≤ hashL l ∧ hashL l < 4294967296 := by
  rcases List.eq_nil_or_concat l with rfl | ⟨l', c, rfl⟩
  · decide
  · rw [List.concat_eq_append, hashL_snoc]; omega

set_option maxHeartbeats 400000 in
theorem hash_any (x : ByteArray) (w : World) (hl : x.size ≤ maxLen) :
    Calls Try.prog 28 #[.string x] w fun e w' => e = .returned (.int .u32 (hashL x.toList)) ∧ w' = w := by
  unfold maxLen at hl
  go_enter Try.func28, Try.ntmps28
  go_wp2
  go_loop [3, 4] (fun h i => ∃ k : Nat, k ≤ x.size ∧ i = .int .i64 k ∧ h = .int .u32 (hashL (x.data.toList.take k))) (fun _ i => x.size - (intOf i).toNat)
  case atStart => exact ⟨0, Nat.zero_le _, rfl, rfl⟩
  case round =>
    obtain ⟨k, hk, rfl, rfl⟩ := hrel
    by_cases hlt : k < x.size
    · have HS : Hid (hashL (x.data.toList.take (k + 1)) = bits BinOp.xor IntKind.u32 (hashL (x.data.toList.take k)) ((x[k].toNat : Int) % 4294967296) * 16777619 % 4294967296) := by
        rw [take_snoc x k hlt, hashL_snoc]; rfl
      go_wp2
      go_round
      case rel => exact ⟨k + 1, by omega, by go_num, by rw [HS.out]⟩
      case measure => simp [intOf]; omega
    · go_wp2
      go_ret
      exact ⟨ret_int (by rw [List.take_of_length_le (by simp; omega), ByteArray.toList_eq]), rfl⟩


end Go.Proofs.Qxb6614768a
