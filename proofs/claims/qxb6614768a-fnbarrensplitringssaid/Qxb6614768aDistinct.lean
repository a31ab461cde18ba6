import Derived.Test.Qxb6614768aSearch
namespace Go.Proofs.Qxb6614768a
open Go.RowKit Go.Deep

/-- A bool that, if true, says that the names differ from one another. -/
def DistB (ns : List (List UInt8)) (e : Ending) : Prop := ∃ b, e = .returned (.bool b) ∧ (b = true → ns.Nodup)

/-- The first k names differ from all behind them. -/
def DistTo (ns : List (List UInt8)) (k : Nat) : Prop := ∀ i j, (hi : i < ns.length) → (hj : j < ns.length) → i < k → i < j → ns[i] ≠ ns[j]
def DistIn (ns : List (List UInt8)) (k m : Nat) : Prop := ∀ j, (hk : k < ns.length) → (hj : j < ns.length) → k < j → j < m → ns[k] ≠ ns[j]

theorem distTo_all {ns : List (List UInt8)} (h : DistTo ns ns.length) : ns.Nodup := by
  rw [List.nodup_iff_pairwise_ne, List.pairwise_iff_getElem]
  exact fun i j hi hj hij => h i j hi hj hi hij
theorem distTo_succ {ns : List (List UInt8)} {k : Nat} (h : DistTo ns k) (h' : DistIn ns k ns.length) : DistTo ns (k + 1) := by
  intro i j hi hj hik hij
  by_cases e : i = k
  · subst e; exact h' j hi hj hij hj
  · exact h i j hi hj (by omega) hij
theorem distIn_succ {ns : List (List UInt8)} {k m : Nat} (h : DistIn ns k m) (hk : k < ns.length) (hm : m < ns.length) (hne : ns[k] ≠ ns[m]) : DistIn ns k (m + 1) := by
  intro j _ hj hkj hjm
  by_cases e : j = m
  · subst e; exact hne
  · exact h j hk hj hkj (by omega)

theorem drewN_two (w : World) (a b : Nat) : (w.drewN a).drewN b = w.drewN (a + b) := by simp [World.drewN, Nat.add_assoc]

set_option maxHeartbeats 1000000 in
theorem distinct_any (a : Option Addr) (c : Nat) (ns : List ByteArray) (w : World) (hs : StrsAt w a ns) (hl : ns.length ≤ 1048576) :
    Calls Try.prog 15 #[.slice a ns.length c] w fun e w' => DistB (nms ns) e ∧ ∃ n, w' = w.drewN n := by
  go_enter Try.func15, Try.ntmps15
  go_wp2
  go_loopw [3] (fun i wr => ∃ k : Nat, k ≤ ns.length ∧ i = .int .i64 k ∧ DistTo (nms ns) k ∧ ∃ n, wr = w.drewN n) (fun i _ => ns.length - (intOf i).toNat)
  case atStart => exact ⟨0, by omega, rfl, fun _ _ _ _ h => absurd h (by omega), 0, rfl⟩
  case round =>
    obtain ⟨k, hk, rfl, hd, n, rfl⟩ := hrel
    by_cases hlt : k < ns.length
    · obtain ⟨b, o, rfl, hck⟩ := hs k hlt
      have hk0 : (k : Int) < (ns.length : Int) := by omega
      go_wp2
      go_loopw [4] (fun i wr => ∃ m : Nat, k < m ∧ m ≤ ns.length ∧ i = .int .i64 m ∧ DistIn (nms ns) k m ∧ ∃ n, wr = w.drewN n) (fun i _ => ns.length - (intOf i).toNat)
      case atStart => exact ⟨k + 1, by omega, by omega, by go_num, fun _ _ _ h1 h2 => absurd h1 (by omega), n, rfl⟩
      case round =>
        obtain ⟨m, hkm, hm, rfl, hdi, n', rfl⟩ := hrel
        by_cases hml : m < ns.length
        · obtain ⟨b', o', hbo, hcm⟩ := hs m hml
          simp only [Option.some.injEq, Addr.mk.injEq, and_true] at hbo
          obtain ⟨rfl, rfl⟩ := hbo
          have hm0 : (m : Int) < (ns.length : Int) := by omega
          have HK : Hid ((nms ns)[k]'(by rw [nms_length]; exact hlt) = ns[k].toList) := nms_get ns k hlt
          have HM : Hid ((nms ns)[m]'(by rw [nms_length]; exact hml) = ns[m].toList) := nms_get ns m hml
          by_cases q : ns[k].toList = ns[m].toList
          · have q' : (ns[k].toList == ns[m].toList) = true := by simp [q]
            clear q
            go_wp2
            go_quiet (fail)
            go_wp2
            go_ret
            exact ⟨⟨_, rfl, fun h => absurd h (by simp)⟩, _, drewN_two _ _ _⟩
          · have q' : (ns[k].toList == ns[m].toList) = false := by simp [q]
            have Q := hide q
            clear q
            go_wp2
            go_quiet (fail)
            go_wp2
            go_roundw
            case rel => exact ⟨m + 1, by omega, by omega, by go_num, distIn_succ hdi (by rw [nms_length]; exact hlt) (by rw [nms_length]; exact hml) (by rw [HK.out, HM.out]; exact Q.out), _, rfl⟩
            case measure => simp [intOf]; omega
        · have hmn : m = (nms ns).length := by rw [nms_length]; omega
          go_wp2
          go_roundw
          case rel => exact ⟨k + 1, by omega, by go_num, distTo_succ hd (hmn ▸ hdi), _, rfl⟩
          case measure => simp [intOf]; omega
    · go_wp2
      go_ret
      refine ⟨⟨_, rfl, fun _ => distTo_all ?_⟩, _, rfl⟩
      rw [nms_length]
      have : k = ns.length := by omega
      exact this ▸ hd

/-- A bool that, if true, says that each ring names its members once. -/
def RingsDistB (rs : List RingD) (e : Ending) : Prop := ∃ b, e = .returned (.bool b) ∧ (b = true → ∀ r ∈ rs, (nms r.names).Nodup)

set_option maxHeartbeats 1000000 in
theorem ringsDistinct_any (a : Option Addr) (c : Nat) (rs : List RingD) (w : World) (hR : RingsAt w a rs) (hr : rs.length ≤ 1048576) (hn : ∀ r ∈ rs, r.names.length ≤ 1048576 ∧ r.kids.length ≤ 1048576) :
    Calls Try.prog 7 #[.slice a rs.length c] w fun e w' => RingsDistB rs e ∧ ∃ n, w' = w.drewN n := by
  go_enter Try.func7, Try.ntmps7
  go_wp2
  go_loopw [3] (fun i wr => ∃ k : Nat, k ≤ rs.length ∧ i = .int .i64 k ∧ (∀ r ∈ rs.take k, (nms r.names).Nodup) ∧ ∃ n, wr = w.drewN n) (fun i _ => rs.length - (intOf i).toNat)
  case atStart => exact ⟨0, by omega, rfl, by simp, 0, rfl⟩
  case round =>
    obtain ⟨k, hk, rfl, hd, n, rfl⟩ := hrel
    have HD := hide hd
    clear hd
    by_cases hlt : k < rs.length
    · obtain ⟨rb, ro, rfl, na, nc, ka, kc, g0, g1, g2, g3, g4, gn, gk⟩ := hR k hlt
      obtain ⟨bn, bk⟩ := hn _ (List.getElem_mem hlt)
      go_wp2_with fail
      refine (distinct_any na nc rs[k].names (w.drewN n) gn bn).mono ?_
      rintro e w' ⟨⟨b, rfl, hb⟩, n', rfl⟩
      cases b with
      | true =>
        have HB := hide (hb rfl)
        clear hb
        go_wp2
        go_roundw
        case rel =>
          refine ⟨k + 1, by omega, by go_num, ?_, _, rfl⟩
          · intro r hr
            rw [List.take_succ_eq_append_getElem hlt, List.mem_append, List.mem_singleton] at hr
            rcases hr with hr | rfl
            · exact HD.out r hr
            · exact HB.out
        case measure => simp [intOf]; omega
      | false =>
        go_wp2
        go_ret
        exact ⟨⟨_, rfl, fun h => absurd h (by simp)⟩, _, rfl⟩
    · go_wp2
      go_ret
      refine ⟨⟨_, rfl, fun _ r hr => HD.out r ?_⟩, _, rfl⟩
      rw [List.take_of_length_le (by omega)]; exact hr
end Go.Proofs.Qxb6614768a
