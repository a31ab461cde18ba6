import Derived.Test.Qxb6614883aIndex
namespace Go.Proofs.Qxb6614883a
open Go.RowKit Go.Deep

/-- Of what was there block b alone has turned. -/
structure Only (b : Nat) (w w' : World) : Prop where
  os : w'.os = w.os
  tape : w'.tape = w.tape
  output : w'.output = w.output
  size : w.heap.size ≤ w'.heap.size
  block : ∀ k, k < w.heap.size → k ≠ b → w'.heap[k]? = w.heap[k]?
theorem Only.refl (b : Nat) (w : World) : Only b w w := ⟨rfl, rfl, rfl, Nat.le_refl _, fun _ _ _ => rfl⟩
theorem Only.set {b : Nat} {w w' : World} (h : Only b w w') (o : Nat) (v : Value) : Only b w (w'.setCell ⟨b, o, none⟩ v) :=
  ⟨h.os, h.tape, h.output, by simpa using h.size, fun k hk hb => by rw [blk_setCell_other _ _ _ _ hb]; exact h.block k hk hb⟩
theorem Only.drew {b : Nat} {w w' : World} (h : Only b w w') : Only b w w'.drew := ⟨h.os, h.tape, h.output, h.size, h.block⟩
theorem Only.below {b B : Nat} {w w' : World} (h : Only b w w') (hB : B ≤ b) (hs : B ≤ w.heap.size) : Below B w w' :=
  ⟨h.os, h.tape, h.output, h.size, fun k hk => h.block k (by omega) (by omega)⟩
theorem cell_of_blk {w w' : World} {a : Addr} (h : w'.heap[a.block]? = w.heap[a.block]?) : w'.cell? a = w.cell? a := by simp [World.cell?, h]
theorem frozen_of_blk {w w' : World} {a : Addr} (h : w'.heap[a.block]? = w.heap[a.block]?) : w'.frozen? a = w.frozen? a := by simp [World.frozen?, h]
theorem Only.cell {b : Nat} {w w' : World} (h : Only b w w') {a : Addr} {v : Value} (hc : w.cell? a = some v) (ha : a.block ≠ b) : w'.cell? a = some v :=
  (cell_of_blk (h.block _ (block_lt_of_cell hc) ha)).trans hc
theorem Only.row {b : Nat} {w w' : World} (h : Only b w w') {b' : Nat} {t : TypeId} {n : Nat} {f : Nat → Value} (hr : w.rowIs b' t n f) (ha : b' ≠ b) : w'.rowIs b' t n f := hr.of_block (h.block _ hr.lt ha)

/-- Where the client at i lies. -/
theorem hole_at {n : Nat} {home T : Nat → Nat} {P : Nat → Prop} {z g i : Nat} (h : Hole n home T P z g i) (h0 : T (i % n) ≠ 0) : P (T (i % n) - 1) ∧ hq n home z (T (i % n) - 1) ≤ i ∧ i < z + n := by
  have hn : 0 < n := by have := h.zn; omega
  have hgi := h.gi
  have hgz := h.gz
  have hiz' := h.iz
  have hiz : i ≠ z + n := fun e => h0 (by rw [e, Nat.add_mod_right, Nat.mod_eq_of_lt h.zn]; exact h.z0)
  have hne : i % n ≠ g % n := fun e => by have := cut_inj (z := z) (by omega) (by omega) (by omega) (by omega) e; omega
  have hP := h.mem _ (Nat.mod_lt _ hn) hne h0
  refine ⟨hP, ?_, by omega⟩
  obtain ⟨p, p1, p2, p3, p4, p5, p6⟩ := h.path _ hP
  have hpg : p % n ≠ g % n ∨ p < z + 1 := by
    by_cases hpz : p < z + 1
    · exact .inr hpz
    · exact .inl fun e => p3 (cut_inj (z := z) (by omega) (by omega) (by omega) (by omega) e)
  rcases hpg with hpg | hpz
  · have he := h.inj _ _ (Nat.mod_lt i hn) (Nat.mod_lt p hn) hne hpg h0 (by omega)
    by_cases hpz : p < z + 1
    · omega
    · have := cut_inj (z := z) (by omega) (by omega) (by omega) (by omega) he
      omega
  · omega

theorem sub_mask (p q n m : Nat) (hm : m ≤ 16) (hn : n = 2 ^ m) (hpq : q ≤ p) (hd : p - q < n) :
    bits .and .u64 (IntKind.u64.wrap (((p % n : Nat) : Int) - ((q % n : Nat) : Int))) ((n : Int) - 1) = ((p - q : Nat) : Int) := by
  have hn0 : 1 ≤ n := by rw [hn]; exact Nat.one_le_two_pow
  rw [IntKind.wrap_u64, and_mask _ (by omega) (by omega) m n hm hn]
  have hdvd : (n : Int) ∣ 18446744073709551616 := by
    refine ⟨((2 ^ (64 - m) : Nat) : Int), ?_⟩
    rw [← Int.natCast_mul, hn, ← Nat.pow_add, show m + (64 - m) = 64 by omega]; rfl
  generalize hy : (((p % n : Nat) : Int) - ((q % n : Nat) : Int)) = y
  have h0 : 0 ≤ y % 18446744073709551616 := by omega
  have e1 : (((y % 18446744073709551616).toNat % n : Nat) : Int) = y % 18446744073709551616 % n := by
    rw [Int.natCast_emod, Int.toNat_of_nonneg h0]
  rw [e1, Int.emod_emod_of_dvd _ hdvd, ← hy, Int.natCast_emod, Int.natCast_emod, ← Int.sub_emod]
  have e2 : ((p : Int) - (q : Int)) = ((p - q : Nat) : Int) := by omega
  rw [e2, ← Int.natCast_emod, Nat.mod_eq_of_lt hd]

theorem hashOf_any (cb hbk len x : Nat) (h : Int) (w : World) (hcb : w.cell? ⟨cb, 0, none⟩ = some (.slice (some ⟨hbk, 0, none⟩) len len)) (hx : x < len) (_hl : len ≤ 4096) (hh : w.cell? ⟨hbk, x, none⟩ = some (.int .u64 h)) :
    Calls Try.prog 15 #[.int .u32 x, .pointer (some ⟨cb, 0, none⟩)] w fun e w' => e = .returned (.int .u64 h) ∧ w' = w := by
  go_enter Try.func15, Try.ntmps15
  go_wp2
  go_ret
  exact ⟨rfl, rfl⟩

set_option maxRecDepth 100000 in
set_option maxHeartbeats 2000000 in
theorem remove_any (xb b n L hbk len cb : Nat) (count : Int) (hz : Nat → Int) (T : Nat → Nat) (P : Nat → Prop) (c : Nat) (w : World) (h2 : L ≤ 16) (hn : n = 2 ^ L) (hlen : len ≤ 4096)
    (hh : HashAt w hbk len hz) (hr : ∀ i, 0 ≤ hz i ∧ hz i < 18446744073709551616) (hx0 : w.cell? ⟨xb, 0, none⟩ = some (.slice (some ⟨b, 0, none⟩) n n)) (hx1 : w.cell? ⟨xb, 1, none⟩ = some (.int .i64 count)) (hxf : w.frozen? ⟨xb, 1, none⟩ = false)
    (hcb : w.cell? ⟨cb, 0, none⟩ = some (.slice (some ⟨hbk, 0, none⟩) len len)) (hxb : xb ≠ b) (hhb : hbk ≠ b) (hcbb : cb ≠ b) (hS : SlotsAt w b n T) (hI : Inv n (fun c => (hz c).toNat % n) T P) (hP : ∀ c, P c → c < len) (hc : P c) (hf : ∃ z, z < n ∧ T z = 0)
    (hcount : 1 ≤ count ∧ count ≤ 4096) :
    Calls Try.prog 14 #[.pointer (some ⟨xb, 0, none⟩), .int .u32 c, .int .u64 (hz c), .func (.func 15) #[] #[.pointer (some ⟨cb, 0, none⟩)]] w fun e w' => e = .returned (.tuple #[]) ∧
      ∃ w1 T', w' = w1.setCell ⟨xb, 1, none⟩ (.int .i64 (count - 1)) ∧ Only b w w1 ∧ SlotsAt w1 b n T' ∧ Inv n (fun c => (hz c).toNat % n) T' (fun c' => P c' ∧ c' ≠ c) ∧ ∃ z, z < n ∧ T' z = 0 := by
  have hn31 : n ≤ 65536 := by rw [hn]; exact Nat.pow_le_pow_right (by omega) h2
  have hn0 : 1 ≤ n := by rw [hn]; exact Nat.one_le_two_pow
  have HN := hide hn
  obtain ⟨z, hz1, hz2⟩ := hf
  have hhome : ∀ c, (hz c).toNat % n < n := fun c => Nat.mod_lt _ hn0
  obtain ⟨g, g1, g2, g3, g4, hH⟩ := hole_start hn0 hhome hI hz1 hz2 c hc
  have hcl := hP c hc
  have hrc := hr c
  obtain ⟨hcn1, hcn2⟩ := hcount
  have G3 := hide g3
  have G4 := hide g4
  have HH := hide hH
  have HI := hide hI
  have HP := hide hP
  have HC := hide hc
  have hqr := hq_range (home := fun c => (hz c).toNat % n) (z := z) (hhome c) hz1
  have HQM : Hid (hq n (fun c => (hz c).toNat % n) z c % n = (hz c).toNat % n) := hq_mod (hhome c)
  clear hn g3 g4 hH hI hP hc hz2
  go_enter Try.func14, Try.ntmps14
  go_wp2
  go_loopg [9] (g - hq n (fun c => (hz c).toNat % n) z c) (fun k s wr => wr = w ∧ ∃ q, hq n (fun c => (hz c).toNat % n) z c ≤ q ∧ q ≤ g ∧ k = g - q ∧ s = .int .u64 ((q % n : Nat) : Int))
  case atStart => exact ⟨rfl, hq n (fun c => (hz c).toNat % n) z c, Nat.le_refl _, g1, rfl, by rw [and_mask _ hrc.1 hrc.2 L n h2 HN.out, HQM.out]⟩
  case round =>
    obtain ⟨hwr, q, q1, q2, rfl, rfl⟩ := hrel
    have hwr := hwr.symm
    subst hwr
    have hjn : q % n < n := Nat.mod_lt _ hn0
    obtain ⟨j, hj⟩ : ∃ j, j = q % n := ⟨_, rfl⟩
    rw [← hj] at hjn ⊢
    have HJ := hide hj
    clear hj
    have hcj := hS.cell hjn
    by_cases hqg : q < g
    · have htb : ((T j : Int) == (c : Int) + 1) = false := by
        rw [beq_eq_false_iff_ne]
        have := (G4.out q q1 hqg).2
        rw [← HJ.out] at this
        omega
      go_wp2
      go_roundg (g - q - 1)
      case measure => omega
      case rel =>
        refine ⟨rfl, q + 1, by omega, by omega, by omega, ?_⟩
        have e1 := and_mask ((j : Int) + 1) (by omega) (by omega) L n h2 HN.out
        have e2 : ((j : Int) + 1).toNat = j + 1 := by omega
        rw [e2] at e1
        rw [e1, HJ.out, Nat.mod_add_mod]
    · have hqe : q = g := by omega
      subst hqe
      have htb : ((T j : Int) == (c : Int) + 1) = true := by
        rw [beq_iff_eq]
        have := G3.out
        rw [← HJ.out] at this
        omega
      go_wp2
      clear htb hcj
      go_loopg [9, 10] (z + n - (q + 1)) (fun k sg si wr => ∃ (g i : Nat) (Tc : Nat → Nat), k = z + n - i ∧ sg = .int .u64 ((g % n : Nat) : Int) ∧ si = .int .u64 ((i % n : Nat) : Int) ∧ Only b w wr ∧ SlotsAt wr b n Tc ∧ Hole n (fun c => (hz c).toNat % n) Tc (fun c' => P c' ∧ c' ≠ c) z g i)
      case atStart =>
        refine ⟨q, q + 1, T, rfl, by rw [HJ.out], ?_, Only.refl _ _, hS, HH.out⟩
        have e1 := and_mask ((j : Int) + 1) (by omega) (by omega) L n h2 HN.out
        have e2 : ((j : Int) + 1).toNat = j + 1 := by omega
        rw [e2] at e1
        rw [e1, HJ.out, Nat.mod_add_mod]
      case round =>
        clear HH G3 G4 q1 q2 g1 g2 hqr HQM hjn HJ hqg
        obtain ⟨g, i, Tc, rfl, rfl, rfl, hO, hSc, hHc⟩ := hrel
        have HHC := hide hHc
        have hin : i % n < n := Nat.mod_lt _ hn0
        have hgn : g % n < n := Nat.mod_lt _ hn0
        have x0 := hO.cell hx0 hxb
        have x1 := hO.cell hx1 hxb
        have xc := hO.cell hcb hcbb
        have xh := hO.row hh hhb
        have xf : wr.frozen? ⟨xb, 1, none⟩ = false := by
          rw [frozen_of_blk (a := ⟨xb, 1, none⟩) (hO.block xb (block_lt_of_cell hx1) hxb)]; exact hxf
        obtain ⟨iN, hiN⟩ : ∃ iN, iN = i % n := ⟨_, rfl⟩
        obtain ⟨gN, hgN⟩ : ∃ gN, gN = g % n := ⟨_, rfl⟩
        rw [← hiN] at hin
        rw [← hgN] at hgn
        rw [← hiN, ← hgN]
        have IN := hide hiN
        have GN := hide hgN
        have ti := hSc.cell hin
        have tg := hSc.cell hgn
        have tf := fun s => hSc.frozen s
        by_cases ht : Tc iN = 0
        · have hfin := hole_end hhome hHc (by rw [← hiN]; exact ht)
          have hze : z ≠ gN := by
            have hgi := hHc.gi
            have hgz := hHc.gz
            have hiz := hHc.iz
            have hzn := hHc.zn
            intro e
            have e2 : (z + n) % n = g % n := by rw [Nat.add_mod_right, Nat.mod_eq_of_lt hzn, ← hgN]; exact e
            have := cut_inj (z := z) (by omega) (by omega) (by omega) (by omega) e2
            omega
          have hz0 := hHc.z0
          rw [← hgN] at hfin
          have HFIN := hide hfin
          have HROW := hide (hSc.set gN (.int .u32 0))
          have HZ0 := hide hz0
          have htb : ((Tc iN : Int) == 0) = true := by simp [ht]
          have htb2 : ((Tc iN : Int) != 0) = false := by simp [ht]
          have y0 := (hO.set gN (.int .u32 0)).cell hx0 hxb
          have y1 := (hO.set gN (.int .u32 0)).cell hx1 hxb
          have yf : (wr.setCell ⟨b, gN, none⟩ (.int .u32 0)).frozen? ⟨xb, 1, none⟩ = false := by simpa using xf
          have HO := hide (hO.set gN (.int .u32 0))
          clear hfin hHc hz0 hiN hgN ht
          go_wp2
          go_end0
          refine ⟨rfl, _, fun s => if s = gN then 0 else Tc s, rfl, HO.out, ?_, HFIN.out, z, hz1, by simp [hze, HZ0.out]⟩
          refine HROW.out.congr (fun s _ => ?_)
          by_cases e : s = gN <;> simp [e]
        · have ht' : Tc (i % n) ≠ 0 := by rw [← hiN]; exact ht
          obtain ⟨hPx, hqi, hiz⟩ := hole_at hHc ht'
          have hgi := hHc.gi
          have hgz := hHc.gz
          have hzn := hHc.zn
          have hqx := (hq_range (home := fun c => (hz c).toNat % n) (z := z) (hhome (Tc (i % n) - 1)) hzn)
          have hstay := hole_stay hHc ht'
          have hmove := hole_move hhome hHc ht'
          rw [← hiN] at hPx hqi hqx hstay hmove
          obtain ⟨x, hx⟩ : ∃ x, Tc iN = x + 1 := ⟨Tc iN - 1, by omega⟩
          have hx' : Tc iN - 1 = x := by omega
          rw [hx'] at hPx hqi hqx hstay hmove
          rw [hx, ← hgN] at hmove
          have hxl := HP.out _ hPx.1
          have hhx := xh.cell hxl
          have hrx := hr x
          have hxt : Tc iN ≠ 0 := ht
          have htb : (((x : Int) + 1) == 0) = false := by rw [beq_eq_false_iff_ne]; omega
          have E1 : Hid (bits BinOp.and IntKind.u64 (IntKind.u64.wrap ((iN : Int) - (gN : Int))) ((n : Int) - 1) = ((i - g : Nat) : Int)) := by
            show _ = _
            rw [hiN, hgN]; exact sub_mask i g n L h2 HN.out (by omega) (by omega)
          have E2 : Hid (bits BinOp.and IntKind.u64 (IntKind.u64.wrap ((iN : Int) - bits BinOp.and IntKind.u64 (hz x) ((n : Int) - 1))) ((n : Int) - 1) = ((i - hq n (fun c => (hz c).toNat % n) z x : Nat) : Int)) := by
            show _ = _
            rw [and_mask _ hrx.1 hrx.2 L n h2 HN.out, hiN, ← hq_mod (home := fun c => (hz c).toNat % n) (z := z) (c := x) (hhome x)]
            exact sub_mask i _ n L h2 HN.out hqi (by omega)
          have HST := hide hstay
          have HMV := hide hmove
          have HQI := hide hqi
          have HNX : Hid (bits BinOp.and IntKind.u64 ((iN : Int) + 1) ((n : Int) - 1) = (((i + 1) % n : Nat) : Int)) := by
            show _ = _
            have e1 := and_mask ((iN : Int) + 1) (by omega) (by omega) L n h2 HN.out
            have e2 : ((iN : Int) + 1).toNat = iN + 1 := by omega
            rw [e2] at e1
            rw [e1, hiN, Nat.mod_add_mod]
          have HROW := hide (hSc.set gN (.int .u32 ((x : Int) + 1)))
          clear ht ht' hHc hqx hstay hmove hPx hqi hiN hgN hx' hxt
          go_wp2_with fail
          refine (hashOf_any cb hbk len x (hz x) wr xc hxl hlen hhx).mono ?_
          rintro e w' ⟨rfl, hw⟩
          have hw := hw.symm
          subst hw
          by_cases hge : hq n (fun c => (hz c).toNat % n) z x ≤ g
          · have hcmp : bits BinOp.and IntKind.u64 (IntKind.u64.wrap ((iN : Int) - (gN : Int))) ((n : Int) - 1) ≤ bits BinOp.and IntKind.u64 (IntKind.u64.wrap ((iN : Int) - bits BinOp.and IntKind.u64 (hz x) ((n : Int) - 1))) ((n : Int) - 1) := by
              rw [E1.out, E2.out]; omega
            go_wp2
            go_region
            go_wp2
            go_roundg (z + n - (i + 1))
            case measure => omega
            case rel =>
              refine ⟨i, i + 1, fun s => if s = gN then x + 1 else Tc s, rfl, by rw [IN.out], by rw [HNX.out], (hO.set gN _).drew, ?_, HMV.out hge⟩
              refine HROW.out.congr (fun s _ => ?_)
              by_cases e : s = gN <;> simp [e]
          · have hcmp : bits BinOp.and IntKind.u64 (IntKind.u64.wrap ((iN : Int) - bits BinOp.and IntKind.u64 (hz x) ((n : Int) - 1))) ((n : Int) - 1) < bits BinOp.and IntKind.u64 (IntKind.u64.wrap ((iN : Int) - (gN : Int))) ((n : Int) - 1) := by
              rw [E1.out, E2.out]; have := HQI.out; omega
            go_wp2
            go_roundg (z + n - (i + 1))
            case measure => omega
            case rel => exact ⟨g, i + 1, Tc, rfl, by rw [GN.out], by rw [HNX.out], hO, hSc, HST.out (by omega)⟩
end Go.Proofs.Qxb6614883a
