/- The law's walk. -/
import Derived.Test.Qxb6628187aState
namespace Go.Proofs.Qxb6628187a
open Go.RowKit

theorem zzbytes_any (p : Nat) (ao : Option Addr) (n c : Nat) (w : World) (h : w.cell? ⟨p, 0, none⟩ = some (.slice ao n c)) :
    Calls Try.prog 9 #[.pointer (some ⟨p, 0, none⟩)] w fun e w' => e = .returned (.slice ao n c) ∧ w' = w := by
  go_enter Try.func9, Try.ntmps9
  go_wp2
  go_ret
  exact ⟨rfl, rfl⟩

theorem zzref_any (p : Nat) (r : Int) (w : World) (h : w.cell? ⟨p, 1, none⟩ = some (.int .u32 r)) :
    Calls Try.prog 12 #[.pointer (some ⟨p, 0, none⟩)] w fun e w' => e = .returned (.int .u32 r) ∧ w' = w := by
  go_enter Try.func12, Try.ntmps12
  go_wp2
  go_ret
  exact ⟨rfl, rfl⟩

theorem same_pre (a0 : Option Addr) (g1 len d1 c0 : Nat) (zs : List Int) (idn m : Nat) (w : World) (hz : zs.length = len) (hb : len ≤ 1048576) (hm : len ≤ m)
    (O : len = 0 ∨ ∃ g, a0 = some ⟨g, 0, none⟩ ∧ ∀ j, j < len → w.cell? ⟨g, j, none⟩ = some (.int .u8 (zs.getD j 0)))
    (x1 : ∀ j, j < m + 4 → w.cell? ⟨g1, j, none⟩ = some (.int .u8 ((laid zs idn).getD j 0))) :
    Calls Try.prog 10 #[.slice (some ⟨g1, 0, none⟩) len d1, .slice a0 len c0] w fun e w' => e = .returned (.bool true) ∧ ∃ nq, w' = w.drewN nq := by
  rcases O with rfl | ⟨g, rfl, hc⟩
  · exact same_empty _ _ _ _ w
  · refine same_true g1 g 0 0 len d1 c0 (fun j => zs.getD j 0) (by omega) w (fun i hi => ?_) (fun i hi => by rw [Nat.zero_add]; exact hc i hi)
    rw [Nat.zero_add, x1 i (by omega), laid_orig zs idn i (by omega)]

theorem same_all (g1 g2 d1 d2 : Nat) (zs : List Int) (idn m : Nat) (w : World) (hm : m ≤ 1048580)
    (x1 : ∀ j, j < m + 4 → w.cell? ⟨g1, j, none⟩ = some (.int .u8 ((laid zs idn).getD j 0)))
    (x2 : ∀ j, j < m + 4 → w.cell? ⟨g2, j, none⟩ = some (.int .u8 ((laid zs idn).getD j 0))) :
    Calls Try.prog 10 #[.slice (some ⟨g1, 0, none⟩) (m + 4) d1, .slice (some ⟨g2, 0, none⟩) (m + 4) d2] w fun e w' => e = .returned (.bool true) ∧ ∃ nq, w' = w.drewN nq :=
  same_true g1 g2 0 0 (m + 4) d1 d2 (fun j => (laid zs idn).getD j 0) (by omega) w (fun i hi => by rw [Nat.zero_add]; exact x1 i hi) (fun i hi => by rw [Nat.zero_add]; exact x2 i hi)

theorem read_id (g1 c : Nat) (zs : List Int) (idn m : Nat) (w : World) (hid : idn < 4294967296) (hz : zs.length + pad zs.length = m)
    (x1 : ∀ j, j < m + 4 → w.cell? ⟨g1, j, none⟩ = some (.int .u8 ((laid zs idn).getD j 0))) :
    Calls Try.prog 11 #[.slice (some ⟨g1, m, none⟩) 4 c] w fun e w' => e = .returned (.int .u32 idn) ∧ ∃ nq, w' = w.drewN nq := by
  have y : ∀ j, j < 4 → w.cell? ⟨g1, m + j, none⟩ = some (.int .u8 ([(idn : Int) % 256, (idn : Int) / 256 % 256, (idn : Int) / 65536 % 256, (idn : Int) / 16777216].getD j 0)) := by
    intro j hj
    rw [x1 (m + j) (by omega), laid_id zs idn j m hz hj]
  refine (read32_any g1 m c ((idn : Int) % 256) ((idn : Int) / 256 % 256) ((idn : Int) / 65536 % 256) ((idn : Int) / 16777216) w (by omega) (by omega) (by omega) (by omega) (y 0 (by omega)) (y 1 (by omega)) (y 2 (by omega)) (y 3 (by omega))).mono ?_
  rintro e w' ⟨rfl, h⟩
  refine ⟨?_, h⟩
  have : (idn : Int) % 256 + (idn : Int) / 256 % 256 * 256 + (idn : Int) / 65536 % 256 * 65536 + (idn : Int) / 16777216 * 16777216 = idn := by omega
  rw [this]

theorem main_big (ao : Option Addr) (len cap r : Nat) (pr : Bool) (w : World) (hm : len ≤ maxLen) (hb : ¬ len ≤ 1048576) :
    Calls Try.prog 3 #[.slice ao len cap, .int .u32 r, .bool pr] w fun e w' => e = .returned (.bool true) ∧ Below w.heap.size w w' := by
  unfold maxLen at hm
  have h1 : (1048576 : Int) < (len : Int) := by omega
  go_enter Try.func3, Try.ntmps3
  go_wp2
  go_ret
  exact ⟨rfl, Below.refl _ _⟩

theorem main_odd (ao : Option Addr) (len cap r : Nat) (pr : Bool) (w : World) (hb : len ≤ 1048576) (hr : ((r : Int) % 4 != 0) = true) :
    Calls Try.prog 3 #[.slice ao len cap, .int .u32 r, .bool pr] w fun e w' => e = .returned (.bool true) ∧ Below w.heap.size w w' := by
  have h1 : ¬ (1048576 : Int) < (len : Int) := by omega
  go_enter Try.func3, Try.ntmps3
  go_wp2
  go_ret
  exact ⟨rfl, Below.refl _ _⟩

set_option maxHeartbeats 1000000 in
theorem main_no (ao : Option Addr) (len cap r : Nat) (zs : List Int) (w : World) (hsrc : Src w ao len cap zs) (hb : len ≤ 1048576) (hr : ((r : Int) % 4 != 0) = false) :
    Calls Try.prog 3 #[.slice ao len cap, .int .u32 r, .bool false] w fun e w' => e = .returned (.bool true) ∧ Below w.heap.size w w' := by
  have h1 : ¬ (1048576 : Int) < (len : Int) := by omega
  have hpd := pad_le len
  have hzl : Hid (zs.length = len) := hsrc.1
  have hS : Hid (Src w ao len cap zs) := hsrc
  clear hsrc
  go_enter Try.func3, Try.ntmps3
  go_wp2_with (go_at_call 4; go_in)
  refine (clone_any ao len cap zs w hS.out hb).mono ?_
  rintro e w1 ⟨a0, c0, rfl, o0, b0⟩
  have hS1 : Hid (Src w1 ao len cap zs) := hS.out.later b0
  go_wp2_with fail
  refine (clone_any ao len cap zs w1 hS1.out hb).mono ?_
  rintro e w2 ⟨a1, c1, rfl, o1, b1⟩
  have hS2 : Hid (Src w2 ao len cap zs) := hS1.out.later b1
  go_wp2_with fail
  refine (clone_any ao len cap zs w2 hS2.out hb).mono ?_
  rintro e w3 ⟨a2, c2, rfl, o2, b2⟩
  go_wp2_with fail
  have k1 : Hid (w3.ownsRow 0 5 1 (.slice a1 len c1) len (zs.map U8)) := own_same o1 (Nat.zero_le _) (fun k hk => b2.block k (o1.lt k hk).2)
  refine (newWriter_any a1 len c1 r (zs.map U8) w3 k1.out).mono ?_
  rintro e w4 ⟨rfl, W4, b3, z3⟩
  go_wp2_with fail
  refine (pointer_no w3.heap.size r (.slice a1 len c1) len (zs.map U8) w4 W4 hb).mono ?_
  rintro e w5 ⟨rfl, s1', W5, f4⟩
  go_wp2_with fail
  have k2 := second_own o1 o2 b3 f4
  refine (newWriter_any a2 len c2 r (zs.map U8) w5 k2).mono ?_
  rintro e w6 ⟨rfl, W6, b5, z5⟩
  go_wp2_with fail
  refine (uint32_any w5.heap.size r (.slice a2 len c2) len 0 (by decide) (zs.map U8) w6 W6 hb).mono ?_
  rintro e w7 ⟨rfl, s2', W7, f6⟩
  obtain ⟨O0, V1, V2, B7⟩ := final_state o0 b0 o1 b1 o2 b2 b3 z3 W5 f4 b5 z5 W7 f6
  obtain ⟨p1, hp1⟩ : ∃ p, w3.heap.size = p := ⟨_, rfl⟩
  obtain ⟨p2, hp2⟩ : ∃ p, w5.heap.size = p := ⟨_, rfl⟩
  rw [hp1] at V1 ⊢
  rw [hp2] at V2 ⊢
  clear o0 b0 o1 b1 o2 b2 b3 z3 W4 W5 f4 b5 z5 W6 W7 f6 k1 k2 hS hS1 hS2 hp1 hp2
  obtain ⟨m, hm⟩ : ∃ m, len + pad len = m := ⟨_, rfl⟩
  obtain ⟨g1, d1, e1, hd1, x1⟩ := laid_own hzl.out hm V1.own
  obtain ⟨g2, d2, e2, hd2, x2⟩ := laid_own hzl.out hm V2.own
  subst e1
  subst e2
  have u1 := two_cell0 V1.block
  have u2 := two_cell0 V2.block
  have t1 := two_cell1 V1.block
  have t2 := two_cell1 V2.block
  have O := orig_cells O0
  have HM : Hid (len + pad len = m) := hm
  have hm1 : len ≤ m := by omega
  have hm2 : m ≤ 1048580 := by omega
  clear O0 V1 V2 hm
  go_wp2_with fail
  refine (zzbytes_any p1 _ _ _ w7 u1).mono ?_
  rintro e w8 ⟨rfl, rfl⟩
  go_wp2_with fail
  refine (zzbytes_any p2 _ _ _ _ u2).mono ?_
  rintro e w9 ⟨rfl, rfl⟩
  go_wp2_with fail
  go_loop [16] (fun i => ∃ k : Nat, len ≤ k ∧ k ≤ m ∧ i = .int .i64 k) (fun i => m - (intOf i).toNat)
  case atStart => exact ⟨len, Nat.le_refl _, hm1, rfl⟩
  case round =>
    obtain ⟨k, hk1, hk2, rfl⟩ := hrel
    by_cases hq : k % 4 = 0
    · have hkm : k = m := by have := HM.out; subst this; exact pad_stop hk1 hk2 hq
      subst hkm
      have hq' : (k : Int) % 4 = 0 := by omega
      go_wp2_with fail
      refine (same_pre a0 g1 len d1 c0 zs 0 k _ hzl.out hb hm1 O x1).mono ?_
      rintro e w10 ⟨rfl, nq, rfl⟩
      go_wp2_with fail
      go_loop [17] (fun i => ∃ j : Nat, len ≤ j ∧ j ≤ k ∧ i = .int .i64 j) (fun i => k - (intOf i).toNat)
      case atStart => exact ⟨len, Nat.le_refl _, hm1, rfl⟩
      case round =>
        obtain ⟨j, hj1, hj2, rfl⟩ := hrel
        by_cases hj : j < k
        · have hcj : w9.cell? ⟨g1, j, none⟩ = some (.int .u8 0) := by
            have hz := hzl.out
            have hm := HM.out
            rw [x1 j (by omega), laid_zero zs 0 j (by omega) (by rw [hz]; omega)]
          go_wp2
          go_round
          case rel => exact ⟨j + 1, by omega, by omega, by go_num⟩
          case measure => simp [intOf]; omega
        · go_wp2_with fail
          have hzm : zs.length + pad zs.length = k := by rw [hzl.out]; exact HM.out
          refine (read_id g1 _ zs 0 k (w9.drewN nq) (by decide) hzm x1).mono ?_
          clear hzm
          rintro e w11 ⟨rfl, nq2, rfl⟩
          go_wp2_with fail
          refine (same_all g1 g2 d1 d2 zs 0 k (w9.drewN (nq + nq2)) hm2 x1 x2).mono ?_
          rintro e w12 ⟨rfl, nq3, rfl⟩
          go_wp2_with fail
          refine (zzref_any p1 r (w9.drewN (nq + nq2 + nq3)) t1).mono ?_
          rintro e w13 ⟨rfl, rfl⟩
          go_wp2_with fail
          refine (zzref_any p2 r (w9.drewN (nq + nq2 + nq3)) t2).mono ?_
          rintro e w14 ⟨rfl, rfl⟩
          go_wp2_with fail
          go_ret
          exact ⟨rfl, B7.os, B7.tape, B7.output, B7.size, B7.block⟩
    · have hq' : ((k : Int) % 4 != 0) = true := by simp; omega
      have hk3 : k + 1 ≤ m := by have := HM.out; subst this; exact pad_go hk1 hk2 hq
      go_wp2
      go_round
      case rel => exact ⟨k + 1, by omega, by omega, by go_num⟩
      case measure => simp [intOf]; omega
set_option maxHeartbeats 1000000 in
theorem main_yes (ao : Option Addr) (len cap r : Nat) (zs : List Int) (w : World) (hsrc : Src w ao len cap zs) (hb : len ≤ 1048576) (hr : ((r : Int) % 4 != 0) = false) :
    Calls Try.prog 3 #[.slice ao len cap, .int .u32 r, .bool true] w fun e w' => e = .returned (.bool true) ∧ Below w.heap.size w w' := by
  have h1 : ¬ (1048576 : Int) < (len : Int) := by omega
  have hpd := pad_le len
  have hzl : Hid (zs.length = len) := hsrc.1
  have hS : Hid (Src w ao len cap zs) := hsrc
  clear hsrc
  obtain ⟨r', er⟩ : ∃ r', (r + 4) % 4294967296 = r' := ⟨_, rfl⟩
  obtain ⟨v, ev⟩ : ∃ v, (131072 + (r + 4)) % 4294967296 = v := ⟨_, rfl⟩
  have hv2 : v < 4294967296 := by omega
  have HE : Hid ((r + 4) % 4294967296 = r' ∧ (131072 + (r + 4)) % 4294967296 = v ∧ ((r : Int) + 4) % 4294967296 = (r' : Int) ∧ (131072 + (r' : Int)) % 4294967296 = (v : Int)) := ⟨er, ev, by omega, by omega⟩
  clear er ev
  go_enter Try.func3, Try.ntmps3
  go_wp2_with (go_at_call 4; go_in)
  refine (clone_any ao len cap zs w hS.out hb).mono ?_
  rintro e w1 ⟨a0, c0, rfl, o0, b0⟩
  have hS1 : Hid (Src w1 ao len cap zs) := hS.out.later b0
  go_wp2_with fail
  refine (clone_any ao len cap zs w1 hS1.out hb).mono ?_
  rintro e w2 ⟨a1, c1, rfl, o1, b1⟩
  have hS2 : Hid (Src w2 ao len cap zs) := hS1.out.later b1
  go_wp2_with fail
  refine (clone_any ao len cap zs w2 hS2.out hb).mono ?_
  rintro e w3 ⟨a2, c2, rfl, o2, b2⟩
  go_wp2_with fail
  rw [HE.out.2.2.1, HE.out.2.2.2]
  have k1 : Hid (w3.ownsRow 0 5 1 (.slice a1 len c1) len (zs.map U8)) := own_same o1 (Nat.zero_le _) (fun k hk => b2.block k (o1.lt k hk).2)
  refine (newWriter_any a1 len c1 r (zs.map U8) w3 k1.out).mono ?_
  rintro e w4 ⟨rfl, W4, b3, z3⟩
  go_wp2_with fail
  refine (pointer_yes w3.heap.size r (.slice a1 len c1) len (zs.map U8) w4 W4 hb).mono ?_
  rintro e w5 ⟨rfl, s1', W5, f4⟩
  rw [HE.out.1, HE.out.2.1] at W5
  go_wp2_with fail
  have k2 := second_own o1 o2 b3 f4
  refine (newWriter_any a2 len c2 r (zs.map U8) w5 k2).mono ?_
  rintro e w6 ⟨rfl, W6, b5, z5⟩
  go_wp2_with fail
  refine (uint32_any w5.heap.size r (.slice a2 len c2) len v hv2 (zs.map U8) w6 W6 hb).mono ?_
  rintro e w7 ⟨rfl, s2', W7, f6⟩
  obtain ⟨O0, V1, V2, B7⟩ := final_state o0 b0 o1 b1 o2 b2 b3 z3 W5 f4 b5 z5 W7 f6
  obtain ⟨p1, hp1⟩ : ∃ p, w3.heap.size = p := ⟨_, rfl⟩
  obtain ⟨p2, hp2⟩ : ∃ p, w5.heap.size = p := ⟨_, rfl⟩
  rw [hp1] at V1 ⊢
  rw [hp2] at V2 ⊢
  clear o0 b0 o1 b1 o2 b2 b3 z3 W4 W5 f4 b5 z5 W6 W7 f6 k1 k2 hS hS1 hS2 hp1 hp2
  obtain ⟨m, hm⟩ : ∃ m, len + pad len = m := ⟨_, rfl⟩
  obtain ⟨g1, d1, e1, hd1, x1⟩ := laid_own hzl.out hm V1.own
  obtain ⟨g2, d2, e2, hd2, x2⟩ := laid_own hzl.out hm V2.own
  subst e1
  subst e2
  have u1 := two_cell0 V1.block
  have u2 := two_cell0 V2.block
  have t1 := two_cell1 V1.block
  have t2 := two_cell1 V2.block
  have O := orig_cells O0
  have HM : Hid (len + pad len = m) := hm
  have hm1 : len ≤ m := by omega
  have hm2 : m ≤ 1048580 := by omega
  clear O0 V1 V2 hm
  go_wp2_with fail
  refine (zzbytes_any p1 _ _ _ w7 u1).mono ?_
  rintro e w8 ⟨rfl, rfl⟩
  go_wp2_with fail
  refine (zzbytes_any p2 _ _ _ _ u2).mono ?_
  rintro e w9 ⟨rfl, rfl⟩
  go_wp2_with fail
  go_loop [16] (fun i => ∃ k : Nat, len ≤ k ∧ k ≤ m ∧ i = .int .i64 k) (fun i => m - (intOf i).toNat)
  case atStart => exact ⟨len, Nat.le_refl _, hm1, rfl⟩
  case round =>
    obtain ⟨k, hk1, hk2, rfl⟩ := hrel
    by_cases hq : k % 4 = 0
    · have hkm : k = m := by have := HM.out; subst this; exact pad_stop hk1 hk2 hq
      subst hkm
      have hq' : (k : Int) % 4 = 0 := by omega
      go_wp2_with fail
      refine (same_pre a0 g1 len d1 c0 zs v k _ hzl.out hb hm1 O x1).mono ?_
      rintro e w10 ⟨rfl, nq, rfl⟩
      go_wp2_with fail
      go_loop [17] (fun i => ∃ j : Nat, len ≤ j ∧ j ≤ k ∧ i = .int .i64 j) (fun i => k - (intOf i).toNat)
      case atStart => exact ⟨len, Nat.le_refl _, hm1, rfl⟩
      case round =>
        obtain ⟨j, hj1, hj2, rfl⟩ := hrel
        by_cases hj : j < k
        · have hcj : w9.cell? ⟨g1, j, none⟩ = some (.int .u8 0) := by
            have hz := hzl.out
            have hm := HM.out
            rw [x1 j (by omega), laid_zero zs v j (by omega) (by rw [hz]; omega)]
          go_wp2
          go_round
          case rel => exact ⟨j + 1, by omega, by omega, by go_num⟩
          case measure => simp [intOf]; omega
        · go_wp2_with fail
          have hzm : zs.length + pad zs.length = k := by rw [hzl.out]; exact HM.out
          refine (read_id g1 _ zs v k (w9.drewN nq) hv2 hzm x1).mono ?_
          clear hzm
          rintro e w11 ⟨rfl, nq2, rfl⟩
          go_wp2_with fail
          refine (same_all g1 g2 d1 d2 zs v k (w9.drewN (nq + nq2)) hm2 x1 x2).mono ?_
          rintro e w12 ⟨rfl, nq3, rfl⟩
          go_wp2_with fail
          refine (zzref_any p1 r' (w9.drewN (nq + nq2 + nq3)) t1).mono ?_
          rintro e w13 ⟨rfl, rfl⟩
          go_wp2_with fail
          refine (zzref_any p2 r (w9.drewN (nq + nq2 + nq3)) t2).mono ?_
          rintro e w14 ⟨rfl, rfl⟩
          go_wp2_with fail
          go_ret
          exact ⟨rfl, B7.os, B7.tape, B7.output, B7.size, B7.block⟩
    · have hq' : ((k : Int) % 4 != 0) = true := by simp; omega
      have hk3 : k + 1 ≤ m := by have := HM.out; subst this; exact pad_go hk1 hk2 hq
      go_wp2
      go_round
      case rel => exact ⟨k + 1, by omega, by omega, by go_num⟩
      case measure => simp [intOf]; omega
end Go.Proofs.Qxb6628187a
