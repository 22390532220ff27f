/- FnObserveCountsItsBucketAndAddsToSum: the walk. -/
import Derived.Test.Qxb6628331aObserve
namespace Go.Proofs.Qxb6628331a
open Go.RowKit

set_option maxHeartbeats 400000 in
theorem bytes3_no (ao bo : Option Addr) (n m cap cc : Nat) (s : Int) (v : Nat) (w : World) (hn : n ≤ maxLen) (hm : m ≤ maxLen) (h : ¬ n + m ≤ 1048576) :
    Calls Try.prog 5 #[.slice ao n cap, .slice bo m cc, .int .u64 s, .float .f64 v] w fun e w' => e = .returned (.bool false) ∧ w' = w := by
  unfold maxLen at hn hm
  by_cases h1 : n ≤ 1048576
  · by_cases h2 : m ≤ 1048576
    · go_enter Try.func5, Try.ntmps5
      go_wp2
      go_ret
      exact ⟨rfl, rfl⟩
    · go_enter Try.func5, Try.ntmps5
      go_wp2
      go_ret
      exact ⟨rfl, rfl⟩
  · go_enter Try.func5, Try.ntmps5
    go_wp2
    go_ret
    exact ⟨rfl, rfl⟩

theorem bytes3_yes (ao bo : Option Addr) (n m cap cc : Nat) (s : Int) (v : Nat) (w : World) (h : n + m ≤ 1048576) :
    Calls Try.prog 5 #[.slice ao n cap, .slice bo m cc, .int .u64 s, .float .f64 v] w fun e w' => e = .returned (.bool true) ∧ w' = w := by
  go_enter Try.func5, Try.ntmps5
  go_wp2
  go_ret
  exact ⟨rfl, rfl⟩

/-- Where the law says nothing. -/
theorem counts_out (ao bo : Option Addr) (n m cap cc : Nat) (s : Int) (v : Nat) (w : World) (hn : n ≤ maxLen) (hm : m ≤ maxLen) (h : ¬ (n ≤ 65536 ∧ m ≤ 65536 ∧ m = n + 1)) :
    Calls Try.prog 3 #[.slice ao n cap, .slice bo m cc, .int .u64 s, .float .f64 v] w fun e w' => e = .returned (.bool true) ∧ Below w.heap.size w w' := by
  by_cases hs : n + m ≤ 1048576
  · have hB := bytes3_yes ao bo n m cap cc s v w hs
    by_cases h1 : n ≤ 65536
    · by_cases h2 : m ≤ 65536
      · have h3 : ((m : Int) != (n : Int) + 1) = true := by simp; omega
        go_enter Try.func3, Try.ntmps3
        go_wp2_with fail
        refine hB.mono ?_
        rintro e w1 ⟨rfl, rfl⟩
        clear hB
        go_wp2_with fail
        go_ret
        exact ⟨rfl, Below.refl _ _⟩
      · go_enter Try.func3, Try.ntmps3
        go_wp2_with fail
        refine hB.mono ?_
        rintro e w1 ⟨rfl, rfl⟩
        clear hB
        go_wp2_with fail
        go_ret
        exact ⟨rfl, Below.refl _ _⟩
    · go_enter Try.func3, Try.ntmps3
      go_wp2_with fail
      refine hB.mono ?_
      rintro e w1 ⟨rfl, rfl⟩
      clear hB
      go_wp2_with fail
      go_ret
      exact ⟨rfl, Below.refl _ _⟩
  · have hB := bytes3_no ao bo n m cap cc s v w hn hm hs
    go_enter Try.func3, Try.ntmps3
    go_wp2_with fail
    refine hB.mono ?_
    rintro e w1 ⟨rfl, rfl⟩
    clear hB
    go_wp2_with fail
    go_ret
    exact ⟨rfl, Below.refl _ _⟩

theorem below_drewN {B : Nat} {w w' : World} (h : Below B w w') (n : Nat) : Below B w (w'.drewN n) := ⟨h.os, h.tape, h.output, h.size, h.block⟩
theorem drewN_below {B : Nat} {w w' : World} {n : Nat} (h : Below B (w.drewN n) w') : Below B w w' := ⟨h.os, h.tape, h.output, h.size, h.block⟩

set_option maxHeartbeats 2000000 in
theorem counts_main (ao : Option Addr) (n m cap cb off cc s v : Nat) (f : Nat → Nat) (c : Nat → Int) (w : World) (hn : n ≤ 65535) (hmn : m = n + 1) (hnil : ao = none → n = 0) (hf : Fl w.heap.size w ao n f) (hc : ∀ i, i < m → w.cell? ⟨cb, off + i, none⟩ = some (.int .u64 (c i))) :
    Calls Try.prog 3 #[.slice ao n cap, .slice (some ⟨cb, off, none⟩) m cc, .int .u64 s, .float .f64 v] w fun e w' => e = .returned (.bool true) ∧ Below w.heap.size w w' := by
  have hmn1 : n < m := by omega
  have hm : m ≤ 65536 := by omega
  have hne : ((m : Int) != (n : Int) + 1) = false := by simp; omega
  have hB := bytes3_yes ao (some ⟨cb, off, none⟩) n m cap cc s v w (by omega)
  have HF : Hid (Fl w.heap.size w ao n f) := hf
  have HC : Hid (∀ i, i < m → w.cell? ⟨cb, off + i, none⟩ = some (.int .u64 (c i))) := hc
  have HM : Hid (m = n + 1) := hmn
  have HN : Hid (ao = none → n = 0) := hnil
  clear hf hc hmn hnil
  go_enter Try.func3, Try.ntmps3
  go_wp2_with fail
  refine hB.mono ?_
  rintro e w0 ⟨rfl, rfl⟩
  clear hB
  go_wp2_with fail
  refine (asc_any w0.heap.size ao n cap f w0 (by omega) HF.out).mono ?_
  rintro e w1 ⟨hE, nq, rfl⟩
  rcases hE with rfl | ⟨rfl, hasc⟩
  · go_wp2_with fail
    go_ret
    exact ⟨rfl, below_drewN (Below.refl _ _) _⟩
  have HA : Hid (Asc n f) := hasc
  clear hasc
  go_wp2_with fail
  refine (cloneF_any w0.heap.size ao n cap f (w0.drewN nq) (by omega) (Nat.le_refl _) HN.out HF.out).mono ?_
  rintro e w2 ⟨a1, c1, rfl, n1, f1, b1⟩
  have B2 : Hid (Below w0.heap.size w0 w2) := drewN_below b1
  have z2 : w0.heap.size ≤ w2.heap.size := B2.out.size
  have F2 : Hid ((a1 = none → n = 0) ∧ Fl w2.heap.size w2 a1 n f) := ⟨n1, f1⟩
  have C2 : Hid (∀ i, i < m → w2.cell? ⟨cb, off + i, none⟩ = some (.int .u64 (c i))) := fun i hi => cell_later B2.out (HC.out i hi)
  clear n1 f1 b1
  go_wp2_with fail
  refine (cloneU_any cb off m cc c w2 hm C2.out).mono ?_
  rintro e w3 ⟨rfl, u3, z3, b3⟩
  have B3 : Hid (Below w2.heap.size w2 w3) := b3
  have U3 : Hid (∀ i, i < m → w3.cell? ⟨w2.heap.size, 0 + i, none⟩ = some (.int .u64 (c i))) := fun i hi => by rw [Nat.zero_add]; exact u3 i hi
  clear u3 b3
  go_wp2_with fail
  refine (cloneF_any w2.heap.size a1 n c1 f w3 (by omega) (by omega) F2.out.1 (F2.out.2.later B3.out)).mono ?_
  rintro e w4 ⟨a2, c2, rfl, n2, f2, b4⟩
  have z4 : w3.heap.size ≤ w4.heap.size := b4.size
  have B4 : Hid (Below w3.heap.size w3 w4) := b4
  have F4 : Hid (Fl w4.heap.size w4 a2 n f) := f2
  have U4 : Hid (∀ i, i < m → w4.cell? ⟨w2.heap.size, 0 + i, none⟩ = some (.int .u64 (c i))) := fun i hi => cell_later B4.out (U3.out i hi)
  clear n2 f2 b4 U3
  go_wp2_with fail
  refine (cloneU_any w2.heap.size 0 m m c w4 hm U4.out).mono ?_
  rintro e w5 ⟨rfl, u5, z5, b5⟩
  have B5 : Hid (Below w4.heap.size w4 w5) := b5
  have U5 : Hid (∀ i, i < m → w5.cell? ⟨w4.heap.size, 0 + i, none⟩ = some (.int .u64 (c i))) := fun i hi => by rw [Nat.zero_add]; exact u5 i hi
  clear u5 b5
  go_wp2_with fail
  refine (newHist_any a2 n c2 w4.heap.size 0 m m c s w5 (by omega) U5.out).mono ?_
  rintro e w6 ⟨p, g, rfl, hh, b6⟩
  have B6 : Hid (Below w5.heap.size w5 w6) := b6
  have z6 : w5.heap.size ≤ w6.heap.size := b6.size
  have H6 : Hid (Hi w5.heap.size w6 p g a2 n c2 m c s ∧ Fl w5.heap.size w6 a2 n f) := ⟨hh, ((F4.out.later B5.out).mono (by omega)).later B6.out⟩
  clear hh b6 U5
  go_wp2_with fail
  refine (observe_any w5.heap.size p g a2 n c2 m v s f c w6 (by omega) hmn1 H6.out.2 HA.out H6.out.1).mono ?_
  rintro e w7 ⟨rfl, k, s', hk, hs, hh, b7⟩
  have z7 : w6.heap.size ≤ w7.heap.size := b7.size
  have H7 : Hid (Hi w5.heap.size w7 p g a2 n c2 m (bump c k) s' ∧ IsIx n (fun i => le v (f i)) k ∧ SumIs s v s' ∧ Below w5.heap.size w6 w7) := ⟨hh, hk, hs, b7⟩
  clear hh hk hs b7
  go_wp2_with fail
  refine (counts_any w5.heap.size p g a2 n c2 m (bump c k) s' w7 (by omega) H7.out.1).mono ?_
  rintro e w8 ⟨rfl, u8, b8⟩
  have hkn : k ≤ n := H7.out.2.1.1
  have BB : Hid (Below w5.heap.size w5 w8) := (B6.out.trans H7.out.2.2.2).trans (b8.mono (by omega))
  have H8 : Hid (Hi w5.heap.size w8 p g a2 n c2 m (bump c k) s') := H7.out.1.later b8 (Nat.le_refl _)
  have U8 : Hid (∀ i, i < m → w8.cell? ⟨w7.heap.size, i, none⟩ = some (.int .u64 (bump c k i))) := u8
  have C8 : Hid (∀ i, i < m → w8.cell? ⟨w2.heap.size, i, none⟩ = some (.int .u64 (c i))) := by
    intro i hi
    have h := cell_later B5.out (U4.out i hi)
    rw [Nat.zero_add] at h
    rw [← h]
    exact BB.out.cell (p := ⟨w2.heap.size, i, none⟩) (by show w2.heap.size < _; omega)
  have F8 : Hid (Fl w5.heap.size w8 a1 n f) := (((((F2.out.2.later B3.out).mono (Nat.le_of_lt z3)).later B4.out).mono z4).later B5.out |>.mono (Nat.le_of_lt z5)).later BB.out
  have B8 : Hid (Below w0.heap.size w0 w8) := ((((B2.out.trans (B3.out.mono z2)).trans (B4.out.mono (by omega))).trans (B5.out.mono (by omega)))).trans (BB.out.mono (by omega))
  clear u8 b8 U4 C2 B2 B3 B4 B5 B6 F2 F4 BB H6
  go_wp2_with fail
  go_loop [11, 12] (fun ix i => ∃ t : Nat, t ≤ n ∧ t ≤ k ∧ i = .int .i64 t ∧ ix = .int .i64 n) (fun _ i => n - (intOf i).toNat)
  case atStart => exact ⟨0, Nat.zero_le _, Nat.zero_le _, rfl, rfl⟩
  case round =>
    obtain ⟨t, ht, htk, rfl, rfl⟩ := hrel
    by_cases hlt : t < n
    · obtain ⟨ga, oa, rfl, _, hca⟩ : ∃ g off, a1 = some ⟨g, off, none⟩ ∧ g < w5.heap.size ∧ ∀ i, i < n → w8.cell? ⟨g, off + i, none⟩ = some (.float .f64 (f i)) := by
        rcases F8.out with h | h
        · omega
        · exact h
      have c1 := hca t hlt
      clear hca
      by_cases htk2 : t < k
      · have hP : le v (f t) = false := H7.out.2.1.2.1 t htk2
        have hP' : (FloatKind.f64.format.order v (f t) == some Ordering.lt || FloatKind.f64.format.order v (f t) == some Ordering.eq) = false := hP
        clear hP
        go_wp2_with fail
        go_round
        case rel => exact ⟨t + 1, by omega, by omega, by go_num, rfl⟩
        case measure => simp [intOf]; omega
      · have e : k = t := by omega
        subst e
        have hP : le v (f k) = true := H7.out.2.1.2.2 k (Nat.le_refl _) hlt
        have hP' : (FloatKind.f64.format.order v (f k) == some Ordering.lt || FloatKind.f64.format.order v (f k) == some Ordering.eq) = true := hP
        clear hP
        go_wp2_with fail
        go_loop [13] (fun i => ∃ t : Nat, t ≤ m ∧ i = .int .i64 t) (fun i => m - (intOf i).toNat)
        case atStart => exact ⟨0, Nat.zero_le _, rfl⟩
        case round =>
          obtain ⟨t2, ht2, rfl⟩ := hrel
          by_cases hlt2 : t2 < m
          · have cc1 := C8.out t2 hlt2
            have cc2 := U8.out t2 hlt2
            by_cases e2 : t2 = k
            · have e2' : ((t2 : Int) == (k : Int)) = true := by simp; omega
              have hbk : bump c k t2 = IntKind.u64.wrap (c t2 + 1) := by rw [e2]; simp [bump]
              rw [hbk] at cc2
              clear hbk e2
              go_wp2_with fail
              go_round
              case rel => exact ⟨t2 + 1, by omega, by go_num⟩
              case measure => simp [intOf]; omega
            · have e2' : ((t2 : Int) == (k : Int)) = false := by simp; omega
              have hbk : bump c k t2 = c t2 := by simp [bump, e2]
              rw [hbk] at cc2
              clear hbk e2
              obtain ⟨ct, hct⟩ : ∃ x, c t2 = x := ⟨_, rfl⟩
              rw [hct] at cc1 cc2
              clear hct
              go_wp2_with fail
              go_round
              case rel => exact ⟨t2 + 1, by omega, by go_num⟩
              case measure => simp [intOf]; omega
          · go_wp2_with fail
            refine (sumBits_any _ p g _ _ _ _ _ _ w8 H8.out).mono ?_
            rintro e w9 ⟨rfl, rfl⟩
            have hfb : ∀ w, (callFunc 14 #[.int .u64 (s : Int)]).run Try.prog w = .ok (.value (.float .f64 s)) w := fun w => frombits_run (s : Int) w
            cases hadd : Ieee.double.add s v with
            | some r =>
              have hA := add_some s v r hadd
              have hag : Agree s' r := agree_sum (.inl rfl) H7.out.2.2.1 (.inl hadd)
              go_wp2_with fail
              refine (matches_any s' r _ hag).mono ?_
              rintro e w10 ⟨rfl, rfl⟩
              go_wp2_with fail
              go_ret
              exact ⟨rfl, B8.out⟩
            | none =>
              have hA := add_none s v hadd
              go_wp2_with fail
              refine (matches_any s' _ _ (agree_sum (.inl rfl) H7.out.2.2.1 (.inr ⟨hadd, nanOf_nan _ _ _⟩))).mono ?_
              rintro e w10 ⟨rfl, rfl⟩
              go_wp2_with fail
              go_ret
              exact ⟨rfl, B8.out.drew⟩
    · have e : k = n := by omega
      subst e
      go_wp2_with fail
      go_loop [13] (fun i => ∃ t : Nat, t ≤ m ∧ i = .int .i64 t) (fun i => m - (intOf i).toNat)
      case atStart => exact ⟨0, Nat.zero_le _, rfl⟩
      case round =>
        obtain ⟨t2, ht2, rfl⟩ := hrel
        by_cases hlt2 : t2 < m
        · have cc1 := C8.out t2 hlt2
          have cc2 := U8.out t2 hlt2
          by_cases e2 : t2 = k
          · have e2' : ((t2 : Int) == (k : Int)) = true := by simp; omega
            have hbk : bump c k t2 = IntKind.u64.wrap (c t2 + 1) := by rw [e2]; simp [bump]
            rw [hbk] at cc2
            clear hbk e2
            go_wp2_with fail
            go_round
            case rel => exact ⟨t2 + 1, by omega, by go_num⟩
            case measure => simp [intOf]; omega
          · have e2' : ((t2 : Int) == (k : Int)) = false := by simp; omega
            have hbk : bump c k t2 = c t2 := by simp [bump, e2]
            rw [hbk] at cc2
            clear hbk e2
            obtain ⟨ct, hct⟩ : ∃ x, c t2 = x := ⟨_, rfl⟩
            rw [hct] at cc1 cc2
            clear hct
            go_wp2_with fail
            go_round
            case rel => exact ⟨t2 + 1, by omega, by go_num⟩
            case measure => simp [intOf]; omega
        · go_wp2_with fail
          refine (sumBits_any _ p g _ _ _ _ _ _ w8 H8.out).mono ?_
          rintro e w9 ⟨rfl, rfl⟩
          have hfb : ∀ w, (callFunc 14 #[.int .u64 (s : Int)]).run Try.prog w = .ok (.value (.float .f64 s)) w := fun w => frombits_run (s : Int) w
          cases hadd : Ieee.double.add s v with
          | some r =>
            have hA := add_some s v r hadd
            have hag : Agree s' r := agree_sum (.inl rfl) H7.out.2.2.1 (.inl hadd)
            go_wp2_with fail
            refine (matches_any s' r _ hag).mono ?_
            rintro e w10 ⟨rfl, rfl⟩
            go_wp2_with fail
            go_ret
            exact ⟨rfl, B8.out⟩
          | none =>
            have hA := add_none s v hadd
            go_wp2_with fail
            refine (matches_any s' _ _ (agree_sum (.inl rfl) H7.out.2.2.1 (.inr ⟨hadd, nanOf_nan _ _ _⟩))).mono ?_
            rintro e w10 ⟨rfl, rfl⟩
            go_wp2_with fail
            go_ret
            exact ⟨rfl, B8.out.drew⟩

end Go.Proofs.Qxb6628331a
