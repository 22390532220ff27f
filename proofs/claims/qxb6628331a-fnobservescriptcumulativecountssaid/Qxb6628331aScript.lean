/- FnObserveScriptCumulativeCounts: the walk. -/
import Derived.Test.Qxb6628331aCounts
namespace Go.Proofs.Qxb6628331a
open Go.RowKit

set_option maxHeartbeats 400000 in
theorem bytes4_no (ao bo : Option Addr) (n m cap cc : Nat) (w : World) (hn : n ≤ maxLen) (hm : m ≤ maxLen) (h : ¬ n + m ≤ 1048576) :
    Calls Try.prog 15 #[.slice ao n cap, .slice bo m cc] w fun e w' => e = .returned (.bool false) ∧ w' = w := by
  unfold maxLen at hn hm
  by_cases h1 : n ≤ 1048576
  · by_cases h2 : m ≤ 1048576
    · go_enter Try.func15, Try.ntmps15
      go_wp2
      go_ret
      exact ⟨rfl, rfl⟩
    · go_enter Try.func15, Try.ntmps15
      go_wp2
      go_ret
      exact ⟨rfl, rfl⟩
  · go_enter Try.func15, Try.ntmps15
    go_wp2
    go_ret
    exact ⟨rfl, rfl⟩

theorem bytes4_yes (ao bo : Option Addr) (n m cap cc : Nat) (w : World) (h : n + m ≤ 1048576) :
    Calls Try.prog 15 #[.slice ao n cap, .slice bo m cc] w fun e w' => e = .returned (.bool true) ∧ w' = w := by
  go_enter Try.func15, Try.ntmps15
  go_wp2
  go_ret
  exact ⟨rfl, rfl⟩

/-- Where the law says nothing. -/
theorem script_out (ao bo : Option Addr) (n m cap cc : Nat) (w : World) (hn : n ≤ maxLen) (hm : m ≤ maxLen) (h : ¬ (n ≤ 4096 ∧ m ≤ 4096)) :
    Calls Try.prog 4 #[.slice ao n cap, .slice bo m cc] w fun e w' => e = .returned (.bool true) ∧ Below w.heap.size w w' := by
  by_cases hs : n + m ≤ 1048576
  · have hB := bytes4_yes ao bo n m cap cc w hs
    by_cases h1 : n ≤ 4096
    · have h2 : ¬ m ≤ 4096 := fun h2 => h ⟨h1, h2⟩
      go_enter Try.func4, Try.ntmps4
      go_wp2_with fail
      refine hB.mono ?_
      rintro e w1 ⟨rfl, rfl⟩
      clear hB
      go_wp2_with fail
      go_ret
      exact ⟨rfl, Below.refl _ _⟩
    · clear h
      go_enter Try.func4, Try.ntmps4
      go_wp2_with fail
      refine hB.mono ?_
      rintro e w1 ⟨rfl, rfl⟩
      clear hB
      go_wp2_with fail
      go_ret
      exact ⟨rfl, Below.refl _ _⟩
  · have hB := bytes4_no ao bo n m cap cc w hn hm hs
    go_enter Try.func4, Try.ntmps4
    go_wp2_with fail
    refine hB.mono ?_
    rintro e w1 ⟨rfl, rfl⟩
    clear hB
    go_wp2_with fail
    go_ret
    exact ⟨rfl, Below.refl _ _⟩

theorem wrap_small {x : Int} (h0 : 0 ≤ x) (h1 : x ≤ 10000) : IntKind.u64.wrap x = x := by
  have e : IntKind.u64.wrap x = x % 18446744073709551616 := by simp [IntKind.wrap, IntKind.bits, IntKind.signed]
  rw [e]; omega

/-- The counts after j observations. -/
def cts (I : Nat → Nat) (j : Nat) : Nat → Int := fun i => (cnt (fun t => I t == i) j : Int)

theorem cts_zero (I : Nat → Nat) : cts I 0 = fun _ => 0 := rfl

theorem cts_step (I : Nat → Nat) (j : Nat) (hj : j ≤ 4096) : bump (cts I j) (I j) = cts I (j + 1) := by
  funext i
  unfold bump cts
  have h := cnt_le (fun t => I t == I j) j
  by_cases e : i = I j
  · subst e
    rw [if_pos rfl, wrap_small (by omega) (by omega)]
    simp [cnt]
  · rw [if_neg e]
    have e2 : (I j == i) = false := by simp; exact fun h => e h.symm
    simp [cnt, e2]

/-- The first bucket of each observation. -/
theorem exists_ixs (n J : Nat) (f v : Nat → Nat) (h : Asc n f) : ∃ I : Nat → Nat, ∀ t, t < J → IsIx n (fun i => le (v t) (f i)) (I t) := by
  have hx : ∀ t, ∃ k, IsIx n (fun i => le (v t) (f i)) k := fun t => exists_ix n _ (h.mono (v t))
  exact ⟨fun t => Classical.choose (hx t), fun t _ => Classical.choose_spec (hx t)⟩

/-- What stands behind the observations. -/
structure After (B : Nat) (w0 w8 : World) (p g gg : Nat) (a1 a2 a3 : Option Addr) (n c3 m J : Nat) (f v I : Nat → Nat) (s : Nat) : Prop where
  hist : Hi B w8 p g a3 n c3 m (cts I J) s
  run : Run v J s
  got : ∀ i, i < m → w8.cell? ⟨gg, i, none⟩ = some (.int .u64 (cts I J i))
  bds : Fl B w8 a1 n f
  vs : Fl B w8 a2 J v
  bel : Below w0.heap.size w0 w8
  ixs : ∀ t, t < J → IsIx n (fun i => le (v t) (f i)) (I t)

theorem Hi.drewN {B : Nat} {w : World} {p g : Nat} {ao : Option Addr} {n cap m : Nat} {c : Nat → Int} {s : Int} (h : Hi B w p g ao n cap m c s) (q : Nat) : Hi B (w.drewN q) p g ao n cap m c s := ⟨h.hist, h.low, h.own⟩
theorem drew_drewN (w : World) (q : Nat) : (w.drewN q).drew = w.drewN (q + 1) := rfl

set_option maxHeartbeats 4000000 in
theorem script_main (ao bo : Option Addr) (n J m cap cc : Nat) (f v : Nat → Nat) (w : World) (hn : n ≤ 4096) (hJ : J ≤ 4096) (hmn : m = n + 1) (hnil : ao = none → n = 0) (hnil2 : bo = none → J = 0) (hf : Fl w.heap.size w ao n f) (hv : Fl w.heap.size w bo J v) :
    Calls Try.prog 4 #[.slice ao n cap, .slice bo J cc] w fun e w' => e = .returned (.bool true) ∧ Below w.heap.size w w' := by
  have hmn1 : n < m := by omega
  have hm : m ≤ 4097 := by omega
  have hne : ((m : Int) != (n : Int) + 1) = false := by simp; omega
  have hB := bytes4_yes ao bo n J cap cc w (by omega)
  have HF : Hid (Fl w.heap.size w ao n f ∧ Fl w.heap.size w bo J v) := ⟨hf, hv⟩
  have HM : Hid (m = n + 1) := hmn
  have HN : Hid ((ao = none → n = 0) ∧ (bo = none → J = 0)) := ⟨hnil, hnil2⟩
  clear hf hv hmn hnil hnil2
  obtain ⟨i0, hi, hz0, hz1, hz2⟩ := info_parts info24
  go_enter Try.func4, Try.ntmps4
  go_wp2_with fail
  refine hB.mono ?_
  rintro e w0 ⟨rfl, rfl⟩
  clear hB
  go_wp2_with fail
  refine (asc_any w0.heap.size ao n cap f w0 (by omega) HF.out.1).mono ?_
  rintro e w1 ⟨hE, nq, rfl⟩
  rcases hE with rfl | ⟨rfl, hasc⟩
  · go_wp2_with fail
    go_ret
    exact ⟨rfl, below_drewN (Below.refl _ _) _⟩
  have HA : Hid (Asc n f) := hasc
  clear hasc
  go_wp2_with fail
  refine (cloneF_any w0.heap.size ao n cap f (w0.drewN nq) (by omega) (Nat.le_refl _) HN.out.1 HF.out.1).mono ?_
  rintro e w2 ⟨a1, c1, rfl, n1, f1, b1⟩
  have B2 : Hid (Below w0.heap.size w0 w2) := drewN_below b1
  have z2 : w0.heap.size ≤ w2.heap.size := B2.out.size
  have F2 : Hid ((a1 = none → n = 0) ∧ Fl w2.heap.size w2 a1 n f) := ⟨n1, f1⟩
  clear n1 f1 b1
  go_wp2_with fail
  refine (cloneF_any w0.heap.size bo J cc v w2 (by omega) z2 HN.out.2 (HF.out.2.later B2.out)).mono ?_
  rintro e w3 ⟨a2, c2, rfl, n2, f2, b3⟩
  have B3 : Hid (Below w2.heap.size w2 w3) := b3
  have z3 : w2.heap.size ≤ w3.heap.size := b3.size
  have V3 : Hid (Fl w3.heap.size w3 a2 J v) := f2
  clear n2 f2 b3
  go_wp2_with (at_make; refine wpList_make_full _ rfl _ _ 23 rfl w3.heap.size 24 i0 (.int .u64 0) 1 Try.underlying23 hi hz0 hz1 _ _ _ _ m rfl rfl ?c4 ?c5 ?c1 ?c2 ?c3 ?_)
  case c4 => have := HM.out; omega
  case c5 => have := HM.out; omega
  case c1 => first | omega | (rw [hz2]; omega)
  case c2 => unfold maxLen; omega
  case c3 => exact Nat.le_refl _
  intro w4 hown hgrow
  have B4 : Hid (Below w3.heap.size w3 w4) := (Below.refl _ _).grown hgrow (Nat.le_refl _) (fun k hk => by cases hk)
  have z4 : w3.heap.size < w4.heap.size := (hown.lt _ rfl).2
  have Z4 : Hid (∀ i, i < m → w4.cell? ⟨w3.heap.size, 0 + i, none⟩ = some (.int .u64 0)) := by
    intro i hi
    rw [Nat.zero_add, hown.cellAt i (by omega)]
    simp [toList_madeCells_one, hi]
  clear hown hgrow hi hz0 hz1 hz2
  go_wp2_with fail
  have F4 : Hid (Fl w3.heap.size w4 a1 n f) := ((F2.out.2.later B3.out).mono z3).later B4.out
  refine (cloneF_any w3.heap.size a1 n c1 f w4 (by omega) (by omega) F2.out.1 F4.out).mono ?_
  rintro e w5 ⟨a3, c3, rfl, n3, f3, b5⟩
  have B5 : Hid (Below w4.heap.size w4 w5) := b5
  have z5 : w4.heap.size ≤ w5.heap.size := b5.size
  have F5 : Hid (Fl w5.heap.size w5 a3 n f) := f3
  have Z5 : Hid (∀ i, i < m → w5.cell? ⟨w3.heap.size, 0 + i, none⟩ = some (.int .u64 ((fun _ => 0 : Nat → Int) i))) := fun i hi => cell_later B5.out (Z4.out i hi)
  clear n3 f3 b5 Z4
  go_wp2_with fail
  refine (newHist_any a3 n c3 w3.heap.size 0 m m (fun _ => 0) 0 w5 (by omega) Z5.out).mono ?_
  rintro e w6 ⟨p, g, rfl, hh, b6⟩
  have B6 : Hid (Below w5.heap.size w5 w6) := b6
  have z6 : w5.heap.size ≤ w6.heap.size := b6.size
  obtain ⟨I, hI⟩ := exists_ixs n J f v HA.out
  have HI : Hid (∀ t, t < J → IsIx n (fun i => le (v t) (f i)) (I t)) := hI
  have H6 : Hid (Hi w5.heap.size w6 p g a3 n c3 m (cts I 0) ((0 : Nat) : Int) ∧ Run v 0 0 ∧ Below w5.heap.size w5 w6) := ⟨hh, rfl, b6⟩
  have F6 : Hid (Fl w5.heap.size w5 a3 n f ∧ Fl w5.heap.size w5 a2 J v) := ⟨F5.out, (((V3.out.later B4.out).mono (Nat.le_of_lt z4)).later B5.out).mono z5⟩
  clear hh b6 Z5 hI
  go_wp2_with fail
  go_loopw [7] (fun i wr => ∃ j s : Nat, j ≤ J ∧ i = .int .i64 j ∧ Hi w5.heap.size wr p g a3 n c3 m (cts I j) s ∧ Run v j s ∧ Below w5.heap.size w5 wr) (fun i _ => J - (intOf i).toNat)
  case atStart => exact ⟨0, 0, Nat.zero_le _, rfl, H6.out⟩
  case round =>
    obtain ⟨j, s, hj, rfl, hh, hr, hb⟩ := hrel
    have HR : Hid (Hi w5.heap.size wr p g a3 n c3 m (cts I j) s ∧ Run v j s ∧ Below w5.heap.size w5 wr) := ⟨hh, hr, hb⟩
    clear hh hr hb
    by_cases hlt : j < J
    · obtain ⟨ga, oa, rfl, _, hca⟩ : ∃ g off, a2 = some ⟨g, off, none⟩ ∧ g < w5.heap.size ∧ ∀ i, i < J → wr.cell? ⟨g, off + i, none⟩ = some (.float .f64 (v i)) := by
        rcases F6.out.2.later HR.out.2.2 with h | h
        · omega
        · exact h
      have cv := hca j hlt
      clear hca
      have hO := observe_any w5.heap.size p g a3 n c3 m (v j) s f (cts I j) wr (by omega) hmn1 (F6.out.1.later HR.out.2.2) HA.out HR.out.1
      go_wp2_with fail
      refine hO.mono ?_
      rintro e w7 ⟨rfl, k, s', hk, hs, hh, b7⟩
      have ek : k = I j := hk.uniq (HI.out j hlt)
      subst ek
      rw [cts_step I j (by omega)] at hh
      have HR2 : Hid (Hi w5.heap.size w7 p g a3 n c3 m (cts I (j + 1)) s' ∧ Run v (j + 1) s' ∧ Below w5.heap.size w5 w7) := ⟨hh, ⟨s, HR.out.2.1, hs⟩, HR.out.2.2.trans b7⟩
      clear hk hs hh b7 hO HR
      go_wp2_with fail
      go_roundw
      case rel => exact ⟨j + 1, s', by omega, by go_num, HR2.out⟩
      case measure => simp [intOf]; omega
    · have ej : j = J := by omega
      subst ej
      clear hlt
      go_wp2_with fail
      refine (counts_any w5.heap.size p g a3 n c3 m (cts I j) s wr (by omega) HR.out.1).mono ?_
      rintro e w8 ⟨rfl, u8, b8⟩
      have hb8 : Below w5.heap.size w5 w8 := HR.out.2.2.trans (b8.mono HR.out.2.2.size)
      have A8 : Hid (After w5.heap.size w0 w8 p g wr.heap.size a1 a2 a3 n c3 m j f v I s) :=
        ⟨HR.out.1.later b8 (Nat.le_refl _), HR.out.2.1, u8, ((F4.out.mono (Nat.le_of_lt z4)).later B5.out |>.mono z5).later hb8, F6.out.2.later hb8,
          ((((B2.out.trans (B3.out.mono z2)).trans (B4.out.mono (by omega))).trans (B5.out.mono (by omega)))).trans (hb8.mono (by omega)), HI.out⟩
      clear u8 b8 hb8 HR H6 F6 HI HA F5 F4 V3 B2 B3 B4 B5 B6 F2
      obtain ⟨gg, hgg⟩ : ∃ gg, wr.heap.size = gg := ⟨_, rfl⟩
      rw [hgg] at A8
      go_wp2_with fail
      clear hgg
      go_loopg [9, 10] n (fun q r i wx => ∃ t nq : Nat, t ≤ n ∧ q = n - t ∧ i = .int .i64 t ∧ r = .int .u64 (cnt (fun x => decide (I x < t)) j) ∧ wx = w8.drewN nq)
      case atStart => exact ⟨0, 0, Nat.zero_le _, by omega, rfl, by rw [cnt_none]; rfl, rfl⟩
      case round =>
        obtain ⟨t, nq2, ht, rfl, rfl, rfl, rfl⟩ := hrel
        obtain ⟨A, hA⟩ : ∃ A, cnt (fun x => decide (I x < t)) j = A := ⟨_, rfl⟩
        have hA2 : A ≤ 4096 := by rw [← hA]; have := cnt_le (fun x => decide (I x < t)) j; omega
        obtain ⟨Bc, hBc⟩ : ∃ Bc, cnt (fun x => I x == t) j = Bc := ⟨_, rfl⟩
        have hB2 : Bc ≤ 4096 := by rw [← hBc]; have := cnt_le (fun x => I x == t) j; omega
        have cg : w8.cell? ⟨gg, t, none⟩ = some (.int .u64 (Bc : Int)) := by rw [← hBc]; exact A8.out.got t (by omega)
        have HAB : Hid (cnt (fun x => decide (I x < t)) j = A ∧ cnt (fun x => I x == t) j = Bc ∧ cnt (fun x => decide (I x < t + 1)) j = A + Bc) := ⟨hA, hBc, by rw [cnt_below, hA, hBc]⟩
        rw [hA]
        clear hA hBc
        by_cases hlt : t < n
        · have HD : Hid (cnt (fun y => le (v y) (f t)) j = A + Bc) := by
            rw [← HAB.out.2.2]
            exact (cnt_same fun y hy => ix_lt (A8.out.ixs y hy) hlt).symm
          obtain ⟨gb, ob, rfl, _, hcb⟩ : ∃ g off, a1 = some ⟨g, off, none⟩ ∧ g < w5.heap.size ∧ ∀ i, i < n → w8.cell? ⟨g, off + i, none⟩ = some (.float .f64 (f i)) := by
            rcases A8.out.bds with h | h
            · omega
            · exact h
          have cb := hcb t hlt
          clear hcb
          have hltm : (t : Int) < (m : Int) := by omega
          go_wp2_with fail
          go_loopg [11, 12] j (fun q x i wx => ∃ u nq : Nat, u ≤ j ∧ q = j - u ∧ i = .int .i64 u ∧ x = .int .u64 (cnt (fun y => le (v y) (f t)) u) ∧ wx = w8.drewN nq)
          case atStart => exact ⟨0, nq2, Nat.zero_le _, by omega, rfl, rfl, rfl⟩
          case round =>
            obtain ⟨u, nq3, hu, rfl, rfl, rfl, rfl⟩ := hrel
            by_cases hul : u < j
            · obtain ⟨gv, ov, rfl, _, hcv⟩ : ∃ g off, a2 = some ⟨g, off, none⟩ ∧ g < w5.heap.size ∧ ∀ i, i < j → w8.cell? ⟨g, off + i, none⟩ = some (.float .f64 (v i)) := by
                rcases A8.out.vs with h | h
                · omega
                · exact h
              have cv := hcv u hul
              clear hcv
              have hul' : (u : Int) < (j : Int) := by omega
              have hlt' : (t : Int) < (n : Int) := by omega
              have hcu := cnt_le (fun y => le (v y) (f t)) u
              obtain ⟨D, hD⟩ : ∃ D, cnt (fun y => le (v y) (f t)) u = D := ⟨_, rfl⟩
              rw [hD] at hcu
              have HU : Hid (cnt (fun y => le (v y) (f t)) u = D ∧ cnt (fun y => le (v y) (f t)) (u + 1) = D + (if le (v u) (f t) then 1 else 0)) := ⟨hD, by rw [cnt, hD]⟩
              rw [hD]
              clear hD
              cases hP : le (v u) (f t)
              · have hP' : (FloatKind.f64.format.order (v u) (f t) == some Ordering.lt || FloatKind.f64.format.order (v u) (f t) == some Ordering.eq) = false := hP
                have HP : Hid (le (v u) (f t) = false) := hP
                clear hP
                go_wp2_with fail
                go_quiet (fail)
                go_wp2_with fail
                go_roundg (j - (u + 1))
                case measure => omega
                case rel => exact ⟨u + 1, _, by omega, rfl, by go_num, by rw [HU.out.2, HP.out]; simp, by first | rfl | rw [drewN_two]⟩
              · have hP' : (FloatKind.f64.format.order (v u) (f t) == some Ordering.lt || FloatKind.f64.format.order (v u) (f t) == some Ordering.eq) = true := hP
                have HP : Hid (le (v u) (f t) = true) := hP
                clear hP
                go_wp2_with fail
                go_quiet (fail)
                go_wp2_with fail
                go_roundg (j - (u + 1))
                case measure => omega
                case rel => exact ⟨u + 1, _, by omega, rfl, by go_num, by rw [HU.out.2, HP.out]; simp, by first | rfl | rw [drewN_two]⟩
            · have eu : j = u := by omega
              subst eu
              rw [HD.out, Int.natCast_add]
              go_wp2_with fail
              go_roundg (n - (t + 1))
              case measure => omega
              case rel => exact ⟨t + 1, nq3, by omega, rfl, by go_num, by rw [HAB.out.2.2, Int.natCast_add], rfl⟩
        · have et : n = t := by omega
          subst et
          have hS : ((A : Int) + (Bc : Int) != (j : Int)) = false := by
            have h1 := HAB.out.2.2
            rw [cnt_all (fun x hx => by have := (A8.out.ixs x hx).1; simp; omega)] at h1
            simp; omega
          go_wp2_with fail
          go_loopg [13, 14] j (fun q x i wx => ∃ u nq y : Nat, u ≤ j ∧ q = j - u ∧ i = .int .i64 u ∧ x = .float .f64 y ∧ Run v u y ∧ wx = w8.drewN nq)
          case atStart => exact ⟨0, nq2, 0, Nat.zero_le _, by omega, rfl, rfl, rfl, rfl⟩
          case round =>
            obtain ⟨u, nq3, y, hu, rfl, rfl, rfl, hrun, rfl⟩ := hrel
            have HR : Hid (Run v u y) := hrun
            clear hrun
            by_cases hul : u < j
            · obtain ⟨gv, ov, rfl, _, hcv⟩ : ∃ g off, a2 = some ⟨g, off, none⟩ ∧ g < w5.heap.size ∧ ∀ i, i < j → w8.cell? ⟨g, off + i, none⟩ = some (.float .f64 (v i)) := by
                rcases A8.out.vs with h | h
                · omega
                · exact h
              have cv := hcv u hul
              clear hcv
              cases hadd : Ieee.double.add y (v u) with
              | some r =>
                have hadd2 := add_some y (v u) r hadd
                go_wp2_with fail
                go_roundg (j - (u + 1))
                case measure => omega
                case rel => exact ⟨u + 1, nq3, r, by omega, rfl, by go_num, rfl, ⟨y, HR.out, .inl hadd⟩, rfl⟩
              | none =>
                have hadd2 := add_none y (v u) hadd
                go_wp2_with fail
                go_roundg (j - (u + 1))
                case measure => omega
                case rel => exact ⟨u + 1, nq3 + 1, _, by omega, rfl, by go_num, rfl, ⟨y, HR.out, .inr ⟨hadd, nanOf_nan _ _ _⟩⟩, rfl⟩
            · have eu : j = u := by omega
              subst eu
              go_wp2_with fail
              refine (sumBits_any _ p g _ _ _ _ _ _ (w8.drewN nq3) (A8.out.hist.drewN nq3)).mono ?_
              rintro e w9 ⟨rfl, rfl⟩
              have hag : Agree s y := run_agree A8.out.run HR.out
              go_wp2_with fail
              refine (matches_any s y _ hag).mono ?_
              rintro e w10 ⟨rfl, rfl⟩
              go_wp2_with fail
              go_ret
              exact ⟨rfl, below_drewN A8.out.bel _⟩

end Go.Proofs.Qxb6628331a
